import PyProof.Rows.All
import Wide.All
import OpenK.AllK
import Wide.FinOn
import KE.KLam
import KE.KDictIter
import KE.KSuperObj
import KE.KSortTup
import KE.KRevSl
import PyProof.Rows.Chain
import Lean
import PySem.Challenge.RW_om0015_02

set_option Elab.async false
section
set_option maxRecDepth 100000
set_option maxHeartbeats 0
set_option Elab.async false
namespace Mine
open PySem PySem.W PyProof.Rows
section
local macro_rules | `(tactic| o_head $_) => `(tactic| skip)
theorem hk (h : (PySem.Challenge.rw_om0015_02.row).Holds) : (PySem.Challenge.rw_om0015_02.row).Holds := by
  k_head
  exact h
end
/-- one letter, under a name -/
noncomputable def oneA : Str := Str.ofString "a"
noncomputable def poi {x y : Str} (_ : x = y) (o : Obj) : Obj := o
/-- what stands in the top's heap -/
noncomputable def KK : Params → Frag := by
  intro P
  refine (?f : ∀ (o : Obj) (r : Frag), (hk.heap_1 P = (nat_lit 2, o) :: r) → Frag) _ _ (by delta hk.heap_1; exact rfl)
  exact fun o r _ => (nat_lit 2, poi (x := Str.ofString "a") (y := oneA) rfl o) :: r
theorem KK_eq : hk.heap_1 = KK := rfl
/-- where it stands -/
noncomputable def kAs : List Addr := [2, 3, 15, 17, 18, 20, 21, 22, 24, 25, 27, 28, 29, 31, 32, 34, 35, 36, 38, 39, 41, 42, 43, 45, 46, 48, 49, 50, 52, 53, 55, 56, 57, 58, 60, 61, 63, 64, 65, 66, 68, 69, 71, 72, 73, 75, 76, 78, 79, 80, 81, 82, 84, 85, 87, 88, 89, 92, 93, 94, 97, 98, 99, 101, 102, 104, 105, 106, 109, 110, 111, 113, 114, 116, 117, 118, 120, 121, 123, 124, 125, 127, 128, 130, 131, 132, 135, 136, 137, 140, 141]
/-- the program -/
noncomputable abbrev PP : Program := PySem.Challenge.rw_om0015_02.row.toRowW.prog
/-- what of its text is looked at -/
noncomputable def view : Program := { PP with main := { PP.main with body := [0, 2, 3, 4, 6, 7, 8, 13, 14, 17, 18, 19, 20, 21, 22, 23, 24, 25].filterMap (PP.main.body[·]?) } }
noncomputable def loose : List Str := [Str.ofString "b2a_base64", Str.ofString "b64encode", Str.ofString "_initial_missing", Str.ofString "reduce"]
noncomputable def kHk : Hook := kmHook KK kAs (fun _ => by kernel_rfl) [107, 74, 138]
theorem left : LeftO PP view loose (fun s => xlAt view [] s && recOk (RowW.records PySem.Challenge.rw_om0015_02.row.toRowW) s) (Hook.obs kHk) (Hook.val kHk) 1464 := fun w => by kernel_rfl
theorem wellSaid : OpenLaw.wellSaid PySem.Challenge.rw_om0015_02 = true := by kernel_rfl
local macro_rules | `(tactic| o_law) => `(tactic| refine holds_law wellSaid fun said => ?_)
local macro_rules | `(tactic| k_head) => `(tactic| (refine holds_open (q := view) (loose := loose) (Xt := fun s => xlAt view [] s && recOk (RowW.records PySem.Challenge.rw_om0015_02.row.toRowW) s) (XP := XL view []) (Yf := Hook.obs kHk) (Ya := Hook.val kHk) (YP := Hook.says kHk) (N := 1464) left (Hook.of kHk) (Hook.keeps kHk) (fun s e => xl_of s (Bool.and_eq_true_iff.mp e).1) XL.keeps (by rfl) (by rfl) (by rfl) (fun s e => recFacts_of (Bool.and_eq_true_iff.mp e).2) (by rfl) (by first | assumption | decide +kernel) (by decide +kernel) ⟨rfl, rfl, rfl, rfl, rfl, by decide +kernel⟩ ?hw ?hc))
open_top hd for PySem.Challenge.rw_om0015_02
end Mine
end

section
set_option genInjectivity false
set_option genSizeOf false
set_option genSizeOfSpec false
set_option maxRecDepth 100000
set_option tactic.hygienic false
namespace Mine
open PySem PySem.Calls PyProof.Rows PySem.W

/-- plain deep data -/
inductive D where
  | none
  | bool (b : Bool)
  | int (i : Int)
  | str (s : Str)
  | bytes (b : Array UInt8)
  | list (l : List D)
  | tup (l : List D)

/-- a list, a tuple as the interpreter makes them -/
noncomputable def LsAt (h : Heap) (a : Addr) (vs : List Value) : Prop := ∃ k, h.get? a = some { cls := .type "list", data := .seq vs.toArray k }
noncomputable def TpAt (h : Heap) (a : Addr) (vs : List Value) : Prop := ∃ k, h.get? a = some { cls := .type "tuple", data := .seq vs.toArray k }
theorem LsAt.isList {h : Heap} {a : Addr} {vs : List Value} (x : LsAt h a vs) : h.IsList a vs.toArray := let ⟨k, e⟩ := x; ⟨_, e, rfl, k, rfl⟩
theorem TpAt.isTuple {h : Heap} {a : Addr} {vs : List Value} (x : TpAt h a vs) : h.IsTuple a vs.toArray := let ⟨k, e⟩ := x; ⟨_, e, rfl, k, rfl⟩

mutual
/-- the value v stands for the datum d in the heap h, through no address of O -/
inductive Is (O : List Addr) (h : Heap) : Value → D → Prop
  | none : Is O h .none .none
  | bool (b : Bool) : Is O h (.bool b) (.bool b)
  | int (i : Int) (t : Tok) : Is O h (.int i t) (.int i)
  | str (x : Str) (t : Tok) : Is O h (.str x t) (.str x)
  | bytes (b : Array UInt8) (t : Tok) : Is O h (.bytes b t) (.bytes b)
  | list {a : Addr} {vs : List Value} {ds : List D} : LsAt h a vs → a ∉ O → IsAll O h vs ds → Is O h (.ref a) (.list ds)
  | tup {a : Addr} {vs : List Value} {ds : List D} : TpAt h a vs → a ∉ O → IsAll O h vs ds → Is O h (.ref a) (.tup ds)
inductive IsAll (O : List Addr) (h : Heap) : List Value → List D → Prop
  | nil : IsAll O h [] []
  | cons {v : Value} {d : D} {vs : List Value} {ds : List D} : Is O h v d → IsAll O h vs ds → IsAll O h (v :: vs) (d :: ds)
end

/-- what carries lists and tuples over -/
noncomputable def DataKeep (O : List Addr) (h h' : Heap) : Prop := ∀ b o, h.get? b = some o → (∃ xs n, o.data = .seq xs n) → b ∉ O → h'.get? b = some o

mutual
theorem Is.keep {O O' : List Addr} {h h' : Heap} (k : DataKeep O h h') (ho : ∀ a o, h.get? a = some o → a ∉ O → a ∉ O') : ∀ {v : Value} {d : D}, Is O h v d → Is O' h' v d
  | _, _, .none => .none
  | _, _, .bool b => .bool b
  | _, _, .int i t => .int i t
  | _, _, .str x t => .str x t
  | _, _, .bytes b t => .bytes b t
  | _, _, .list ⟨n, g⟩ ha hs => .list ⟨n, k _ _ g ⟨_, _, rfl⟩ ha⟩ (ho _ _ g ha) (IsAll.keep k ho hs)
  | _, _, .tup ⟨n, g⟩ ha hs => .tup ⟨n, k _ _ g ⟨_, _, rfl⟩ ha⟩ (ho _ _ g ha) (IsAll.keep k ho hs)
theorem IsAll.keep {O O' : List Addr} {h h' : Heap} (k : DataKeep O h h') (ho : ∀ a o, h.get? a = some o → a ∉ O → a ∉ O') : ∀ {vs : List Value} {ds : List D}, IsAll O h vs ds → IsAll O' h' vs ds
  | _, _, .nil => .nil
  | _, _, .cons x xs => .cons (Is.keep k ho x) (IsAll.keep k ho xs)
end

theorem IsAll.length {O : List Addr} {h : Heap} : ∀ {vs : List Value} {ds : List D}, IsAll O h vs ds → vs.length = ds.length
  | _, _, .nil => rfl
  | _, _, .cons _ xs => by rw [List.length_cons, List.length_cons, xs.length]
theorem IsAll.append {O : List Addr} {h : Heap} : ∀ {vs : List Value} {ds : List D} {us : List Value} {es : List D}, IsAll O h vs ds → IsAll O h us es → IsAll O h (vs ++ us) (ds ++ es)
  | _, _, _, _, .nil, y => y
  | _, _, _, _, .cons x xs, y => .cons x (xs.append y)
theorem IsAll.snoc {O : List Addr} {h : Heap} {vs : List Value} {ds : List D} {v : Value} {d : D} (x : IsAll O h vs ds) (y : Is O h v d) : IsAll O h (vs ++ [v]) (ds ++ [d]) := x.append (.cons y .nil)
theorem IsAll.get {O : List Addr} {h : Heap} : ∀ {vs : List Value} {ds : List D} {i : Nat} {d : D}, IsAll O h vs ds → ds[i]? = some d → ∃ v, vs[i]? = some v ∧ Is O h v d
  | _, _, _, _, .nil, e => by cases e
  | _, _, 0, _, .cons x _, e => by cases e; exact ⟨_, rfl, x⟩
  | _, _, i + 1, _, .cons _ xs, e => by
    have := IsAll.get (i := i) xs (by simpa using e)
    simpa using this
theorem IsAll.get' {O : List Addr} {h : Heap} : ∀ {vs : List Value} {ds : List D} {i : Nat} {v : Value}, IsAll O h vs ds → vs[i]? = some v → ∃ d, ds[i]? = some d ∧ Is O h v d
  | _, _, _, _, .nil, e => by cases e
  | _, _, 0, _, .cons x _, e => by cases e; exact ⟨_, rfl, x⟩
  | _, _, i + 1, _, .cons _ xs, e => by
    have := IsAll.get' (i := i) xs (by simpa using e)
    simpa using this
theorem IsAll.take {O : List Addr} {h : Heap} : ∀ {vs : List Value} {ds : List D} (n : Nat), IsAll O h vs ds → IsAll O h (vs.take n) (ds.take n)
  | _, _, 0, _ => .nil
  | _, _, _ + 1, .nil => .nil
  | _, _, n + 1, .cons x xs => .cons x (xs.take n)
theorem IsAll.drop {O : List Addr} {h : Heap} : ∀ {vs : List Value} {ds : List D} (n : Nat), IsAll O h vs ds → IsAll O h (vs.drop n) (ds.drop n)
  | _, _, 0, x => x
  | _, _, _ + 1, .nil => .nil
  | _, _, n + 1, .cons _ xs => xs.drop n
theorem IsAll.reverse {O : List Addr} {h : Heap} : ∀ {vs : List Value} {ds : List D}, IsAll O h vs ds → IsAll O h vs.reverse ds.reverse
  | _, _, .nil => .nil
  | _, _, .cons x xs => by rw [List.reverse_cons, List.reverse_cons]; exact xs.reverse.snoc x
theorem IsAll.ints {O : List Addr} {h : Heap} : ∀ {vs : List Value} {ns : List Int}, IsAll O h vs (ns.map .int) → IntsAre vs ns
  | [], [], _ => .nil
  | _ :: _, n :: ns, .cons x xs => by cases x; exact .cons _ _ (IsAll.ints xs)
theorem IsAll.ofInts {O : List Addr} {h : Heap} : ∀ {vs : List Value} {ns : List Int}, IntsAre vs ns → IsAll O h vs (ns.map .int)
  | _, _, .nil => .nil
  | _, _, .cons _ _ x => .cons (.int _ _) (IsAll.ofInts x)

/-! the heap's growth: all stands but the code tables TB, which may grow -/
structure Kp (TB : List Addr) (h h' : Heap) : Prop where
  keep : ∀ b o, h.get? b = some o → b ∉ TB → h'.get? b = some o
  tab : ∀ b ∈ TB, ∀ ps, h.get? b = some (X.tableObj ps) → ∃ more, h'.get? b = some (X.tableObj (ps ++ more))
noncomputable def TbOk (TB : List Addr) (h : Heap) : Prop := ∀ b ∈ TB, ∃ ps, h.get? b = some (X.tableObj ps)
theorem Kp.refl (TB : List Addr) (h : Heap) : Kp TB h h := ⟨fun _ _ e _ => e, fun _ _ ps e => ⟨#[], by rw [e]; simp⟩⟩
theorem Kp.trans {TB : List Addr} {h₁ h₂ h₃ : Heap} (x : Kp TB h₁ h₂) (y : Kp TB h₂ h₃) : Kp TB h₁ h₃ :=
  ⟨fun b o e n => y.keep b o (x.keep b o e n) n, fun b hb ps e => by
    refine Classical.byContradiction fun hN => ?_
    obtain ⟨m, e⟩ := x.tab b hb ps e
    obtain ⟨m', e⟩ := y.tab b hb _ e
    refine hN ?_
    clear hN
    exact ⟨m ++ m', by rw [e, Array.append_assoc]⟩⟩
theorem Kp.of {TB : List Addr} {h h' : Heap} (k : ∀ b o, h.get? b = some o → h'.get? b = some o) : Kp TB h h' :=
  ⟨fun b o e _ => k b o e, fun b _ ps e => ⟨#[], by rw [k _ _ e]; simp⟩⟩
theorem Kp.push {TB : List Addr} {h h' : Heap} (x : Kp TB h h') (o : Obj) : Kp TB h (h'.push o) := x.trans (.of fun _ _ e => Heap.get?_push_of_some o e)
theorem TbOk.kp {TB : List Addr} {h h' : Heap} (t : TbOk TB h) (x : Kp TB h h') : TbOk TB h' := fun b hb => by
  refine Classical.byContradiction fun hN => ?_
  obtain ⟨ps, e⟩ := t b hb
  obtain ⟨m, e⟩ := x.tab b hb ps e
  refine hN ?_
  clear hN
  exact ⟨_, e⟩
theorem TbOk.apart {TB : List Addr} {h : Heap} (t : TbOk TB h) {b : Addr} {o : Obj} (e : h.get? b = some o) (ho : ¬ ∃ ps, o = X.tableObj ps) : b ∉ TB := fun hb => by
  obtain ⟨ps, e'⟩ := t b hb
  rw [e] at e'; cases e'; exact ho ⟨ps, rfl⟩
theorem Kp.seq {TB : List Addr} {h h' : Heap} (x : Kp TB h h') (t : TbOk TB h) (O : List Addr) : DataKeep O h h' := fun b o e ⟨xs, n, hd⟩ _ =>
  x.keep b o e (t.apart e fun ⟨ps, q⟩ => by rw [q] at hd; cases hd)
/-- a stretch where one own object alone is turned -/
theorem Kp.sameBut {TB : List Addr} {h₀ h h' : Heap} {a : Addr} (x : Kp TB h₀ h) (hs : Heap.SameBut a h h') (ha : h₀.get? a = .none) : Kp TB h₀ h' := by
  refine ⟨fun b o e n => (hs.2 b fun q => ?_).trans (x.keep b o e n), fun b hb ps e => ?_⟩
  · rw [q, ha] at e; cases e
  · obtain ⟨m, e'⟩ := x.tab b hb ps e
    exact ⟨m, (hs.2 b fun q => by rw [q, ha] at e; cases e).trans e'⟩
theorem Kp.extBut {TB : List Addr} {h₀ h h' : Heap} {a : Addr} (x : Kp TB h₀ h) (hs : Heap.ExtBut a h h') (ha : h₀.get? a = .none) : Kp TB h₀ h' := by
  refine ⟨fun b o e n => hs b o (fun q => ?_) (x.keep b o e n), fun b hb ps e => ?_⟩
  · rw [q, ha] at e; cases e
  · obtain ⟨m, e'⟩ := x.tab b hb ps e
    exact ⟨m, hs b _ (fun q => by rw [q, ha] at e; cases e) e'⟩
theorem Kp.size {TB : List Addr} {h h' : Heap} (x : Kp TB h h') (t : TbOk TB h) {b : Addr} {o : Obj} (e : h.get? b = some o) : b < h'.objs.size := by
  by_cases hb : b ∈ TB
  · refine Classical.byContradiction fun hN => ?_
    obtain ⟨ps, e'⟩ := t b hb
    obtain ⟨m, e''⟩ := x.tab b hb ps e'
    refine hN ?_
    clear hN
    exact Heap.lt_size e''
  · exact Heap.lt_size (x.keep b o e hb)

/-- the state's growth -/
structure SK (TB : List Addr) (s s' : Shared) : Prop where
  kp : Kp TB s.heap s'.heap
  os : s'.os = s.os
  gens : ∃ more : Array GenState, s'.gens = s.gens ++ more ∧ AllBare more
theorem SK.refl (TB : List Addr) (s : Shared) : SK TB s s := ⟨.refl _ _, rfl, #[], by simp, .empty⟩
theorem bare_append {a b : Array GenState} (x : AllBare a) (y : AllBare b) : AllBare (a ++ b) := fun g hg => by
  rcases Array.mem_append.mp hg with h | h
  · exact x g h
  · exact y g h
theorem SK.trans {TB : List Addr} {s₁ s₂ s₃ : Shared} (x : SK TB s₁ s₂) (y : SK TB s₂ s₃) : SK TB s₁ s₃ := by
  refine Classical.byContradiction fun hN => ?_
  obtain ⟨m, e, b⟩ := x.gens
  obtain ⟨m', e', b'⟩ := y.gens
  refine hN ?_
  clear hN
  exact ⟨x.kp.trans y.kp, y.os.trans x.os, m ++ m', by rw [e', e, Array.append_assoc], bare_append b b'⟩
theorem SK.heap {TB : List Addr} {s : Shared} {h' : Heap} {tk : Nat} (x : Kp TB s.heap h') : SK TB s { s with heap := h', toks := tk } := ⟨x, rfl, #[], by simp, .empty⟩
theorem SK.toks {TB : List Addr} {s : Shared} (tk : Nat) : SK TB s { s with toks := tk } := .heap (.refl _ _)

/-- the world of the top: the written objects and the code tables -/
structure Wd (K : Frag) (TB : List Addr) (h : Heap) : Prop where
  k : K.In h
  tb : TbOk TB h
  ap : ∀ b ∈ TB, K.lookup b = none
theorem Wd.kp {K : Frag} {TB : List Addr} {h h' : Heap} (x : Wd K TB h) (y : Kp TB h h') : Wd K TB h' :=
  ⟨fun a o e => y.keep a o (x.k a o e) fun hb => (by rw [x.ap a hb] at e; cases e), x.tb.kp y, x.ap⟩
theorem Wd.sk {K : Frag} {TB : List Addr} {s s' : Shared} (x : Wd K TB s.heap) (y : SK TB s s') : Wd K TB s'.heap := x.kp y.kp
theorem Wd.noLimit {K : Frag} {TB : List Addr} {h : Heap} (x : Wd K TB h) (e : K.lookup cStatics = some { cls := .none, data := .dict #[] }) : h.NoLimit :=
  ⟨fun _ => none, ⟨_, #[], 0, x.k _ _ e, rfl, fun _ he => by simp at he, fun _ => rfl⟩, rfl⟩

/-- room for n more levels of calls -/
structure AOk (n : Nat) (A : Around) : Prop where
  hd : A.handled = none
  dp : A.depth + 3 * n ≤ 900
  un : A.units + 20 * n ≤ 9000
theorem AOk.mono {n m : Nat} {A : Around} (x : AOk n A) (h : m ≤ n) : AOk m A := ⟨x.hd, by have := x.dp; (first | lia | omega), by have := x.un; (first | lia | omega)⟩
theorem AOk.deeper {n : Nat} {A : Around} {env : Env} (x : AOk (n + 1) A) : AOk n (A.deeper env) := ⟨x.hd, by have := x.dp; show A.depth + 1 + 3 * n ≤ 900; (first | lia | omega), by have := x.un; show A.units + 3 + 20 * n ≤ 9000; (first | lia | omega)⟩
theorem AOk.in1 {n : Nat} {A : Around} (x : AOk (n + 1) A) : AOk n A.in1 := ⟨x.hd, by have := x.dp; show A.depth + 3 * n ≤ 900; (first | lia | omega), by have := x.un; show A.units + 1 + 20 * n ≤ 9000; (first | lia | omega)⟩
theorem AOk.depth {n : Nat} {A : Around} (x : AOk n A) : A.depth < recursionLimit := by have := x.dp; show A.depth < 1000; (first | lia | omega)
theorem AOk.units {n : Nat} {A : Around} (x : AOk n A) : A.units < cLine := by have := x.un; show A.units < 9900; (first | lia | omega)

/-! names in a frame -/
noncomputable def Look (env : Env) (h : Heap) (x : Str) (v : Value) : Prop :=
  (env.kindOf x = some .local ∧ ∃ m, h.Ns env.locals m ∧ m x = some v) ∨
  ((env.kindOf x = some .cell ∨ env.kindOf x = some .free) ∧ ∃ c, env.cells.lookup x = some c ∧ h.IsCell c (some v))

structure EnvOk (env : Env) (h : Heap) : Prop where
  fn : env.scope.kind = .function
  ns : ∃ m, h.Ns env.locals m
  cells : ∀ x c, env.cells.lookup x = some c → ∃ v, h.IsCell c v

theorem ns_keep {h h' : Heap} {a : Addr} {m : Str → Option Value} (n : h.Ns a m) (k : ∀ o, h.get? a = some o → (∃ es ep, o.data = .dict es ep) → h'.get? a = some o) : h'.Ns a m := by
  refine Classical.byContradiction fun hN => ?_
  obtain ⟨o, es, ep, e, hd, r⟩ := n
  refine hN ?_
  clear hN
  exact ⟨o, es, ep, k o e ⟨_, _, hd⟩, hd, r⟩
theorem cell_keep {h h' : Heap} {c : Addr} {v : Option Value} (n : h.IsCell c v) (k : ∀ o, h.get? c = some o → (∃ v, o.data = .cell v) → h'.get? c = some o) : h'.IsCell c v := by
  refine Classical.byContradiction fun hN => ?_
  obtain ⟨o, e, hd⟩ := n
  refine hN ?_
  clear hN
  exact ⟨o, k o e ⟨_, hd⟩, hd⟩
theorem Kp.ns {TB : List Addr} {h h' : Heap} (x : Kp TB h h') (t : TbOk TB h) {a : Addr} {m : Str → Option Value} (n : h.Ns a m) : h'.Ns a m :=
  ns_keep n fun o e ⟨es, ep, hd⟩ => x.keep a o e (t.apart e fun ⟨ps, q⟩ => by rw [q] at hd; cases hd)
theorem Kp.cell {TB : List Addr} {h h' : Heap} (x : Kp TB h h') (t : TbOk TB h) {c : Addr} {v : Option Value} (n : h.IsCell c v) : h'.IsCell c v :=
  cell_keep n fun o e ⟨v, hd⟩ => x.keep c o e (t.apart e fun ⟨ps, q⟩ => by rw [q] at hd; cases hd)
theorem Look.kp {TB : List Addr} {h h' : Heap} {env : Env} {x : Str} {v : Value} (l : Look env h x v) (y : Kp TB h h') (t : TbOk TB h) : Look env h' x v := by
  rcases l with ⟨k, m, n, e⟩ | ⟨k, c, e, n⟩
  · exact .inl ⟨k, m, y.ns t n, e⟩
  · exact .inr ⟨k, c, e, y.cell t n⟩
theorem EnvOk.kp {TB : List Addr} {h h' : Heap} {env : Env} (l : EnvOk env h) (y : Kp TB h h') (t : TbOk TB h) : EnvOk env h' :=
  ⟨l.fn, let ⟨m, n⟩ := l.ns; ⟨m, y.ns t n⟩, fun x c e => let ⟨v, n⟩ := l.cells x c e; ⟨v, y.cell t n⟩⟩

/-- what a name holds: a datum, a list of the frame's own that may yet be turned, or just that value -/
inductive Ent where
  | val (d : D)
  | own (a : Addr) (ds : List D)
  | raw (v : Value)

noncomputable abbrev Sto := List (Str × Ent)

/-- the lists that values keep away from -/
noncomputable def OOk (O : List Addr) (h : Heap) : Prop := ∀ a ∈ O, ∃ o, h.get? a = some o ∧ ∃ xs n, o.data = .seq xs n

noncomputable def EntOk (O Ow : List Addr) (h : Heap) (v : Value) : Ent → Prop
  | .val d => Is O h v d
  | .own a ds => v = .ref a ∧ a ∈ Ow ∧ ∃ vs, LsAt h a vs ∧ IsAll O h vs ds
  | .raw v' => v = v'
theorem EntOk.move {O Ow : List Addr} {h h' : Heap} {v : Value} : ∀ {e : Ent}, EntOk O Ow h v e → DataKeep O h h' → (∀ a ∈ Ow, ∀ vs, LsAt h a vs → LsAt h' a vs) → EntOk O Ow h' v e
  | .val _, x, k, _ => Is.keep k (fun _ _ _ q => q) x
  | .own a _, ⟨hv, ha, vs, hl, hs⟩, k, ko => ⟨hv, ha, vs, ko a ha vs hl, hs.keep k fun _ _ _ q => q⟩
  | .raw _, x, _, _ => x

structure Rel (O Ow : List Addr) (env : Env) (σ : Sto) (h : Heap) : Prop where
  ok : EnvOk env h
  ent : ∀ x e, σ.lookup x = some e → ∃ v, Look env h x v ∧ EntOk O Ow h v e
  sub : ∀ a ∈ Ow, a ∈ O
  ex : OOk O h
theorem Rel.val {O Ow : List Addr} {env : Env} {σ : Sto} {h : Heap} (r : Rel O Ow env σ h) : ∀ x d, σ.lookup x = some (.val d) → ∃ v, Look env h x v ∧ Is O h v d := fun x d e => r.ent x _ e
theorem Rel.own {O Ow : List Addr} {env : Env} {σ : Sto} {h : Heap} (r : Rel O Ow env σ h) : ∀ x a ds, σ.lookup x = some (.own a ds) → Look env h x (.ref a) ∧ a ∈ Ow ∧ ∃ vs, LsAt h a vs ∧ IsAll O h vs ds := fun x a ds e => by
  refine Classical.byContradiction fun hN => ?_
  obtain ⟨v, l, rfl, ha, vs, hl, hs⟩ := r.ent x _ e
  refine hN ?_
  clear hN
  exact ⟨l, ha, vs, hl, hs⟩
theorem Rel.raw {O Ow : List Addr} {env : Env} {σ : Sto} {h : Heap} (r : Rel O Ow env σ h) : ∀ x v, σ.lookup x = some (.raw v) → Look env h x v := fun x v e => by
  refine Classical.byContradiction fun hN => ?_
  obtain ⟨v, l, rfl⟩ := r.ent x _ e
  refine hN ?_
  clear hN
  exact l

theorem LsAt.kp {TB : List Addr} {h h' : Heap} (y : Kp TB h h') (t : TbOk TB h) {a : Addr} {xs : List Value} (l : LsAt h a xs) : LsAt h' a xs := by
  obtain ⟨k, e⟩ := l
  exact ⟨k, y.keep a _ e (t.apart e fun ⟨ps, q⟩ => by cases q)⟩
theorem Kp.there {TB : List Addr} {h h' : Heap} (x : Kp TB h h') (t : TbOk TB h) {a : Addr} : (∃ o, h.get? a = some o) → ∃ o, h'.get? a = some o := fun ⟨o, e⟩ => by
  by_cases hb : a ∈ TB
  · refine Classical.byContradiction fun hN => ?_
    obtain ⟨ps, e'⟩ := t a hb
    obtain ⟨m, e''⟩ := x.tab a hb ps e'
    refine hN ?_
    clear hN
    exact ⟨_, e''⟩
  · exact ⟨o, x.keep a o e hb⟩

theorem Is.kp {TB : List Addr} {h h' : Heap} {O : List Addr} (y : Kp TB h h') (t : TbOk TB h) {v : Value} {d : D} (x : Is O h v d) : Is O h' v d := x.keep (y.seq t O) fun _ _ _ n => n
theorem IsAll.kp {TB : List Addr} {h h' : Heap} {O : List Addr} (y : Kp TB h h') (t : TbOk TB h) {v : List Value} {d : List D} (x : IsAll O h v d) : IsAll O h' v d := x.keep (y.seq t O) fun _ _ _ n => n
theorem OOk.kp {TB : List Addr} {h h' : Heap} {O : List Addr} (x : OOk O h) (y : Kp TB h h') (t : TbOk TB h) : OOk O h' := fun a ha => by
  refine Classical.byContradiction fun hN => ?_
  obtain ⟨o, e, xs, n, hd⟩ := x a ha
  refine hN ?_
  clear hN
  exact ⟨o, y.keep a o e (t.apart e fun ⟨ps, q⟩ => by rw [q] at hd; cases hd), xs, n, hd⟩
theorem Rel.kp {TB : List Addr} {h h' : Heap} {O Ow : List Addr} {env : Env} {σ : Sto} (x : Rel O Ow env σ h) (y : Kp TB h h') (t : TbOk TB h) : Rel O Ow env σ h' where
  ok := x.ok.kp y t
  ent := fun n e he => let ⟨v, l, i⟩ := x.ent n e he; ⟨v, l.kp y t, i.move (y.seq t O) fun _ _ _ hl => hl.kp y t⟩
  sub := x.sub
  ex := x.ex.kp y t
/-- the frame's own list is turned no more -/
theorem Rel.freeze {h : Heap} {O Ow : List Addr} {env : Env} {σ : Sto} {n : Str} {a : Addr} {ds : List D} (x : Rel O Ow env σ h) (e : σ.lookup n = some (.own a ds))
    (hu : ∀ m a' ds', σ.lookup m = some (.own a' ds') → m ≠ n → a' ≠ a) :
    Rel (O.filter (· != a)) (Ow.filter (· != a)) env ((n, .val (.list ds)) :: σ) h := by
  have wk : ∀ {v d}, Is O h v d → Is (O.filter (· != a)) h v d := fun i => i.keep (fun _ _ g _ _ => g) fun _ _ _ q hm => q (List.mem_filter.mp hm).1
  have wka : ∀ {v d}, IsAll O h v d → IsAll (O.filter (· != a)) h v d := fun i => i.keep (fun _ _ g _ _ => g) fun _ _ _ q hm => q (List.mem_filter.mp hm).1
  refine Classical.byContradiction fun hN => ?_
  obtain ⟨l, ha, vs, hl, hs⟩ := x.own n a ds e
  refine hN ?_
  clear hN
  refine ⟨x.ok, fun m en q => ?_, fun b hb => ?_, fun b hb => x.ex b (List.mem_filter.mp hb).1⟩
  · by_cases hm : m = n
    · subst hm
      rw [List.lookup_cons_self] at q
      cases q
      exact ⟨.ref a, l, .list hl (fun hb => by simpa using (List.mem_filter.mp hb).2) (wka hs)⟩
    · rw [List.lookup_cons, show (m == n) = false from by simpa using hm] at q
      refine Classical.byContradiction fun hN => ?_
      obtain ⟨v, lv, i⟩ := x.ent m en q
      refine hN ?_
      clear hN
      refine ⟨v, lv, ?_⟩
      match en, q, i with
      | .val d, q, i => exact wk i
      | .raw v', q, i => exact i
      | .own a' ds', q, ⟨hv, ha', vs', hl', hs'⟩ => exact ⟨hv, List.mem_filter.mpr ⟨ha', by simpa using hu m a' ds' q hm⟩, vs', hl', wka hs'⟩
  · obtain ⟨h1, h2⟩ := List.mem_filter.mp hb
    exact List.mem_filter.mpr ⟨x.sub b h1, h2⟩

/-! what a statement may turn: the objects of Mu alone -/
structure KS (TB Mu : List Addr) (h h' : Heap) : Prop where
  keep : ∀ b o, h.get? b = some o → b ∉ TB → b ∉ Mu → h'.get? b = some o
  tab : ∀ b ∈ TB, ∀ ps, h.get? b = some (X.tableObj ps) → ∃ more, h'.get? b = some (X.tableObj (ps ++ more))
theorem KS.refl (TB Mu : List Addr) (h : Heap) : KS TB Mu h h := ⟨fun _ _ e _ _ => e, (Kp.refl TB h).tab⟩
theorem KS.trans {TB Mu : List Addr} {h₁ h₂ h₃ : Heap} (x : KS TB Mu h₁ h₂) (y : KS TB Mu h₂ h₃) : KS TB Mu h₁ h₃ :=
  ⟨fun b o e n m => y.keep b o (x.keep b o e n m) n m, fun b hb ps e => by
    refine Classical.byContradiction fun hN => ?_
    obtain ⟨m, e⟩ := x.tab b hb ps e
    obtain ⟨m', e⟩ := y.tab b hb _ e
    refine hN ?_
    clear hN
    exact ⟨m ++ m', by rw [e, Array.append_assoc]⟩⟩
theorem KS.mono {TB Mu Mu' : List Addr} {h h' : Heap} (x : KS TB Mu h h') (s : ∀ b ∈ Mu, b ∈ Mu') : KS TB Mu' h h' := ⟨fun b o e n m => x.keep b o e n fun q => m (s b q), x.tab⟩
theorem Kp.ks {TB : List Addr} {h h' : Heap} (x : Kp TB h h') (Mu : List Addr) : KS TB Mu h h' := ⟨fun b o e n _ => x.keep b o e n, x.tab⟩
theorem KS.kp {TB Mu : List Addr} {h₀ h h' : Heap} (x : Kp TB h₀ h) (y : KS TB Mu h h') (n : ∀ b ∈ Mu, h₀.get? b = none) : Kp TB h₀ h' :=
  ⟨fun b o e q => y.keep b o (x.keep b o e q) q (fun hm => by rw [n b hm] at e; cases e), fun b hb ps e => by
    refine Classical.byContradiction fun hN => ?_
    obtain ⟨m, e⟩ := x.tab b hb ps e
    obtain ⟨m', e⟩ := y.tab b hb _ e
    refine hN ?_
    clear hN
    exact ⟨m ++ m', by rw [e, Array.append_assoc]⟩⟩
theorem KS.tb {TB Mu : List Addr} {h h' : Heap} (x : KS TB Mu h h') (t : TbOk TB h) : TbOk TB h' := fun b hb => by
  refine Classical.byContradiction fun hN => ?_
  obtain ⟨ps, e⟩ := t b hb
  obtain ⟨m, e⟩ := x.tab b hb ps e
  refine hN ?_
  clear hN
  exact ⟨_, e⟩
theorem KS.of_same {TB : List Addr} {h h' : Heap} {a : Addr} {o : Obj} (hs : Heap.SameBut a h h') (t : TbOk TB h) (ha : h.get? a = some o) (ho : ¬ ∃ ps, o = X.tableObj ps) : KS TB [a] h h' :=
  ⟨fun b o e _ m => (hs.2 b fun q => m (by simp [q])).trans e, fun b hb ps e => ⟨#[], by
    rw [hs.2 b fun q => t.apart ha ho (q ▸ hb), e]; simp⟩⟩
theorem KS.wd {K : Frag} {TB Mu : List Addr} {h h' : Heap} (x : Wd K TB h) (y : KS TB Mu h h') (n : ∀ b ∈ Mu, K.lookup b = none) : Wd K TB h' :=
  ⟨fun a o e => y.keep a o (x.k a o e) (fun hb => by rw [x.ap a hb] at e; cases e) fun hm => (by rw [n a hm] at e; cases e), y.tb x.tb, x.ap⟩

theorem lookup_ne {σ : Sto} {x y : Str} {e : Ent} (h : y ≠ x) : ((x, e) :: σ).lookup y = σ.lookup y := by rw [List.lookup_cons, show (y == x) = false from by simpa using h]

section
variable {M : Model} {A : Around} {E : Value → Shared → Prop} {s : Shared} {TB O Ow : List Addr} {env : Env} {σ : Sto} {x : Str} {v : Value} {en : Ent}

theorem storeL {Q : Unit → Shared → Prop} (r : Rel O Ow env σ s.heap) (t : TbOk TB s.heap) (hx : env.kindOf x = some .local) (hv : EntOk O Ow s.heap v en)
    (h : ∀ h' tk, KS TB [env.locals] s.heap h' → Rel O Ow env ((x, en) :: σ) h' → Q () { s with heap := h', toks := tk }) : wpAny M A (storeName env x v) Q E s := by
  refine Classical.byContradiction fun hN => ?_
  obtain ⟨m, hm⟩ := r.ok.ns
  obtain ⟨oL, es, ep, hoL, hdL, _⟩ := id hm
  refine hN ?_
  clear hN
  refine wpAny_storeName_local hx hm (fun h' hn hs => ?_) (by rw [r.ok.fn]; rfl)
  have notT : ¬ ∃ ps, oL = X.tableObj ps := fun ⟨ps, q⟩ => by rw [q] at hdL; cases hdL
  have keepD : DataKeep O s.heap h' := fun b o e ⟨xs, n, hd⟩ _ => (hs.2 b fun q => by rw [q, hoL] at e; cases e; rw [hdL] at hd; cases hd).trans e
  have keepW : ∀ a ∈ Ow, ∀ vs, LsAt s.heap a vs → LsAt h' a vs := fun a _ vs ⟨k, g⟩ => ⟨k, (hs.2 a fun q => by rw [q, hoL] at g; cases g; cases hdL).trans g⟩
  have keepC : ∀ {c w}, s.heap.IsCell c w → h'.IsCell c w := fun {c w} ic => cell_keep ic fun o e ⟨_, hd⟩ => (hs.2 c fun q => by rw [q, hoL] at e; cases e; rw [hdL] at hd; cases hd).trans e
  have lk : ∀ {y u}, y ≠ x → Look env s.heap y u → Look env h' y u := by
    rintro y u hy (⟨k, m', n', e⟩ | ⟨k, c, e, n'⟩)
    · refine .inl ⟨k, _, hn, ?_⟩
      have : m y = m' y := by
        refine Classical.byContradiction fun hN => ?_
        obtain ⟨o1, es1, ep1, e1, d1, _, f1⟩ := hm
        obtain ⟨o2, es2, ep2, e2, d2, _, f2⟩ := n'
        refine hN ?_
        clear hN
        rw [e1] at e2; cases e2; rw [d1] at d2; cases d2
        rw [← f1, ← f2]
      simp only [if_neg hy]; rw [this]; exact e
    · exact .inr ⟨k, c, e, keepC n'⟩
  refine h h' _ (KS.of_same hs t hoL notT) ⟨⟨r.ok.fn, ⟨_, hn⟩, fun y c e => let ⟨w, ic⟩ := r.ok.cells y c e; ⟨w, keepC ic⟩⟩, fun y d' e => ?_, r.sub, fun a ha => ?_⟩
  · by_cases hy : y = x
    · subst hy
      rw [List.lookup_cons_self] at e; cases e
      exact ⟨v, .inl ⟨hx, _, hn, by simp⟩, hv.move keepD keepW⟩
    · rw [lookup_ne hy] at e
      refine Classical.byContradiction fun hN => ?_
      obtain ⟨u, l, i⟩ := r.ent y d' e
      refine hN ?_
      clear hN
      exact ⟨u, lk hy l, i.move keepD keepW⟩
  · refine Classical.byContradiction fun hN => ?_
    obtain ⟨o, e, xs, k, hd⟩ := r.ex a ha
    refine hN ?_
    clear hN
    exact ⟨o, (hs.2 a fun q => by rw [q, hoL] at e; cases e; rw [hdL] at hd; cases hd).trans e, xs, k, hd⟩

theorem storeC {Q : Unit → Shared → Prop} {c : Addr} (r : Rel O Ow env σ s.heap) (t : TbOk TB s.heap) (hx : env.kindOf x = some .cell) (hc : env.cells.lookup x = some c) (ap : env.cells.Pairwise fun x y => x.2 ≠ y.2) (hv : EntOk O Ow s.heap v en)
    (h : ∀ h' tk, KS TB [c] s.heap h' → Rel O Ow env ((x, en) :: σ) h' → Q () { s with heap := h', toks := tk }) : wpAny M A (storeName env x v) Q E s := by
  refine Classical.byContradiction fun hN => ?_
  obtain ⟨w₀, ic⟩ := r.ok.cells x c hc
  obtain ⟨oc, hoc, hdc⟩ := id ic
  refine hN ?_
  clear hN
  refine wpAny_storeName_cell r.ok.fn hx hc ic fun h' hn hs => ?_
  have notT : ¬ ∃ ps, oc = X.tableObj ps := fun ⟨ps, q⟩ => by rw [q] at hdc; cases hdc
  have keepD : DataKeep O s.heap h' := fun b o e ⟨xs, n, hd⟩ _ => (hs.2 b fun q => by rw [q, hoc] at e; cases e; rw [hdc] at hd; cases hd).trans e
  have keepW : ∀ a ∈ Ow, ∀ vs, LsAt s.heap a vs → LsAt h' a vs := fun a _ vs ⟨k, g⟩ => ⟨k, (hs.2 a fun q => by rw [q, hoc] at g; cases g; cases hdc).trans g⟩
  have keepN : ∀ {a m}, s.heap.Ns a m → h'.Ns a m := fun {a m} n => ns_keep n fun o e ⟨_, _, hd⟩ => (hs.2 a fun q => by rw [q, hoc] at e; cases e; rw [hdc] at hd; cases hd).trans e
  have lk : ∀ {y u}, y ≠ x → Look env s.heap y u → Look env h' y u := by
    rintro y u hy (⟨k, m', n', e⟩ | ⟨k, c', e, n'⟩)
    · exact .inl ⟨k, m', keepN n', e⟩
    · have : c' ≠ c := fun q => hy (name_of_addr ap (mem_of_lookup e) (q ▸ mem_of_lookup hc))
      exact .inr ⟨k, c', e, n'.sameBut hs this⟩
  obtain ⟨m, hm⟩ := r.ok.ns
  refine h h' _ (KS.of_same hs t hoc notT) ⟨⟨r.ok.fn, ⟨m, keepN hm⟩, fun y c' e => ?_⟩, fun y d' e => ?_, r.sub, fun a ha => ?_⟩
  · by_cases q : c' = c
    · exact ⟨_, q ▸ hn⟩
    · obtain ⟨w, ic'⟩ := r.ok.cells y c' e
      exact ⟨w, ic'.sameBut hs q⟩
  · by_cases hy : y = x
    · subst hy
      rw [List.lookup_cons_self] at e; cases e
      exact ⟨v, .inr ⟨.inl hx, c, hc, hn⟩, hv.move keepD keepW⟩
    · rw [lookup_ne hy] at e
      refine Classical.byContradiction fun hN => ?_
      obtain ⟨u, l, i⟩ := r.ent y d' e
      refine hN ?_
      clear hN
      exact ⟨u, lk hy l, i.move keepD keepW⟩
  · refine Classical.byContradiction fun hN => ?_
    obtain ⟨o, e, xs, k, hd⟩ := r.ex a ha
    refine hN ?_
    clear hN
    exact ⟨o, (hs.2 a fun q => by rw [q, hoc] at e; cases e; rw [hdc] at hd; cases hd).trans e, xs, k, hd⟩
end
end Mine
end

section
set_option genInjectivity false
set_option genSizeOf false
set_option genSizeOfSpec false
set_option maxRecDepth 100000
set_option linter.unusedVariables false
set_option tactic.hygienic false
namespace Mine
open PySem PySem.Calls PyProof.Rows PySem.W

structure Cx where
  prog : Program
  w : World
  K : Frag
  TB : List Addr
noncomputable abbrev Cx.M (C : Cx) : Model := model C.prog C.w
noncomputable abbrev NoE : Value → Shared → Prop := fun _ _ => False

theorem noE {α : Type} {M : Model} {A : Around} {t : Sem α} {Q : α → Shared → Prop} {E : Value → Shared → Prop} {s : Shared} (h : wpAny M A t Q NoE s) : wpAny M A t Q E s :=
  wpAny_mono h (fun _ _ x => x) fun _ _ x => x.elim

/-- what every judgement's state satisfies -/
structure Good (C : Cx) (n : Nat) (A : Around) (O Ow : List Addr) (env : Env) (σ : Sto) (s : Shared) : Prop where
  a : AOk n A
  w : Wd C.K C.TB s.heap
  r : Rel O Ow env σ s.heap
theorem Good.sk {C : Cx} {n : Nat} {A : Around} {O Ow : List Addr} {env : Env} {σ : Sto} {s s' : Shared} (g : Good C n A O Ow env σ s) (k : SK C.TB s s') : Good C n A O Ow env σ s' :=
  ⟨g.a, g.w.sk k, g.r.kp k.kp g.w.tb⟩

/-- the expression stands for d, purely -/
noncomputable def Ev (C : Cx) (n : Nat) (env : Env) (σ : Sto) (e : Expr) (d : D) : Prop :=
  ∀ (A : Around) (O Ow : List Addr) (s : Shared) (Q : Value → Shared → Prop), Good C n A O Ow env σ s →
    (∀ v s', SK C.TB s s' → Is O s'.heap v d → Q v s') → wpAny C.M A (eval e env) Q NoE s
/-- the test says b -/
noncomputable def Tr (C : Cx) (n : Nat) (env : Env) (σ : Sto) (e : Expr) (b : Bool) : Prop :=
  ∀ (A : Around) (O Ow : List Addr) (s : Shared) (Q : Bool → Shared → Prop), Good C n A O Ow env σ s →
    (∀ s', SK C.TB s s' → Q b s') → wpAny C.M A (isTrue e env (eval e env)) Q NoE s
/-- several expressions, from the left -/
noncomputable def Evs (C : Cx) (n : Nat) (env : Env) (σ : Sto) (es : List Expr) (ds : List D) : Prop :=
  ∀ (pos : Pos) (A : Around) (O Ow : List Addr) (s : Shared) (Q : List Value → Shared → Prop), Good C n A O Ow env σ s →
    (∀ vs s', SK C.TB s s' → IsAll O s'.heap vs ds → Q vs s') → wpAny C.M A (spliced (backTo pos (starEach es env))) Q NoE s
/-- a call with these data gives that datum -/
noncomputable def Fn (C : Cx) (n : Nat) (f : Value) (ds : List D) (d : D) : Prop :=
  ∀ (A : Around) (O : List Addr) (s : Shared) (vs : List Value) (Q : Value → Shared → Prop), AOk n A → Wd C.K C.TB s.heap → OOk O s.heap → IsAll O s.heap vs ds →
    (∀ v s', SK C.TB s s' → Is O s'.heap v d → Q v s') → wpAny C.M A (call f vs) Q NoE s

section
variable {C : Cx} {n : Nat} {env : Env} {σ : Sto}

theorem Ev.name {x : Str} {pos : Pos} {d : D} (h : σ.lookup x = some (.val d)) (hd : (x == ("__debug__" : Str)) = false := by decide) (hc : (x == Str.ofString "__classdict__") = false := by decide) : Ev C n env σ (.Name x pos) d := fun A O Ow s Q g q => by
  refine Classical.byContradiction fun hN => ?_
  obtain ⟨v, l, i⟩ := g.r.val x d h
  refine hN ?_
  clear hN
  refine wpAny_Name ?_ hd
  rcases l with ⟨k, m, ns, e⟩ | ⟨k | k, c, e, ic⟩
  · exact wpAny_loadName_local g.r.ok.fn k ns e (q _ _ (.refl _ _) i)
  · exact wpAny_loadName_cell g.r.ok.fn k e ic (q _ _ (.refl _ _) i)
  · exact wpAny_loadName_free g.r.ok.fn k e ic (q _ _ (.refl _ _) i) hc

theorem Ev.int {i : Int} {k : Nat} {pos : Pos} : Ev C n env σ (.Constant (.int i) k pos) (.int i) := fun A O Ow s Q g q =>
  wpAny_Constant_int (q _ _ (.toks _) (.int _ _))
theorem Ev.boolc {b : Bool} {k : Nat} {pos : Pos} : Ev C n env σ (.Constant (.bool b) k pos) (.bool b) := fun A O Ow s Q g q => by
  rw [eval_Constant]; exact wpAny_pure (q _ _ (.refl _ _) (.bool _))
theorem Ev.strc {x : Str} {k : Nat} {pos : Pos} : Ev C n env σ (.Constant (.str x) k pos) (.str x) := fun A O Ow s Q g q => by
  rw [eval_Constant]; exact wpAny_mkText (q _ _ (.toks _) (.str _ _))
theorem Ev.bytesc {b : List UInt8} {k : Nat} {pos : Pos} : Ev C n env σ (.Constant (.bytes b) k pos) (.bytes b.toArray) := fun A O Ow s Q g q => by
  rw [eval_Constant]
  show wpAny C.M A (do return .bytes b.toArray (← fresh)) Q NoE s
  exact wpAny_bind (wpAny_fresh (wpAny_pure (q _ _ (.toks _) (.bytes _ _))))

/-- two operands -/
theorem Ev.bin {l r : Expr} {op : Operator} {pos : Pos} {d₁ d₂ d : D} (h₁ : Ev C n env σ l d₁) (h₂ : Ev C n env σ r d₂)
    (ho : ∀ (A : Around) (O Ow : List Addr) (s : Shared) (v₁ v₂ : Value) (Q : Value → Shared → Prop), Good C n A O Ow env σ s → Is O s.heap v₁ d₁ → Is O s.heap v₂ d₂ →
      (∀ v s', SK C.TB s s' → Is O s'.heap v d → Q v s') → wpAny C.M A (binaryOp op v₁ v₂) Q NoE s) : Ev C n env σ (.BinOp l op r pos) d := fun A O Ow s Q g q =>
  wpAny_BinOp (h₁ A O Ow s _ g fun v₁ s₁ k₁ i₁ => h₂ A O Ow s₁ _ (g.sk k₁) fun v₂ s₂ k₂ i₂ =>
    ho A O Ow s₂ v₁ v₂ Q ((g.sk k₁).sk k₂) (i₁.kp k₂.kp (g.sk k₁).w.tb) i₂ fun v s' k i => q v s' ((k₁.trans k₂).trans k) i)

theorem Ev.add {l r : Expr} {pos : Pos} {a b : Int} (h₁ : Ev C n env σ l (.int a)) (h₂ : Ev C n env σ r (.int b)) : Ev C n env σ (.BinOp l .Add r pos) (.int (a + b)) :=
  .bin h₁ h₂ fun A O Ow s v₁ v₂ Q g i₁ i₂ q => by cases i₁; cases i₂; exact wpAny_add_int (q _ _ (.toks _) (.int _ _))
theorem Ev.sub {l r : Expr} {pos : Pos} {a b : Int} (h₁ : Ev C n env σ l (.int a)) (h₂ : Ev C n env σ r (.int b)) : Ev C n env σ (.BinOp l .Sub r pos) (.int (a - b)) :=
  .bin h₁ h₂ fun A O Ow s v₁ v₂ Q g i₁ i₂ q => by cases i₁; cases i₂; exact sub_int' (q _ _ (.toks _) (.int _ _))
theorem Ev.mul {l r : Expr} {pos : Pos} {a b : Int} (h₁ : Ev C n env σ l (.int a)) (h₂ : Ev C n env σ r (.int b)) (hm : IntMulOk a b) : Ev C n env σ (.BinOp l .Mult r pos) (.int (a * b)) :=
  .bin h₁ h₂ fun A O Ow s v₁ v₂ Q g i₁ i₂ q => by cases i₁; cases i₂; exact mul_int (q _ _ (.toks _) (.int _ _)) hm
theorem Ev.mod {l r : Expr} {pos : Pos} {a b : Int} (h₁ : Ev C n env σ l (.int a)) (h₂ : Ev C n env σ r (.int b)) (hb : b ≠ 0) : Ev C n env σ (.BinOp l .Mod r pos) (.int (a.fmod b)) :=
  .bin h₁ h₂ fun A O Ow s v₁ v₂ Q g i₁ i₂ q => by cases i₁; cases i₂; exact mod_int' hb (q _ _ (.toks _) (.int _ _))
theorem Ev.bitAnd {l r : Expr} {pos : Pos} {a b : Int} (h₁ : Ev C n env σ l (.int a)) (h₂ : Ev C n env σ r (.int b)) : Ev C n env σ (.BinOp l .BitAnd r pos) (.int (Builtin.bitAnd a b)) :=
  .bin h₁ h₂ fun A O Ow s v₁ v₂ Q g i₁ i₂ q => by cases i₁; cases i₂; exact and_int (q _ _ (.toks _) (.int _ _))
theorem Ev.bitOr {l r : Expr} {pos : Pos} {a b : Int} (h₁ : Ev C n env σ l (.int a)) (h₂ : Ev C n env σ r (.int b)) : Ev C n env σ (.BinOp l .BitOr r pos) (.int (Builtin.bitOr a b)) :=
  .bin h₁ h₂ fun A O Ow s v₁ v₂ Q g i₁ i₂ q => by cases i₁; cases i₂; exact or_int (q _ _ (.toks _) (.int _ _))
theorem Ev.rshift {l r : Expr} {pos : Pos} {a b : Int} (h₁ : Ev C n env σ l (.int a)) (h₂ : Ev C n env σ r (.int b)) (hb : 0 ≤ b) : Ev C n env σ (.BinOp l .RShift r pos) (.int (a.fdiv (2 ^ b.toNat))) :=
  .bin h₁ h₂ fun A O Ow s v₁ v₂ Q g i₁ i₂ q => by cases i₁; cases i₂; exact rshift_int hb (q _ _ (.toks _) (.int _ _))
theorem Ev.lshift {l r : Expr} {pos : Pos} {a b : Int} (h₁ : Ev C n env σ l (.int a)) (h₂ : Ev C n env σ r (.int b)) (hb : 0 ≤ b) (hb2 : b ≤ 1000000) (ha : a.natAbs < 2 ^ 64) : Ev C n env σ (.BinOp l .LShift r pos) (.int (a * 2 ^ b.toNat)) :=
  .bin h₁ h₂ fun A O Ow s v₁ v₂ Q g i₁ i₂ q => by cases i₁; cases i₂; exact lshift_int_small hb hb2 ha (q _ _ (.toks _) (.int _ _))
theorem Ev.floordiv {l r : Expr} {pos : Pos} {a b : Int} (h₁ : Ev C n env σ l (.int a)) (h₂ : Ev C n env σ r (.int b)) (hb : b ≠ 0) (hs : b.natAbs < 1073741824) : Ev C n env σ (.BinOp l .FloorDiv r pos) (.int (a.fdiv b)) :=
  .bin h₁ h₂ fun A O Ow s v₁ v₂ Q g i₁ i₂ q => by cases i₁; cases i₂; exact floordiv_int hb (q _ _ (.toks _) (.int _ _)) (.inl (PyProof.noPylong_small hs))


theorem isList_open {h : Heap} {a : Addr} {xs : Array Value} (l : h.IsList a xs) : ∃ n dd sl, h.get? a = some { cls := .type "list", dict := dd, data := .seq xs n, slots := sl } := by
  refine Classical.byContradiction fun hN => ?_
  obtain ⟨⟨c, d, dt, sl⟩, e, hc, k, hdt⟩ := l
  refine hN ?_
  clear hN
  dsimp only at hc hdt
  subst hc hdt
  exact ⟨k, d, sl, e⟩
theorem isList_new (h : Heap) (xs : List Value) : LsAt (h.push { cls := .type "list", data := .seq xs.toArray }) h.objs.size xs := ⟨0, Heap.get?_push_size _ rfl⟩
theorem isTuple_new (h : Heap) (xs : List Value) : TpAt (h.push { cls := .type "tuple", data := .seq xs.toArray }) h.objs.size xs := ⟨0, Heap.get?_push_size _ rfl⟩
theorem Good.newO {C : Cx} {n : Nat} {A : Around} {O Ow : List Addr} {env : Env} {σ : Sto} {s : Shared} (g : Good C n A O Ow env σ s) : s.heap.objs.size ∉ O := fun h => by
  refine Classical.byContradiction fun hN => ?_
  obtain ⟨o, e, _⟩ := g.r.ex _ h
  refine hN ?_
  clear hN
  exact Nat.lt_irrefl _ (Heap.lt_size e)
theorem newO {O : List Addr} {h : Heap} (ex : OOk O h) : h.objs.size ∉ O := fun hm => by
  refine Classical.byContradiction fun hN => ?_
  obtain ⟨o, e, _⟩ := ex _ hm
  refine hN ?_
  clear hN
  exact Nat.lt_irrefl _ (Heap.lt_size e)
theorem IsAll.push {O : List Addr} {h : Heap} {vs : List Value} {ds : List D} (x : IsAll O h vs ds) (o : Obj) : IsAll O (h.push o) vs ds := x.keep (fun _ _ e _ _ => Heap.get?_push_of_some o e) fun _ _ _ n => n
theorem Is.push {O : List Addr} {h : Heap} {v : Value} {d : D} (x : Is O h v d) (o : Obj) : Is O (h.push o) v d := x.keep (fun _ _ e _ _ => Heap.get?_push_of_some o e) fun _ _ _ n => n
/-- a fresh list of known items -/
theorem is_newList {O : List Addr} {h : Heap} {vs : List Value} {ds : List D} (x : IsAll O h vs ds) (hn : h.objs.size ∉ O) : Is O (h.push { cls := .type "list", data := .seq vs.toArray }) (.ref h.objs.size) (.list ds) := .list (isList_new h vs) hn (x.push _)
theorem is_newTup {O : List Addr} {h : Heap} {vs : List Value} {ds : List D} (x : IsAll O h vs ds) (hn : h.objs.size ∉ O) : Is O (h.push { cls := .type "tuple", data := .seq vs.toArray }) (.ref h.objs.size) (.tup ds) := .tup (isTuple_new h vs) hn (x.push _)
theorem SK.push {TB : List Addr} {s : Shared} (o : Obj) : SK TB s { s with heap := s.heap.push o } := ⟨.of fun _ _ e => Heap.get?_push_of_some o e, rfl, #[], by simp, .empty⟩

set_option tactic.hygienic true
theorem Ev.cat {l r : Expr} {pos : Pos} {a b : List D} (h₁ : Ev C n env σ l (.list a)) (h₂ : Ev C n env σ r (.list b)) (hz : a.length + b.length ≤ 1000000) : Ev C n env σ (.BinOp l .Add r pos) (.list (a ++ b)) :=
  .bin h₁ h₂ fun A O Ow s v₁ v₂ Q g i₁ i₂ q => by
    cases i₁ with
    | list hl ha xs =>
      cases i₂ with
      | list hl' ha' ys =>
        rename_i p vs p' vs'
        refine Classical.byContradiction fun hN => ?_
        obtain ⟨n1, d1, sl1, e1⟩ := isList_open hl.isList
        obtain ⟨n2, d2, sl2, e2⟩ := isList_open hl'.isList
        refine hN ?_
        clear hN
        refine concat_meets ⟨_, e1, rfl⟩ ⟨_, e2, rfl⟩ noFill_list_add seq_list_add PySem.F.slot_list_add PySem.F.entry_list_add (PySem.F.args_list_add_2 _ _)
          (list_addW p p' vs.toArray vs'.toArray n1 n2 d1 d2 sl1 sl2 (by have := xs.length; have := ys.length; simp only [List.size_toArray, sizeLine_eq]; (first | lia | omega))) ⟨e1, e2, ?_⟩
        have e : vs.toArray ++ vs'.toArray = (vs ++ vs').toArray := by simp
        rw [e]
        exact q _ _ (.push _) (is_newList (xs.append ys) g.newO)

set_option tactic.hygienic false
theorem replicate_flat {O : List Addr} {h : Heap} {v : Value} {d : D} (x : Is O h v d) : ∀ k : Nat, IsAll O h (List.replicate k [v]).flatten (List.replicate k d)
  | 0 => .nil
  | k + 1 => by
    rw [List.replicate_succ, List.replicate_succ, List.flatten_cons]
    exact .cons x (replicate_flat x k)
set_option tactic.hygienic true
theorem Ev.rep {l r : Expr} {pos : Pos} {d : D} {k : Int} (h₁ : Ev C n env σ l (.list [d])) (h₂ : Ev C n env σ r (.int k)) (hz : k ≤ 1000000) (hlo : -1000000 ≤ k) : Ev C n env σ (.BinOp l .Mult r pos) (.list (List.replicate k.toNat d)) :=
  .bin h₁ h₂ fun A O Ow s v₁ v₂ Q g i₁ i₂ q => by
    cases i₂ with
    | int _ u =>
    cases i₁ with
    | list hl ha xs =>
    cases xs with
    | cons x xs =>
    cases xs
    rename_i p v
    refine Classical.byContradiction fun hN => ?_
    obtain ⟨kk, d1, sl1, ho⟩ := isList_open hl.isList
    refine hN ?_
    clear hN
    refine wpAny_binaryOp_repeat_ref (T := "list") (U := "int") (by decide) ⟨_, ho, rfl⟩ (fun s' => typeIs_int s' k u) noFill_list_mul F.fills_int_mul F.slot_int_rmul repeat_list F.slot_int_index.lookup
      (call_meets F.slot_int_rmul (typeIs_int s k u) F.entry_int_rmul (F.args_int_rmul_2 _ _) (lm_int_rmul_list_any k u p [v].toArray kk d1 sl1)
        ⟨ho, rfl, ⟨_, ho, rfl⟩, call_meets F.slot_list_mul ⟨_, ho, rfl⟩ F.entry_list_mul (F.args_list_mul_2 _ _)
          (lm_list_mul_any p [v].toArray kk d1 sl1 k u (by simp [Builtin.List.listFitsIndex]; (first | lia | omega)) (by rw [show [v].toArray.size = 1 from rfl, Nat.one_mul]; (first | lia | omega)) (by simp [Builtin.List.listTooLong, sizeLine]; (exact Int.le_trans (by assumption) (by decide))))
          ⟨ho, ?_⟩⟩)
    rw [listMul_foldl_if]
    exact q _ _ (.push _) (is_newList (replicate_flat x k.toNat) g.newO)

set_option tactic.hygienic false
/-! comparisons -/
noncomputable def Cmp (C : Cx) (n : Nat) (op : CmpOp) (d₁ d₂ : D) (b : Bool) : Prop :=
  ∀ (A : Around) (O : List Addr) (s : Shared) (v₁ v₂ : Value) (Q : Value → Shared → Prop), AOk n A → Is O s.heap v₁ d₁ → Is O s.heap v₂ d₂ →
    (∀ s', SK C.TB s s' → Q (.bool b) s') → wpAny C.M A (compareOp op v₁ v₂) Q NoE s
theorem Ev.cmp {l r : Expr} {op : CmpOp} {pos : Pos} {d₁ d₂ : D} {b : Bool} (h₁ : Ev C n env σ l d₁) (h₂ : Ev C n env σ r d₂) (hc : Cmp C n op d₁ d₂ b) (hm : behindInMarks op r = false := by with_unfolding_all rfl) :
    Ev C n env σ (.Compare l [op] [r] pos) (.bool b) := fun A O Ow s Q g q =>
  wpAny_Compare1 (h₁ A O Ow s _ g fun v₁ s₁ k₁ i₁ => h₂ A O Ow s₁ _ (g.sk k₁) fun v₂ s₂ k₂ i₂ =>
    hc A O s₂ v₁ v₂ Q g.a (i₁.kp k₂.kp (g.sk k₁).w.tb) i₂ fun s' k => q _ s' ((k₁.trans k₂).trans k) (.bool b)) hm
theorem Tr.cmp {l r : Expr} {op : CmpOp} {pos : Pos} {d₁ d₂ : D} {b : Bool} (h₁ : Ev C n env σ l d₁) (h₂ : Ev C n env σ r d₂) (hc : Cmp C n op d₁ d₂ b) (hm : behindInMarks op r = false := by with_unfolding_all rfl) :
    Tr C n env σ (.Compare l [op] [r] pos) b := fun A O Ow s Q g q =>
  wpAny_isTrue_Compare1 (h₁ A O Ow s _ g fun v₁ s₁ k₁ i₁ => h₂ A O Ow s₁ _ (g.sk k₁) fun v₂ s₂ k₂ i₂ =>
    hc A O s₂ v₁ v₂ _ g.a (i₁.kp k₂.kp (g.sk k₁).w.tb) i₂ fun s' k => wpAny_truthy_bool (q s' ((k₁.trans k₂).trans k))) hm
end

section
variable {C : Cx} {n : Nat}
theorem Cmp.eqInt {a b : Int} : Cmp C n .Eq (.int a) (.int b) (a == b) := fun A O s v₁ v₂ Q ha i₁ i₂ q => by cases i₁; cases i₂; exact wpAny_eq_int (q _ (.refl _ _))
theorem Cmp.ltInt {a b : Int} : Cmp C n .Lt (.int a) (.int b) (decide (a < b)) := fun A O s v₁ v₂ Q ha i₁ i₂ q => by cases i₁; cases i₂; exact wpAny_lt_int (q _ (.refl _ _))
end
end Mine
end

section
set_option maxRecDepth 100000
set_option linter.unusedVariables false
set_option tactic.hygienic false
namespace Mine
open PySem PySem.Calls PyProof.Rows PySem.W PySem.SeqAt
section
variable {C : Cx} {n : Nat}
theorem Cmp.geInt {a b : Int} : Cmp C n .GtE (.int a) (.int b) (decide (b ≤ a)) := fun A O s v₁ v₂ Q ha i₁ i₂ q => by cases i₁; cases i₂; exact ge_int (q _ (.refl _ _))
theorem Cmp.eqBool {a b : Bool} : Cmp C n .Eq (.bool a) (.bool b) (a == b) := fun A O s v₁ v₂ Q ha i₁ i₂ q => by cases i₁; cases i₂; exact eq_bool (q _ (.refl _ _))
theorem Cmp.neBool {a b : Bool} : Cmp C n .NotEq (.bool a) (.bool b) (a != b) := fun A O s v₁ v₂ Q ha i₁ i₂ q => by cases i₁; cases i₂; exact ne_bool (q _ (.refl _ _))

/-- a list of ints, a list of such -/
noncomputable abbrev L1 (ns : List Int) : D := .list (ns.map .int)
theorem ints_at {O : List Addr} {h : Heap} {vs : List Value} {ns : List Int} (x : IsAll O h vs (ns.map .int)) {j : Nat} (hj : j < vs.length) : ∃ t, vs[j] = .int (ns.getD j 0) t := by
  have hl := x.length
  rw [List.length_map] at hl
  have e : vs[j]? = some vs[j] := List.getElem?_eq_getElem hj
  obtain ⟨d, hd, i⟩ := x.get' e
  rw [List.getElem?_map] at hd
  have e2 : ns[j]? = some (ns.getD j 0) := by
    rw [List.getD_eq_getElem?_getD, List.getElem?_eq_getElem (by (first | lia | omega))]; rfl
  rw [e2] at hd
  cases hd
  generalize vs[j] = v at i
  cases i
  exact ⟨_, rfl⟩
theorem all_range_eq {ns ms : List Int} (h : ns.length = ms.length) : ((List.range ns.length).all fun j => ns.getD j 0 == ms.getD j 0) = (ns == ms) := by
  rw [Bool.eq_iff_iff, List.all_eq_true, beq_iff_eq]
  constructor
  · intro q
    apply List.ext_getElem h
    intro i h1 h2
    have := q i (List.mem_range.mpr h1)
    simpa [h1, h2] using this
  · rintro rfl j _
    simp
set_option tactic.hygienic true
theorem rc_L1 {A : Around} {s : Shared} {O : List Addr} {a b : Addr} {ns ms : List Int} (hu : A.units < cLine) (i₁ : Is O s.heap (.ref a) (L1 ns)) (i₂ : Is O s.heap (.ref b) (L1 ms)) : RcAt A s (.ref a) (.ref b) (ns == ms) := by
  cases i₁ with
  | list hl h1 xs =>
  cases i₂ with
  | list hl' h2 ys =>
  rename_i vs ws
  have l1 := xs.length
  have l2 := ys.length
  rw [List.length_map] at l1 l2
  by_cases h : ns.length = ms.length
  · have hz : vs.toArray.size = ws.toArray.size := by simp only [List.size_toArray]; (first | lia | omega)
    have := RcAt.lists (A := A) (s := s) (e := fun j => ns.getD j 0 == ms.getD j 0) hl.isList hl'.isList hz hu fun j h1 h2 => by
      simp only [List.size_toArray] at h1 h2
      obtain ⟨t, e⟩ := ints_at xs h1
      obtain ⟨u, e'⟩ := ints_at ys h2
      simp only [List.getElem_toArray]
      rw [e, e']
      exact EqAt.int_int _ _ _ _
    rw [List.size_toArray, l1, all_range_eq h] at this
    exact this
  · have e : (ns == ms) = false := by
      rw [beq_eq_false_iff_ne]; exact fun q => h (by rw [q])
    rw [e]
    exact RcAt.lists_lengths hl.isList hl'.isList (by simp only [List.size_toArray, bne_iff_ne, ne_eq]; (first | lia | omega)) hu
set_option tactic.hygienic false
set_option tactic.hygienic true
set_option tactic.hygienic false
theorem Cmp.eqL1 {ns ms : List Int} : Cmp C n .Eq (L1 ns) (L1 ms) (ns == ms) := fun A O s v₁ v₂ Q ha i₁ i₂ q => by
  cases i₁ with
  | list hl h1 xs =>
  cases i₂ with
  | list hl' h2 ys => exact rc_L1 ha.units (.list hl h1 xs) (.list hl' h2 ys) _ _ _ _ (q _ (.refl _ _))
set_option tactic.hygienic true
theorem Cmp.neL1 {ns ms : List Int} : Cmp C n .NotEq (L1 ns) (L1 ms) (ns != ms) := fun A O s v₁ v₂ Q ha i₁ i₂ q => by
  cases i₁ with
  | list hl h1 xs =>
  cases i₂ with
  | list hl' h2 ys =>
  rename_i vs b ws
  have l1 := xs.length
  have l2 := ys.length
  rw [List.length_map] at l1 l2
  by_cases h : ns.length = ms.length
  · have hz : vs.toArray.size = ws.toArray.size := by simp only [List.size_toArray]; (first | lia | omega)
    have := RcNeAt.lists (A := A) (s := s) (e := fun j => ns.getD j 0 == ms.getD j 0) hl.isList hl'.isList hz ha.units fun j h1 h2 => by
      simp only [List.size_toArray] at h1 h2
      obtain ⟨t, e⟩ := ints_at xs h1
      obtain ⟨u, e'⟩ := ints_at ys h2
      simp only [List.getElem_toArray]
      rw [e, e']
      exact EqAt.int_int _ _ _ _
    rw [List.size_toArray, l1, all_range_eq h] at this
    exact this _ _ _ _ (q _ (.refl _ _))
  · have e : (ns != ms) = true := by
      rw [bne_iff_ne]; exact fun q => h (by rw [q])
    rw [e] at q
    exact RcNeAt.lists_lengths hl.isList hl'.isList (by simp only [List.size_toArray, bne_iff_ne, ne_eq]; (first | lia | omega)) ha.units _ _ _ _ (q _ (.refl _ _))
set_option tactic.hygienic false
set_option tactic.hygienic true
/-- against the empty list -/
theorem Cmp.eqNil {ds : List D} : Cmp C n .Eq (.list ds) (.list []) ds.isEmpty := fun A O s v₁ v₂ Q ha i₁ i₂ q => by
  cases i₁ with
  | list hl h1 xs =>
  cases i₂ with
  | list hl' h2 ys =>
  rename_i vs b ws
  have l1 := xs.length
  cases ys
  by_cases h : ds = []
  · subst h
    have hv : vs = [] := by simpa using l1
    subst hv
    exact RcAt.lists (e := fun _ => true) hl.isList hl'.isList rfl ha.units (fun j h1 h2 => by simp at h1) _ _ _ _ (q _ (.refl _ _))
  · have e : ds.isEmpty = false := by simpa using h
    rw [e] at q
    exact RcAt.lists_lengths hl.isList hl'.isList (by
      simp only [List.size_toArray, List.length_nil, bne_iff_ne, ne_eq, l1, List.length_eq_zero_iff]; exact h) ha.units _ _ _ _ (q _ (.refl _ _))
set_option tactic.hygienic false
set_option tactic.hygienic true
theorem Cmp.neNil {ds : List D} : Cmp C n .NotEq (.list ds) (.list []) (!ds.isEmpty) := fun A O s v₁ v₂ Q ha i₁ i₂ q => by
  cases i₁ with
  | list hl h1 xs =>
  cases i₂ with
  | list hl' h2 ys =>
  rename_i vs b ws
  have l1 := xs.length
  cases ys
  by_cases h : ds = []
  · subst h
    have hv : vs = [] := by simpa using l1
    subst hv
    exact RcNeAt.lists (e := fun _ => true) hl.isList hl'.isList rfl ha.units (fun j h1 h2 => by simp at h1) _ _ _ _ (q _ (.refl _ _))
  · have e : ds.isEmpty = false := by simpa using h
    rw [e] at q
    exact RcNeAt.lists_lengths hl.isList hl'.isList (by
      simp only [List.size_toArray, List.length_nil, bne_iff_ne, ne_eq, l1, List.length_eq_zero_iff]; exact h) ha.units _ _ _ _ (q _ (.refl _ _))
set_option tactic.hygienic false
end
end Mine
end

section
set_option maxRecDepth 100000
set_option linter.unusedVariables false
set_option tactic.hygienic false
namespace Mine
open PySem PySem.Calls PyProof.Rows PySem.W PySem.SeqAt
section
variable {C : Cx} {n : Nat} {env : Env} {σ : Sto}
/-! tests -/
theorem Tr.plain {e : Expr} {b : Bool} (h : Ev C n env σ e (.bool b)) (he : isTrue e env (eval e env) = (do let v ← eval e env; standAt e.pos; holding [v] (truthy v)) := by rfl) : Tr C n env σ e b := fun A O Ow s Q g q => by
  rw [he]
  refine wpAny_bind (h A O Ow s _ g fun v s' k i => ?_)
  cases i
  exact wpAny_bind (wpAny_standAt (wpAny_holding (wpAny_truthy_bool (q s' k))))
theorem Tr.not {e : Expr} {pos : Pos} {b : Bool} (h : Tr C n env σ e b) : Tr C n env σ (.UnaryOp .Not e pos) (!b) := fun A O Ow s Q g q =>
  wpAny_isTrue_Not (h A O Ow s _ g fun s' k => q s' k)
noncomputable def TrAll (C : Cx) (n : Nat) (env : Env) (σ : Sto) (op : BoolOp) (es : List Expr) (b : Bool) : Prop :=
  ∀ (A : Around) (O Ow : List Addr) (s : Shared) (Q : Bool → Shared → Prop), Good C n A O Ow env σ s →
    (∀ s', SK C.TB s s' → Q b s') → wpAny C.M A (allTrue op es env) Q NoE s
theorem TrAll.nil {op : BoolOp} : TrAll C n env σ op [] (op == .And) := fun A O Ow s Q g q => wpAny_pure (q s (.refl _ _))
theorem allTrue_cons (op : BoolOp) (x : Expr) (rest : List Expr) (env : Env) : allTrue op (x :: rest) env = (do
    match op, ← isTrue x env (eval x env) with
    | .And, false => pure false
    | .Or, true => pure true
    | _, _ => allTrue op rest env) := rfl
theorem TrAll.and {x : Expr} {rest : List Expr} {b c : Bool} (h : Tr C n env σ x b) (h' : b = true → TrAll C n env σ .And rest c) : TrAll C n env σ .And (x :: rest) (b && c) := fun A O Ow s Q g q => by
  rw [allTrue_cons]
  refine wpAny_bind (h A O Ow s _ g fun s' k => ?_)
  cases b with
  | false => exact wpAny_pure (q s' k)
  | true => exact h' rfl A O Ow s' Q (g.sk k) fun s'' k' => q s'' (k.trans k')
theorem TrAll.or {x : Expr} {rest : List Expr} {b c : Bool} (h : Tr C n env σ x b) (h' : b = false → TrAll C n env σ .Or rest c) : TrAll C n env σ .Or (x :: rest) (b || c) := fun A O Ow s Q g q => by
  rw [allTrue_cons]
  refine wpAny_bind (h A O Ow s _ g fun s' k => ?_)
  cases b with
  | true => exact wpAny_pure (q s' k)
  | false => exact h' rfl A O Ow s' Q (g.sk k) fun s'' k' => q s'' (k.trans k')
theorem Tr.boolOp {op : BoolOp} {es : List Expr} {pos : Pos} {b : Bool} (h : TrAll C n env σ op es b) : Tr C n env σ (.BoolOp op es pos) b := fun A O Ow s Q g q => by
  rw [arm_isTrue_BoolOp]
  exact h A O Ow s Q g q
theorem Tr.eq {e : Expr} {b c : Bool} (h : Tr C n env σ e b) (hb : b = c) : Tr C n env σ e c := hb ▸ h
theorem Ev.eq {e : Expr} {b c : D} (h : Ev C n env σ e b) (hb : b = c) : Ev C n env σ e c := hb ▸ h

theorem Ev.ifExp {t x y : Expr} {pos : Pos} {b : Bool} {d : D} (h : Tr C n env σ t b) (h₁ : b = true → Ev C n env σ x d) (h₂ : b = false → Ev C n env σ y d) : Ev C n env σ (.IfExp t x y pos) d := fun A O Ow s Q g q => by
  refine wpAny_IfExp (h A O Ow s _ g fun s' k => ?_)
  cases b with
  | true => exact h₁ rfl A O Ow s' Q (g.sk k) fun v s'' k' i => q v s'' (k.trans k') i
  | false => exact h₂ rfl A O Ow s' Q (g.sk k) fun v s'' k' i => q v s'' (k.trans k') i
theorem Ev.and2 {x y : Expr} {pos : Pos} {b c : Bool} (h : Ev C n env σ x (.bool b)) (h' : b = true → Ev C n env σ y (.bool c)) : Ev C n env σ (.BoolOp .And [x, y] pos) (.bool (b && c)) := fun A O Ow s Q g q => by
  rw [arm_eval_BoolOp]
  show wpAny C.M A (boolOp pos .And [eval x env, eval y env]) Q NoE s
  unfold boolOp
  refine wpAny_bind (h A O Ow s _ g fun v s' k i => ?_)
  cases i
  refine wpAny_bind (wpAny_standAt (wpAny_bind (wpAny_holding (wpAny_truthy_bool ?_))))
  cases b with
  | false => exact wpAny_pure (q _ s' k (.bool _))
  | true => exact h' rfl A O Ow s' Q (g.sk k) fun v s'' k' i => q v s'' (k.trans k') i
theorem Ev.neg {x : Expr} {pos : Pos} {a : Int} (h : Ev C n env σ x (.int a)) : Ev C n env σ (.UnaryOp .USub x pos) (.int (-a)) := fun A O Ow s Q g q => by
  refine wpAny_UnaryOp (h A O Ow s _ g fun v s' k i => ?_)
  cases i
  exact neg_int (q _ _ (k.trans (.toks _)) (.int _ _))
theorem Ev.notB {x : Expr} {pos : Pos} {b : Bool} (h : Ev C n env σ x (.bool b)) : Ev C n env σ (.UnaryOp .Not x pos) (.bool (!b)) := fun A O Ow s Q g q => by
  refine wpAny_UnaryOp (h A O Ow s _ g fun v s' k i => ?_)
  cases i
  exact not_of (wpAny_truthy_bool (q _ _ k (.bool _)))

/-! several -/
theorem Evs.nil : Evs C n env σ [] [] := fun pos A O Ow s Q g q => spliced_nil (q _ _ (.refl _ _) .nil)
theorem Evs.cons {e : Expr} {es : List Expr} {d : D} {ds : List D} (h : Ev C n env σ e d) (h' : Evs C n env σ es ds) (he : starEach (e :: es) env = (false, eval e env) :: starEach es env := by rfl) : Evs C n env σ (e :: es) (d :: ds) := fun pos A O Ow s Q g q => by
  rw [he]
  refine spliced_cons (h A O Ow s _ g fun v s' k i => h' pos A O Ow s' _ (g.sk k) fun vs s'' k' is => ?_)
  exact q _ _ (k.trans k') (.cons (i.kp k'.kp (g.sk k).w.tb) is)
theorem Ev.list {es : List Expr} {pos : Pos} {ds : List D} (h : Evs C n env σ es ds) (hz : ds.length ≤ 1000000) : Ev C n env σ (.List es pos) (.list ds) := fun A O Ow s Q g q => by
  refine List_ (h pos A O Ow s _ g fun vs s' k is => ?_)
  have hl := is.length
  exact wpAny_newList (q _ _ (k.trans (.push _)) (is_newList is (g.sk k).newO)) (by rw [sizeLine_eq]; (first | lia | omega))
theorem Ev.tup {es : List Expr} {m : Nat} {pos : Pos} {ds : List D} (h : Evs C n env σ es ds) (hz : ds.length ≤ 1000000) : Ev C n env σ (.Tuple es m pos) (.tup ds) := fun A O Ow s Q g q => by
  refine Tuple_ (h pos A O Ow s _ g fun vs s' k is => ?_)
  have hl := is.length
  exact wpAny_newTuple (q _ _ (k.trans (.push _)) (is_newTup is (g.sk k).newO)) (by rw [sizeLine_eq]; (first | lia | omega))
end
end Mine
end

section
set_option genInjectivity false
set_option genSizeOf false
set_option genSizeOfSpec false
set_option maxRecDepth 100000
set_option linter.unusedVariables false
set_option tactic.hygienic false
namespace Mine
open PySem PySem.Calls PyProof.Rows PySem.W PySem.SeqAt

/-- a frame of the main text -/
structure GE (env : Env) : Prop where
  fn : env.scope.kind = .function
  gl : env.globals = mainGlobals
  bt : env.builtins = builtinsNs
/-- a global name's value -/
noncomputable def GV (C : Cx) (f : Str) (v : Value) : Prop :=
  ∀ (env : Env) (A : Around) (Q : Value → Shared → Prop) (E : Value → Shared → Prop) (s : Shared), env.globals = mainGlobals → env.builtins = builtinsNs → Wd C.K C.TB s.heap → Q v s → wpAny C.M A (loadGlobal env f) Q E s
noncomputable def FnObj (C : Cx) (a : Addr) : Prop := ∃ o fd, C.K.lookup a = some o ∧ o.data = .func fd

section
variable {C : Cx} {n : Nat} {env : Env} {σ : Sto}
theorem glob {f : Str} {p : Pos} {v : Value} {A : Around} {s : Shared} {Q : Value → Shared → Prop} (ge : GE env) (hx : env.kindOf f = some .globalImplicit) (gv : GV C f v) (w : Wd C.K C.TB s.heap) (q : Q v s) (hd : (f == ("__debug__" : Str)) = false := by decide) :
    wpAny C.M A (eval (.Name f p) env) Q NoE s := Name_function_global ge.fn hx (gv env A Q NoE s ge.gl ge.bt w q) hd
theorem evalArgs_of {f : Value} {e : Expr} {es : List Expr} {ds : List D} {pos : Pos} {A : Around} {O Ow : List Addr} {s : Shared} {Q : Args → Shared → Prop} (h : Evs C n env σ (e :: es) ds) (he : starEach (e :: es) env = (false, eval e env) :: starEach es env) (g : Good C n A O Ow env σ s)
    (q : ∀ vs s', SK C.TB s s' → IsAll O s'.heap vs ds → Q ⟨vs, []⟩ s') : wpAny C.M A (evalArgs f true (backTo pos (starEach (e :: es) env)) []) Q NoE s := by
  have := h pos A O Ow s (fun vs s' => Q ⟨vs, []⟩ s') g q
  rw [he] at this ⊢
  exact evalArgs_plain this
/-- a call of a def of the text -/
theorem Ev.callF {f : Str} {p pos : Pos} {e : Expr} {es : List Expr} {a : Addr} {ds : List D} {d : D} (ge : GE env) (gv : GV C f (.ref a)) (fo : FnObj C a) (h : Evs C n env σ (e :: es) ds) (hf : Fn C n (.ref a) ds d)
    (hx : env.kindOf f = some .globalImplicit := by rfl) (he : starEach (e :: es) env = (false, eval e env) :: starEach es env := by rfl) (hd : (f == ("__debug__" : Str)) = false := by decide) :
    Ev C n env σ (.Call (.Name f p) (e :: es) [] pos) d := fun A O Ow s Q g q => by
  refine Call_Name rfl (glob ge hx gv g.w ?_ hd)
  refine Classical.byContradiction fun hN => ?_
  obtain ⟨o, fd, ho, hfd⟩ := fo
  refine hN ?_
  clear hN
  refine callWith_function (o := o) (fd := fd) (evalArgs_of h he g fun vs s' k is => ⟨⟨(g.sk k).w.k a o ho, hfd⟩, ?_⟩)
  exact hf A O s' vs Q g.a (g.sk k).w (g.sk k).r.ex is fun v s'' k' i => q v s'' (k.trans k') i
theorem Ev.callB {f : Str} {p pos : Pos} {e : Expr} {es : List Expr} {id : String} {ds : List D} {d : D} (ge : GE env) (gv : GV C f (.builtin id)) (h : Evs C n env σ (e :: es) ds) (hf : Fn C n (.builtin id) ds d)
    (hx : env.kindOf f = some .globalImplicit := by rfl) (he : starEach (e :: es) env = (false, eval e env) :: starEach es env := by rfl) (hp : (backTo pos (starEach (e :: es) env)).any (·.1) = false := by rfl) (hd : (f == ("__debug__" : Str)) = false := by decide) :
    Ev C n env σ (.Call (.Name f p) (e :: es) [] pos) d := fun A O Ow s Q g q => by
  refine Call_Name rfl (glob ge hx gv g.w ?_ hd)
  refine callWith_builtin hp (evalArgs_of h he g fun vs s' k is => ?_)
  exact hf A O s' vs Q g.a (g.sk k).w (g.sk k).r.ex is fun v s'' k' i => q v s'' (k.trans k') i
theorem Ev.callT {f : Str} {p pos : Pos} {e : Expr} {es : List Expr} {T : String} {ds : List D} {d : D} (ge : GE env) (gv : GV C f (.type T)) (h : Evs C n env σ (e :: es) ds) (hf : Fn C n (.type T) ds d)
    (hx : env.kindOf f = some .globalImplicit := by rfl) (he : starEach (e :: es) env = (false, eval e env) :: starEach es env := by rfl) (hp : (backTo pos (starEach (e :: es) env)).any (·.1) = false := by rfl) (hd : (f == ("__debug__" : Str)) = false := by decide) :
    Ev C n env σ (.Call (.Name f p) (e :: es) [] pos) d := fun A O Ow s Q g q => by
  refine Call_Name rfl (glob ge hx gv g.w ?_ hd)
  refine PySem.callWith_type hp (evalArgs_of h he g fun vs s' k is => ?_)
  exact hf A O s' vs Q g.a (g.sk k).w (g.sk k).r.ex is fun v s'' k' i => q v s'' (k.trans k') i

/-! built-ins -/
theorem Fn.len {ds : List D} (hz : ds.length ≤ 1000000) : Fn C n (.builtin "len") [.list ds] (.int ds.length) := fun A O s vs Q a w ex is q => by
  cases is with
  | cons x xs =>
  cases xs
  cases x with
  | list hl hO ys =>
  have hy := ys.length
  have := call_len_list (prog := C.prog) (w := C.w) (A := A) (E := NoE) (Q := Q) hl.isList (by simp only [List.size_toArray]; (first | lia | omega)) (by
    rw [List.size_toArray, hy]; exact q _ _ (.toks _) (.int _ _))
  exact this
theorem Fn.lenBytes {b : Array UInt8} (hz : b.size ≤ 1000000) : Fn C n (.builtin "len") [.bytes b] (.int b.size) := fun A O s vs Q a w ex is q => by
  cases is with
  | cons x xs =>
  cases xs
  cases x
  exact len_bytes (by (exact Nat.le_trans (by assumption) (by decide))) (q _ _ (.toks _) (.int _ _))
theorem Fn.chr {i : Int} (h0 : 0 ≤ i) (h1 : i < 256) : Fn C n (.builtin "chr") [.int i] (.str ⟨#[i.toNat]⟩) := fun A O s vs Q a w ex is q => by
  cases is with
  | cons x xs =>
  cases xs
  cases x
  exact P.chr_of_int (by simp; (first | lia | omega)) (q _ _ (.toks _) (.str _ _))
theorem Fn.bytes {ns : List Int} (h : ∀ i ∈ ns, 0 ≤ i ∧ i < 256) (hz : ns.length ≤ 1000000) : Fn C n (.type "bytes") [L1 ns] (.bytes (byteArr ns)) := fun A O s vs Q a w ex is q => by
  cases is with
  | cons x xs =>
  cases xs
  cases x with
  | list hl hO ys =>
  have hy := ys.length
  rw [List.length_map] at hy
  exact call_bytes_ints hl.isList ys.ints h (by rw [sizeLine_eq]; (first | lia | omega)) a.hd fun h' t k kp => q _ _ (.heap (.of kp)) (.bytes _ _)
set_option tactic.hygienic true
theorem Fn.sorted {ns : List Int} (hz : ns.length < 64) : ∃ ms : List Int, ms.Perm ns ∧ ms.Pairwise (· ≤ ·) ∧ Fn C n (.builtin "sorted") [L1 ns] (L1 ms) := by
  refine ⟨ns.mergeSort (fun a b => decide (a ≤ b)), List.mergeSort_perm _ _, ?_, ?_⟩
  · have := List.pairwise_mergeSort (le := fun (a b : Int) => decide (a ≤ b)) (by intro a b c; simp; (first | lia | omega)) (by intro a b; simp; (first | lia | omega)) ns
    simpa using this
  · intro A O s vs Q a w ex is q
    cases is with
    | cons x xs =>
    cases xs
    cases x with
    | list hl hO ys =>
    have hy := ys.length
    rw [List.length_map] at hy
    rename_i l vs
    refine sorted_ints hl.isList ys.ints (by (first | lia | omega)) fun out ns' hi hp hs => ?_
    have e : ns' = ns.mergeSort (fun a b => decide (a ≤ b)) := by
      refine lks_uniq (hp.trans (List.mergeSort_perm _ _).symm) hs ?_
      have := List.pairwise_mergeSort (le := fun (a b : Int) => decide (a ≤ b)) (by intro a b c; simp; (first | lia | omega)) (by intro a b; simp; (first | lia | omega)) ns
      simpa using this
    subst e
    obtain ⟨ee, hat⟩ := sortedAll_at s.heap vs out
    have kp : Kp C.TB s.heap (sortedAll s.heap vs out) := .of fun b o e => sortedAll_old e
    refine q _ _ (.heap kp) (.list ⟨ee, ?_⟩ (fun hm => ?_) (IsAll.ofInts hi))
    · rw [hat, Array.toArray_toList]
    · refine Classical.byContradiction fun hN => ?_
      obtain ⟨o, e, _⟩ := ex _ hm
      refine hN ?_
      clear hN
      have hlt : s.heap.objs.size + 1 < s.heap.objs.size := Heap.lt_size e
      (first | lia | omega)
set_option tactic.hygienic false
end
end Mine
end

section
set_option maxRecDepth 100000
set_option linter.unusedVariables false
set_option tactic.hygienic false
namespace Mine
open PySem PySem.Calls PyProof.Rows PySem.W PySem.SeqAt
section
variable {C : Cx} {n : Nat} {env : Env} {σ : Sto}
/-- a global that holds plain data -/
theorem Ev.glob {x : Str} {p : Pos} {v : Value} {d : D} (ge : GE env) (gv : GV C x v) (hv : ∀ O h, Is O h v d) (hx : env.kindOf x = some .globalImplicit := by rfl) (hd : (x == ("__debug__" : Str)) = false := by decide) : Ev C n env σ (.Name x p) d := fun A O Ow s Q g q =>
  Mine.glob ge hx gv g.w (q _ _ (.refl _ _) (hv _ _)) hd

/-- the ways an index is written -/
noncomputable def SubOk (env : Env) (value idx : Expr) (pos : Pos) : Prop :=
  ∀ {M : Model} {A : Around} {E : Value → Shared → Prop} {s : Shared} {Q : Value → Shared → Prop},
    wpAny M A (eval value env) (fun o s₁ => wpAny M A (eval idx env) (fun i s₂ => ItemOn M A E o i Q s₂) E s₁) E s → wpAny M A (eval (.Subscript value idx pos) env) Q E s
theorem Ev.itemBy {value idx : Expr} {pos : Pos} {ds : List D} {k : Int} {d : D} (sub : SubOk env value idx pos) (h₁ : Ev C n env σ value (.list ds)) (h₂ : Ev C n env σ idx (.int k)) (h0 : 0 ≤ k) (hk : k < 1000000) (hd : ds[k.toNat]? = some d) : Ev C n env σ (.Subscript value idx pos) d := fun A O Ow s Q g q => by
  refine sub (h₁ A O Ow s _ g fun v₁ s₁ k₁ i₁ => h₂ A O Ow s₁ _ (g.sk k₁) fun v₂ s₂ k₂ i₂ => ?_)
  have i₁' := i₁.kp k₂.kp (g.sk k₁).w.tb
  cases i₂
  cases i₁' with
  | list hl hO xs =>
  obtain ⟨x, e, ix⟩ := xs.get hd
  exact ⟨"list", _, slot_list_getitem.lookup, hl.isList.typeIs, wpAny_getItem_list hl.isList h0 (by (exact Int.le_trans (by assumption) (by decide))) (by simpa using e) (q _ _ (k₁.trans k₂) ix)⟩
theorem Ev.itemN {value : Expr} {x : Str} {p pos : Pos} {ds : List D} {k : Int} {d : D} (h₁ : Ev C n env σ value (.list ds)) (h₂ : Ev C n env σ (.Name x p) (.int k)) (h0 : 0 ≤ k) (hk : k < 1000000) (hd : ds[k.toNat]? = some d) (ht : ∀ o r, letTemporaryGo value o r = pure () := by intro _ _; rfl) : Ev C n env σ (.Subscript value (.Name x p) pos) d :=
  .itemBy (fun h => Subscript_Name h ht) h₁ h₂ h0 hk hd
theorem Ev.itemB {value l r : Expr} {op : Operator} {p pos : Pos} {ds : List D} {k : Int} {d : D} (h₁ : Ev C n env σ value (.list ds)) (h₂ : Ev C n env σ (.BinOp l op r p) (.int k)) (h0 : 0 ≤ k) (hk : k < 1000000) (hd : ds[k.toNat]? = some d) (ht : ∀ o r, letTemporaryGo value o r = pure () := by intro _ _; rfl) : Ev C n env σ (.Subscript value (.BinOp l op r p) pos) d :=
  .itemBy (fun h => Subscript_BinOp h ht) h₁ h₂ h0 hk hd
set_option tactic.hygienic true
/-- the last item: x[-1] -/
theorem Ev.itemLast {value : Expr} {e : Expr} {p pos : Pos} {ds : List D} {d : D} (h₁ : Ev C n env σ value (.list ds)) (h₂ : Ev C n env σ (.UnaryOp .USub e p) (.int (-1))) (hd : ds.getLast? = some d) (hz : ds.length ≤ 1000000) (ht : ∀ o r, letTemporaryGo value o r = pure () := by intro _ _; rfl) : Ev C n env σ (.Subscript value (.UnaryOp .USub e p) pos) d := fun A O Ow s Q g q => by
  refine Subscript_UnaryOp (h₁ A O Ow s _ g fun v₁ s₁ k₁ i₁ => h₂ A O Ow s₁ _ (g.sk k₁) fun v₂ s₂ k₂ i₂ => ?_) ht
  have i₁' := i₁.kp k₂.kp (g.sk k₁).w.tb
  cases i₂
  cases i₁' with
  | list hl hO xs =>
  have hlen := xs.length
  rw [List.getLast?_eq_getElem?] at hd
  obtain ⟨x, e, ix⟩ := xs.get hd
  have hlt := (List.getElem?_eq_some_iff.mp e).1
  rename_i vs
  have e2 : (-1 + ((vs.toArray.size : Nat) : Int)).toNat = ds.length - 1 := by simp only [List.size_toArray]; (first | lia | omega)
  exact ⟨"list", _, slot_list_getitem.lookup, hl.isList.typeIs, wpAny_getItem_list_neg hl.isList (by (exact Int.natCast_nonneg _)) (by simp only [List.size_toArray]; (clear e2 ix e hlen xs i₁ hO hl k₂ k₁ q g ht hz hd h₂ h₁; lia)) (by (exact Int.natCast_nonneg _)) (by rw [e2]; simpa using e) (q _ _ (k₁.trans k₂) ix)⟩
set_option tactic.hygienic false
theorem Ev.itemBytes {value l r : Expr} {op : Operator} {p pos : Pos} {b : List UInt8} {k : Int} (h₁ : Ev C n env σ value (.bytes b.toArray)) (h₂ : Ev C n env σ (.BinOp l op r p) (.int k)) (h0 : 0 ≤ k) (hk : k < b.length) (hz : b.length ≤ 1000000) (ht : ∀ o r, letTemporaryGo value o r = pure () := by intro _ _; rfl) :
    Ev C n env σ (.Subscript value (.BinOp l op r p) pos) (.int (b.getD k.toNat 0).toNat) := fun A O Ow s Q g q => by
  refine Subscript_BinOp (h₁ A O Ow s _ g fun v₁ s₁ k₁ i₁ => h₂ A O Ow s₁ _ (g.sk k₁) fun v₂ s₂ k₂ i₂ => ?_) ht
  cases i₁
  cases i₂
  exact ⟨"bytes", _, FB.slot_bytes_getitem.lookup, rfl, getItem_bytes (by (exact Nat.le_trans (by assumption) (by decide))) h0 hk (q _ _ ((k₁.trans k₂).trans (.toks _)) (.int _ _))⟩

/-! slices -/
theorem eval_Slice (l u st : Option Expr) (p : Pos) (env : Env) : eval (.Slice l u st p) env = (do
    let l ← valueOrNone (evalOpt l env)
    let u ← holding [l] (valueOrNone (evalOpt u env))
    let s ← holding [l, u] (valueOrNone (evalOpt st env))
    newFields "slice" [l, u, s]) := rfl
set_option tactic.hygienic true
theorem Ev.upto {value e : Expr} {p pos : Pos} {ds : List D} {k : Nat} (h₁ : Ev C n env σ value (.list ds)) (h₂ : Ev C n env σ e (.int k)) (hz : ds.length ≤ 1000000) (ht : ∀ o r, letTemporaryGo value o r = pure () := by intro _ _; rfl) :
    Ev C n env σ (.Subscript value (.Slice none (some e) none p) pos) (.list (ds.take k)) := fun A O Ow s Q g q => by
  refine Subscript_Slice (h₁ A O Ow s _ g fun v₁ s₁ k₁ i₁ => ?_) ht
  rw [eval_Slice]
  refine wpAny_bind (m := valueOrNone none) (wpAny_pure ?_)
  refine wpAny_bind (wpAny_holding (m := eval e env) (h₂ A O Ow s₁ _ (g.sk k₁) fun v₂ s₂ k₂ i₂ => ?_))
  refine wpAny_bind (m := holding _ (valueOrNone none)) (wpAny_holding (wpAny_pure ?_))
  have i₁' := i₁.kp k₂.kp (g.sk k₁).w.tb
  cases i₂
  cases i₁' with
  | list hl hO xs =>
  rename_i t l vs
  have hlen := xs.length
  refine wpAny_newObj_type ?_ (by size_fits)
  have hl' : LsAt (s₂.heap.push { cls := .type "slice", data := .fields [Value.none, .int k t, .none].toArray }) l vs := let ⟨kk, e⟩ := hl; ⟨kk, Heap.get?_push_of_some _ e⟩
  have g₂ := (g.sk k₁).sk k₂
  refine ⟨"list", _, slot_list_getitem.lookup, Heap.IsList.typeIs (s := { s₂ with heap := s₂.heap.push _ }) hl'.isList, ?_⟩
  refine wpAny_getItem_list_slice (s := { s₂ with heap := s₂.heap.push _ }) hl'.isList (Heap.IsSliceOf.new s₂.heap _ _ _) .none (.int _ _) .none (by simp) ?_ (by simp only [List.size_toArray, sizeLine_eq]; (first | lia | omega))
  rw [slicePick_upto']
  refine q _ _ (((k₁.trans k₂).trans (.push _)).trans (.push (s := { s₂ with heap := s₂.heap.push _ }) _)) (is_newList ((xs.push _).take k) ?_)
  exact (g₂.sk (SK.push _)).newO
set_option tactic.hygienic false
end
end Mine
end

section
set_option maxRecDepth 100000
set_option linter.unusedVariables false
set_option tactic.hygienic false
namespace Mine
open PySem PySem.Calls PyProof.Rows PySem.W PySem.SeqAt

/-- an object that no statement of a frame turns -/
noncomputable def Still (C : Cx) (O : List Addr) (h : Heap) (b : Addr) : Prop := b ∉ C.TB ∧ b ∉ O ∧ ∃ o, h.get? b = some o ∧ (∀ es ep, o.data ≠ .dict es ep) ∧ ∀ v, o.data ≠ .cell v
/-- at I stands an iterator that gives these data -/
noncomputable def IterAt (C : Cx) (A : Around) (O : List Addr) (I : Addr) (ds : List D) (h₀ h : Heap) : Prop :=
  ∃ (fp : List Addr) (P : Nat → Value → Prop) (St : Nat → Heap → Prop), Walks C.prog C.w A I fp [I] ds.length P St ∧ St 0 h ∧ h₀.get? I = none ∧ (∀ b ∈ fp, Still C O h b) ∧
    (∀ h₂, DataKeep O h h₂ → ∀ i v d, P i v → ds[i]? = some d → Is O h₂ v d) ∧ (∀ i h₂, St i h₂ → ∃ o c vs, h₂.get? I = some o ∧ o.cls = .type c ∧ o.data = .fields vs ∧ (c = "list_iterator" ∨ c = "range_iterator" ∨ c = "bytes_iterator"))
noncomputable def It (C : Cx) (n : Nat) (env : Env) (σ : Sto) (e : Expr) (ds : List D) : Prop :=
  ∀ (A : Around) (O Ow : List Addr) (s : Shared) (Q : Value → Shared → Prop), Good C n A O Ow env σ s →
    (∀ I s', SK C.TB s s' → IterAt C A O I ds s.heap s'.heap → Q (.ref I) s') → wpAny C.M A (eval e env) (fun x s₁ => wpAny C.M A (pyIter x) Q NoE s₁) NoE s

section
variable {C : Cx} {n : Nat} {env : Env} {σ : Sto}
set_option tactic.hygienic true
theorem It.list {e : Expr} {ds : List D} (h : Ev C n env σ e (.list ds)) : It C n env σ e ds := fun A O Ow s Q g q => by
  refine h A O Ow s _ g fun v s₁ k i => ?_
  cases i with
  | list hl hO xs =>
  rename_i a vs
  have hl2 := hl.isList
  refine wpAny_pyIter_list hl2 ?_
  have hlen := xs.length
  obtain ⟨kk, e⟩ := hl
  have g₁ := g.sk k
  have haI : a ≠ s₁.heap.objs.size := Nat.ne_of_lt (Heap.lt_size e)
  have W := Walks.list (prog := C.prog) (w := C.w) g.a.hd s₁.heap.objs.size a haI vs.toArray
  rw [show vs.toArray.size = ds.length from by rw [List.size_toArray, hlen]] at W
  refine q _ _ (k.trans (.push _)) ⟨_, _, _, W, ?_, ?_, ?_, ?_, ?_⟩
  · exact ⟨⟨_, Heap.get?_push_size _ rfl, rfl, rfl⟩, hl2.push _⟩
  · cases hq : s.heap.get? s₁.heap.objs.size with
    | none => rfl
    | some o => exact absurd (k.kp.size g.w.tb hq) (Nat.lt_irrefl _)
  · intro b hb
    have g₂ := g₁.sk (SK.push (TB := C.TB) (s := s₁) { cls := .type "list_iterator", data := .fields #[.ref a, .int 0 0] })
    simp only [List.mem_cons, List.not_mem_nil, or_false] at hb
    rcases hb with rfl | rfl
    · exact ⟨g₂.w.tb.apart (Heap.get?_push_size _ rfl) (fun ⟨ps, q⟩ => by cases q), g₁.newO, _, Heap.get?_push_size _ rfl, (fun _ _ q => by cases q), fun _ q => by cases q⟩
    · exact ⟨g₁.w.tb.apart e (fun ⟨ps, q⟩ => by cases q), hO, _, Heap.get?_push_of_some _ e, (fun _ _ q => by cases q), fun _ q => by cases q⟩
  · intro h₂ dk i v d hP hd
    obtain ⟨v', e', iv⟩ := (xs.push _).get hd
    have : vs[i]? = some v := by simpa using hP
    rw [this] at e'
    cases e'
    exact iv.keep dk fun _ _ _ q => q
  · rintro i h₂ ⟨⟨o, e, hc, hd⟩, _⟩
    exact ⟨o, _, _, e, hc, hd, .inl rfl⟩

set_option tactic.hygienic false
/-- ints from a, by c -/
noncomputable def rng (a c : Int) (n : Nat) : List D := (List.range n).map fun i => D.int (a + (i : Nat) * c)
theorem rng_length (a c : Int) (n : Nat) : (rng a c n).length = n := by simp [rng]
theorem Kp.none_of {TB : List Addr} {h h' : Heap} (k : Kp TB h h') (t : TbOk TB h) : h.get? h'.objs.size = none := by
  cases hq : h.get? h'.objs.size with
  | none => rfl
  | some o => exact absurd (k.size t hq) (Nat.lt_irrefl _)
theorem rangeIter {A : Around} {O Ow : List Addr} {s s₁ : Shared} {Q : Value → Shared → Prop} {r : Addr} {a b c : Int} {t u v : Tok} {m : Nat} (g : Good C n A O Ow env σ s) (k : SK C.TB s s₁) (hr : IsRange s₁.heap r a b c t u v)
    (hs : Builtin.Range.small a b c = true) (hm : Builtin.Range.rangeSize a b c = (m : Int))
    (q : ∀ I s', SK C.TB s s' → IterAt C A O I (rng a c m) s.heap s'.heap → Q (.ref I) s') : wpAny C.M A (pyIter (.ref r)) Q NoE s₁ := by
  refine wpAny_pyIter_range hr hs ?_
  have W := Walks.range (prog := C.prog) (w := C.w) g.a.hd s₁.heap.objs.size a c m
  rw [← rng_length a c m] at W
  have g₁ := g.sk k
  have g₂ := g₁.sk (SK.push (TB := C.TB) (s := s₁) { cls := .type "range_iterator", data := .fields #[rawInt a, rawInt (Builtin.Range.rangeSize a b c), rawInt c] })
  refine q _ _ (k.trans (.push _)) ⟨_, _, _, W, ?_, ?_, ?_, ?_, ?_⟩
  · show IsRangeIter _ _ _ _ _
    rw [rng_length]
    have e := Heap.get?_push_size s₁.heap (o := { cls := .type "range_iterator", data := .fields #[rawInt a, rawInt (Builtin.Range.rangeSize a b c), rawInt c] }) rfl
    rw [hm] at e ⊢
    simpa using e
  · exact k.kp.none_of g.w.tb
  · intro b hb
    rw [List.mem_singleton] at hb
    subst hb
    exact ⟨g₂.w.tb.apart (Heap.get?_push_size _ rfl) (fun ⟨ps, q⟩ => by cases q), g₁.newO, _, Heap.get?_push_size _ rfl, (fun _ _ q => by cases q), fun _ q => by cases q⟩
  · rintro h₂ dk i v d ⟨t, rfl⟩ hd
    unfold rng at hd
    rw [List.getElem?_map, Option.map_eq_some_iff] at hd
    obtain ⟨j, hj, rfl⟩ := hd
    obtain ⟨hlt, rfl⟩ := List.getElem?_eq_some_iff.mp hj
    simp only [List.getElem_range]
    exact .int _ _
  · exact fun i h₂ st => ⟨_, _, _, st, rfl, rfl, .inr (.inl rfl)⟩
theorem small1 {a b : Int} (ha : -1000000 ≤ a) (ha' : a ≤ 1000000) (hb : b ≤ 1000000) (hb' : -1000000 ≤ b) : Builtin.Range.small a b 1 = true := by
  simp only [Builtin.Range.small, Builtin.Range.rangeSize, Builtin.Range.rangeFitsLong]
  split
  · split <;> simp <;> (first | (clear hb ha; omega) | omega | lia)
  · (first | lia | omega)
theorem size1 {a b : Int} : Builtin.Range.rangeSize a b 1 = ((b - a).toNat : Int) := by
  unfold Builtin.Range.rangeSize
  simp only [show (1 : Int) > 0 from by (exact Int.natCast_nonneg _), if_true]
  split <;> (first | lia | omega)
theorem It.range1 {f : Str} {p pos : Pos} {e : Expr} {m : Nat} (ge : GE env) (gv : GV C f (.type "range")) (h : Ev C n env σ e (.int m)) (hm : m ≤ 1000000)
    (hx : env.kindOf f = some .globalImplicit := by rfl) (he : starEach [e] env = [(false, eval e env)] := by rfl) (hd : (f == ("__debug__" : Str)) = false := by decide) : It C n env σ (.Call (.Name f p) [e] [] pos) (rng 0 1 m) := fun A O Ow s Q g q => by
  refine Call_Name rfl (Mine.glob ge hx gv g.w ?_ hd)
  refine PySem.callWith_type (by rw [he]; rfl) (evalArgs_of (Evs.cons h Evs.nil he) he g fun vs s' k is => ?_)
  cases is with
  | cons x xs =>
  cases xs
  cases x
  refine call_range_1 ?_
  refine rangeIter g (k.trans (SK.heap (.of fun _ _ e => Heap.get?_push_of_some _ e))) (Heap.get?_push_size _ rfl) (small1 (by (exact Int.natCast_nonneg _)) (by (exact Int.natCast_nonneg _)) (by (first | lia | omega)) (by (exact Int.natCast_nonneg _))) ?_ q
  rw [size1]; (exact rfl)
theorem It.range2 {f : Str} {p pos : Pos} {e₁ e₂ : Expr} {a b : Int} (ge : GE env) (gv : GV C f (.type "range")) (h₁ : Ev C n env σ e₁ (.int a)) (h₂ : Ev C n env σ e₂ (.int b)) (ha : -1000000 ≤ a) (ha' : a ≤ 1000000) (hb : b ≤ 1000000) (hb' : -1000000 ≤ b)
    (hx : env.kindOf f = some .globalImplicit := by rfl) (he : starEach [e₁, e₂] env = [(false, eval e₁ env), (false, eval e₂ env)] := by rfl) (hd : (f == ("__debug__" : Str)) = false := by decide) (he2 : starEach [e₂] env = [(false, eval e₂ env)] := by rfl) : It C n env σ (.Call (.Name f p) [e₁, e₂] [] pos) (rng a 1 (b - a).toNat) := fun A O Ow s Q g q => by
  refine Call_Name rfl (Mine.glob ge hx gv g.w ?_ hd)
  have he' : starEach [e₁, e₂] env = (false, eval e₁ env) :: starEach [e₂] env := by rw [he, he2]
  refine PySem.callWith_type (by rw [he]; rfl) (evalArgs_of (Evs.cons h₁ (Evs.cons h₂ Evs.nil he2) he') he' g fun vs s' k is => ?_)
  cases is with
  | cons x xs =>
  cases xs with
  | cons y ys =>
  cases ys
  cases x
  cases y
  refine call_range_2 ?_
  refine rangeIter g (k.trans (SK.heap (.of fun _ _ e => Heap.get?_push_of_some _ e))) (Heap.get?_push_size _ rfl) (small1 ha ha' hb hb') size1 q
theorem It.range3 {f : Str} {p pos : Pos} {e₁ e₂ e₃ : Expr} {a b c : Int} {m : Nat} (ge : GE env) (gv : GV C f (.type "range")) (h₁ : Ev C n env σ e₁ (.int a)) (h₂ : Ev C n env σ e₂ (.int b)) (h₃ : Ev C n env σ e₃ (.int c)) (hc : c ≠ 0) (hc2 : c.natAbs < 1073741824) (hs : Builtin.Range.small a b c = true) (hm : Builtin.Range.rangeSize a b c = (m : Int))
    (hx : env.kindOf f = some .globalImplicit := by rfl) (he : starEach [e₁, e₂, e₃] env = (false, eval e₁ env) :: starEach [e₂, e₃] env := by rfl) (he2 : starEach [e₂, e₃] env = (false, eval e₂ env) :: starEach [e₃] env := by rfl) (he3 : starEach [e₃] env = (false, eval e₃ env) :: starEach [] env := by rfl) (hd : (f == ("__debug__" : Str)) = false := by decide) : It C n env σ (.Call (.Name f p) [e₁, e₂, e₃] [] pos) (rng a c m) := fun A O Ow s Q g q => by
  refine Call_Name rfl (Mine.glob ge hx gv g.w ?_ hd)
  refine PySem.callWith_type (by rw [he, he2, he3]; rfl) (evalArgs_of (Evs.cons h₁ (Evs.cons h₂ (Evs.cons h₃ Evs.nil he3) he2) he) he g fun vs s' k is => ?_)
  cases is with
  | cons x xs =>
  cases xs with
  | cons y ys =>
  cases ys with
  | cons z zs =>
  cases zs
  cases x
  cases y
  cases z
  refine call_range_3 hc ?_ (.inl (PyProof.noPylong_small hc2))
  exact rangeIter g (k.trans (SK.heap (.of fun _ _ e => Heap.get?_push_of_some _ e))) (Heap.get?_push_size _ rfl) hs hm q
end
end Mine
end

section
set_option maxRecDepth 100000
set_option linter.unusedVariables false
set_option tactic.hygienic false
namespace Mine
open PySem PySem.Calls PyProof.Rows PySem.W PySem.SeqAt

/-- frames, cells, lists and tuples stand, but those of O -/
noncomputable def FK (O : List Addr) (h h' : Heap) : Prop := ∀ b o, h.get? b = some o → b ∉ O → ((∃ es ep, o.data = .dict es ep) ∨ (∃ v, o.data = .cell v) ∨ ∃ xs n, o.data = .seq xs n) → h'.get? b = some o
theorem FK.data {O : List Addr} {h h' : Heap} (x : FK O h h') : DataKeep O h h' := fun b o e d n => x b o e n (.inr (.inr d))
theorem KS.of_but {TB Mu : List Addr} {h h' : Heap} (k : ∀ b o, b ∉ Mu → h.get? b = some o → h'.get? b = some o) (n : ∀ b ∈ TB, b ∉ Mu) : KS TB Mu h h' :=
  ⟨fun b o e _ m => k b o m e, fun b hb ps e => ⟨#[], by rw [k b _ (n b hb) e]; simp⟩⟩
theorem KS.fk {TB Mu O : List Addr} {h h' : Heap} (k : KS TB Mu h h') (t : TbOk TB h) (m : ∀ b ∈ Mu, b ∈ O ∨ ∀ o, h.get? b = some o → (∀ es ep, o.data ≠ .dict es ep) ∧ (∀ v, o.data ≠ .cell v) ∧ ∀ xs n, o.data ≠ .seq xs n) : FK O h h' := fun b o e n hd =>
  k.keep b o e (t.apart e fun ⟨ps, q⟩ => by rw [q] at hd; rcases hd with ⟨_, _, z⟩ | ⟨_, z⟩ | ⟨_, _, z⟩ <;> cases z) fun hm => by
    rcases m b hm with q | q
    · exact n q
    · refine Classical.byContradiction fun hN => ?_
      obtain ⟨q1, q2, q3⟩ := q o e
      refine hN ?_
      clear hN
      rcases hd with ⟨_, _, z⟩ | ⟨_, z⟩ | ⟨_, _, z⟩
      · exact q1 _ _ z
      · exact q2 _ z
      · exact q3 _ _ z
theorem KS.data {TB Mu O : List Addr} {h h' : Heap} (k : KS TB Mu h h') (t : TbOk TB h) (m : ∀ b ∈ Mu, b ∈ O ∨ ∀ o, h.get? b = some o → ∀ xs n, o.data ≠ .seq xs n) : DataKeep O h h' := fun b o e ⟨xs, q, hd⟩ n =>
  k.keep b o e (t.apart e fun ⟨ps, z⟩ => by rw [z] at hd; cases hd) fun hm => by
    rcases m b hm with z | z
    · exact n z
    · exact z o e _ _ hd
theorem SK.ks {TB Mu : List Addr} {s s' s'' : Shared} (x : SK TB s s') (y : KS TB Mu s'.heap s''.heap) (n : ∀ b ∈ Mu, s.heap.get? b = none) (o : s''.os = s'.os) (g : s''.gens = s'.gens) : SK TB s s'' :=
  ⟨y.kp x.kp n, o.trans x.os, by rw [g]; exact x.gens⟩
/-- names and data over a stretch that leaves them -/
theorem Look.fk {O : List Addr} {h h' : Heap} {env : Env} {x : Str} {v : Value} (l : Look env h x v) (y : FK O h h') (hO : OOk O h) : Look env h' x v := by
  rcases l with ⟨k, m, n, e⟩ | ⟨k, c, e, n⟩
  · refine .inl ⟨k, m, ns_keep n fun o e hd => y _ o e (fun hm => ?_) (.inl hd), e⟩
    refine Classical.byContradiction fun hN => ?_
    obtain ⟨o', e', xs, n', hd'⟩ := hO _ hm
    refine hN ?_
    clear hN
    rw [e] at e'; cases e'; obtain ⟨_, _, hd⟩ := hd; rw [hd] at hd'; cases hd'
  · refine .inr ⟨k, c, e, cell_keep n fun o e hd => y _ o e (fun hm => ?_) (.inr (.inl hd))⟩
    refine Classical.byContradiction fun hN => ?_
    obtain ⟨o', e', xs, n', hd'⟩ := hO _ hm
    refine hN ?_
    clear hN
    rw [e] at e'; cases e'; obtain ⟨_, hd⟩ := hd; rw [hd] at hd'; cases hd'
/-- over a stretch that leaves frames, cells, lists; the lists of O stay lists -/
theorem Rel.fkO {O : List Addr} {h h' : Heap} {env : Env} {σ : Sto} (r : Rel O [] env σ h) (y : FK O h h') (ex : OOk O h') : Rel O [] env σ h' where
  ok := by
    refine ⟨r.ok.fn, ?_, fun x c e => ?_⟩
    · obtain ⟨m, n⟩ := r.ok.ns
      refine ⟨m, ns_keep n fun o e hd => y _ o e (fun hm => ?_) (.inl hd)⟩
      refine Classical.byContradiction fun hN => ?_
      obtain ⟨o', e', xs, n', hd'⟩ := r.ex _ hm
      refine hN ?_
      clear hN
      rw [e] at e'; cases e'; obtain ⟨_, _, hd⟩ := hd; rw [hd] at hd'; cases hd'
    · obtain ⟨v, n⟩ := r.ok.cells x c e
      refine ⟨v, cell_keep n fun o e hd => y _ o e (fun hm => ?_) (.inr (.inl hd))⟩
      refine Classical.byContradiction fun hN => ?_
      obtain ⟨o', e', xs, n', hd'⟩ := r.ex _ hm
      refine hN ?_
      clear hN
      rw [e] at e'; cases e'; obtain ⟨_, hd⟩ := hd; rw [hd] at hd'; cases hd'
  ent := fun x en e => let ⟨v, l, i⟩ := r.ent x en e; ⟨v, l.fk y r.ex, i.move y.data fun _ ha => nomatch ha⟩
  sub := fun a ha => nomatch ha
  ex := ex
/-- over a stretch that turns no frame, cell or list at all -/
theorem Rel.fk {O : List Addr} {h h' : Heap} {env : Env} {σ : Sto} (r : Rel O [] env σ h) (y : FK [] h h') : Rel O [] env σ h' :=
  r.fkO (fun b o e _ d => y b o e (by simp) d) fun a ha => by
    refine Classical.byContradiction fun hN => ?_
    obtain ⟨o, e, d⟩ := r.ex a ha
    refine hN ?_
    clear hN
    exact ⟨o, y a o e (by simp) (.inr (.inr d)), d⟩
theorem Rel.sub_sto {O Ow : List Addr} {h : Heap} {env : Env} {σ σ' : Sto} (r : Rel O Ow env σ h) (s : ∀ x e, σ'.lookup x = some e → σ.lookup x = some e) : Rel O Ow env σ' h :=
  ⟨r.ok, fun x d e => r.ent x d (s _ _ e), r.sub, r.ex⟩

/-- the tests of a comprehension -/
noncomputable def Trs (C : Cx) (n : Nat) (env : Env) (σ : Sto) (es : List Expr) (b : Bool) : Prop :=
  ∀ (A : Around) (O Ow : List Addr) (s : Shared) (Q : Bool → Shared → Prop), Good C n A O Ow env σ s → (∀ s', SK C.TB s s' → Q b s') →
    wpAny C.M A (forIn es true fun c r => if r = true then do let ok ← isTrue c env (eval c env); pure (ForInStep.yield ok) else pure (ForInStep.yield r)) Q NoE s
/-- a target that takes a datum -/
noncomputable def Asg (C : Cx) (n : Nat) (env : Env) (t : Expr) (d : D) (new : Sto) : Prop :=
  ∀ (A : Around) (O Ow : List Addr) (σ : Sto) (s : Shared) (v : Value) (Q : Unit → Shared → Prop), Good C n A O Ow env σ s → Is O s.heap v d →
    (∀ s', KS C.TB [env.locals] s.heap s'.heap → s'.os = s.os → s'.gens = s.gens → Rel O Ow env (new ++ σ) s'.heap → Q () s') → wpAny C.M A (assign t env v) Q NoE s
section
variable {C : Cx} {n : Nat} {env : Env} {σ : Sto}
theorem Trs.nil : Trs C n env σ [] true := fun A O Ow s Q g q => wpAny_tests_nil (q _ (.refl _ _))
theorem Trs.one {e : Expr} {b : Bool} (h : Tr C n env σ e b) : Trs C n env σ [e] b := fun A O Ow s Q g q => wpAny_tests_one (h A O Ow s Q g q)
theorem Asg.name {x : Str} {p : Pos} {d : D} (hx : env.kindOf x = some .local) : Asg C n env (.Name x p) d [(x, .val d)] := fun A O Ow σ s v Q g i q =>
  wpAny_assign_Name (storeL (en := .val d) g.r g.w.tb hx i fun h' tk ks r => q _ ks rfl rfl r)

/-- a comprehension's loop, turn by turn, nothing raised -/
theorem compTurns {A : Around} {R : Result → Shared → Prop} {s : Shared} {elt target iter : Expr} {ifs : List Expr} {scope : Scope} {pos : Pos} {it acc : Value} {cenv : Env} (I : Nat → Shared → Prop)
    (turn : ∀ k s, I k s → wpAny C.M A (pyNext it) (fun r s₁ => match r with
      | none => R (.ok .next) s₁
      | some v => wpAny C.M A (letOwnedTupleGo target it v) (fun _ s₂ => wpAny C.M A (assign target cenv v) (fun _ s₃ =>
          wpAny C.M A (forIn ifs true fun c r => if r = true then do let ok ← isTrue c cenv (eval c cenv); pure (ForInStep.yield ok) else pure (ForInStep.yield r)) (fun ok s₄ =>
            if ok = true then wpAny C.M A (eval elt cenv) (fun x s₅ => wpAny C.M A (call (.builtin "list.append") [acc, x]) (fun _ s₆ => ∃ m, m < k ∧ I m s₆) NoE s₅) NoE s₄
            else ∃ m, m < k ∧ I m s₄) NoE s₃) NoE s₂) NoE s₁) NoE s)
    (k : Nat) (h : I k s) : codeAny C.M A (.compLoop (.ListComp elt [⟨target, iter, ifs, 0⟩] scope pos) 0 it acc cenv) R s := by
  refine codeAny_loop rfl I (fun k s hI => ?_) k h
  show wpAny _ A ((compTurn (.ListComp elt [⟨target, iter, ifs, 0⟩] scope pos) 0 it acc cenv).onRaise (fun x => do noteFrame x cenv; theTreesLotGoes x)) _ _ s
  refine wpAny_noted (noE ?_)
  rw [compTurn_list]
  refine wpAny_bind (wpAny_standAt (wpAny_bind (wpAny_mono (turn k s hI) (fun r s₁ h₁ => ?_) fun _ _ x => x)))
  cases r with
  | none => exact wpAny_pure h₁
  | some v =>
    refine wpAny_bind (wpAny_mono h₁ (fun _ s₂ h₂ => wpAny_bind (wpAny_mono h₂ (fun _ s₃ h₃ => wpAny_bind (wpAny_mono h₃ (fun ok s₄ h₄ => ?_) fun _ _ x => x)) fun _ _ x => x)) fun _ _ x => x)
    cases ok with
    | false =>
      simp only [Bool.false_eq_true, if_false] at h₄ ⊢
      exact wpAny_pure ⟨rfl, h₄⟩
    | true =>
      simp only [if_true] at h₄ ⊢
      exact wpAny_bind (wpAny_bind (wpAny_mono h₄ (fun x s₅ h₅ => wpAny_bind (wpAny_mono h₅ (fun _ s₆ h₆ => wpAny_pure (wpAny_pure ⟨rfl, h₆⟩)) fun _ _ x => x)) fun _ _ x => x))

noncomputable def IsIt (h : Heap) (I : Addr) : Prop := ∃ o c vs, h.get? I = some o ∧ o.cls = .type c ∧ o.data = .fields vs ∧ (c = "list_iterator" ∨ c = "range_iterator" ∨ c = "bytes_iterator")
/-- the loop of a comprehension -/
theorem comp_loop {A : Around} {O : List Addr} {I acc : Addr} {ds : List D} {elt target iter : Expr} {ifs : List Expr} {scope : Scope} {pos : Pos} {cenv : Env} {σc : Sto} {tgt : D → Sto} {p : D → Bool} {f : D → D} {s s₂ s₅ : Shared} {R : Result → Shared → Prop}
    (ha : AOk n A) (w : Wd C.K C.TB s.heap) (it : IterAt C A O I ds s.heap s₂.heap)
    (hD₀ : s₂.heap.get? acc = none) (hL₀ : s₂.heap.get? cenv.locals = none)
    (k₂ : SK C.TB s s₂) (k₅ : KS C.TB [] s₂.heap s₅.heap) (kos : s₅.os = s₂.os) (kg : s₅.gens = s₂.gens) (hls : LsAt s₅.heap acc []) (hr : Rel (acc :: O) [] cenv σc s₅.heap)
    (htg : ∀ d x e, σc.lookup x = some e → (tgt d ++ σc).lookup x = some e)
    (hA : ∀ d ∈ ds, Asg C n cenv target d (tgt d)) (hT : ∀ d ∈ ds, Trs C n cenv (tgt d ++ σc) ifs (p d)) (hE : ∀ d ∈ ds, p d = true → Ev C n cenv (tgt d ++ σc) elt (f d))
    (hz : ds.length ≤ 1000000)
    (hown : ∀ (s : Shared) (v : Value) (Q : Unit → Shared → Prop), IsIt s.heap I → Q () s → wpAny C.M A (letOwnedTupleGo target (.ref I) v) Q NoE s)
    (hR : ∀ s' vs, SK C.TB s s' → LsAt s'.heap acc vs → IsAll (acc :: O) s'.heap vs ((ds.filter p).map f) → Rel (acc :: O) [] cenv σc s'.heap → R (.ok .next) s') :
    codeAny C.M A (.compStart (.ListComp elt [⟨target, iter, ifs, 0⟩] scope pos) 0 (.ref I) (.ref acc) cenv) R s₅ := by
  refine Classical.byContradiction fun hN => ?_
  obtain ⟨fp, P, St, W, hst, hI0, hfp, hP, hit⟩ := it
  refine hN ?_
  clear hN
  have hnA : acc ∉ fp := fun hm => by obtain ⟨_, _, o, e, _⟩ := hfp _ hm; rw [hD₀] at e; cases e
  have hnL : cenv.locals ∉ fp := fun hm => by obtain ⟨_, _, o, e, _⟩ := hfp _ hm; rw [hL₀] at e; cases e
  have hIf : I ∈ fp := W.sub I (by simp)
  have hIT : I ∉ C.TB := (hfp I hIf).1
  have hsA : s.heap.get? acc = none := by
    cases q : s.heap.get? acc with
    | none => rfl
    | some o => exact (by obtain ⟨o', e⟩ := k₂.kp.there w.tb ⟨o, q⟩; rw [hD₀] at e; cases e)
  have hsL : s.heap.get? cenv.locals = none := by
    cases q : s.heap.get? cenv.locals with
    | none => rfl
    | some o => exact (by obtain ⟨o', e⟩ := k₂.kp.there w.tb ⟨o, q⟩; rw [hL₀] at e; cases e)
  -- what holds between the turns
  have w₂ := w.sk k₂
  have hIt₂ := hit _ _ hst
  let J : Nat → Shared → Prop := fun k s' => ∃ i vs, i ≤ ds.length ∧ k = ds.length + 1 - i ∧ SK C.TB s s' ∧ KS C.TB [I, acc, cenv.locals] s₂.heap s'.heap ∧ St i s'.heap ∧ LsAt s'.heap acc vs ∧ IsAll (acc :: O) s'.heap vs (((ds.take i).filter p).map f) ∧ Rel (acc :: O) [] cenv σc s'.heap
  have loop : ∀ k s', J k s' → codeAny C.M A (.compLoop (.ListComp elt [⟨target, iter, ifs, 0⟩] scope pos) 0 (.ref I) (.ref acc) cenv) R s' := by
    intro k s' hJ
    refine compTurns J (fun k s' hJ => ?_) k hJ
    refine Classical.byContradiction fun hN => ?_
    obtain ⟨i, vs, hi, hk, hsk, hks, hst', hls', hall, hrel⟩ := hJ
    refine hN ?_
    clear hN
    have w' := w.sk hsk
    by_cases hlt : i < ds.length
    · refine W.item i s' _ _ hlt hst' fun v h₁ tk₁ hPv hst₁ hk₁ => ?_
      have hd : ds[i]? = some ds[i] := List.getElem?_eq_getElem hlt
      have hmem : ds[i] ∈ ds := List.getElem_mem hlt
      have ks₁ : KS C.TB [I] s'.heap h₁ := .of_but hk₁ fun b hb hm => by rw [List.mem_singleton] at hm; exact hIT (hm ▸ hb)
      have nI : ∀ o, s'.heap.get? I = some o → ∃ vs, o.data = .fields vs := fun o e => by
        refine Classical.byContradiction fun hN => ?_
        obtain ⟨oI, cI, vI, eI, hcI, hdI, _⟩ := hit _ _ hst'
        refine hN ?_
        clear hN
        rw [eI] at e; cases e; exact ⟨_, hdI⟩
      have fk₁ : FK [] s'.heap h₁ := ks₁.fk w'.tb fun b hb => .inr fun o e => by
        rw [List.mem_singleton] at hb; subst hb
        obtain ⟨vs, q⟩ := nI o e
        rw [q]; exact ⟨(fun _ _ z => by cases z), (fun _ z => by cases z), fun _ _ z => by cases z⟩
      have hrel₁ := hrel.fk fk₁
      have sk₁ : SK C.TB s { s' with heap := h₁, toks := tk₁ } := hsk.ks ks₁ (fun b hb => by rw [List.mem_singleton] at hb; subst hb; exact hI0) rfl rfl
      have ks₂₁ : KS C.TB [I, acc, cenv.locals] s₂.heap h₁ := hks.trans (ks₁.mono fun b hb => by simp at hb; simp [hb])
      have iv : Is (acc :: O) h₁ v ds[i] := by
        have i0 := hP s₂.heap (fun _ _ e _ _ => e) i v _ hPv hd
        have i1 : Is (acc :: O) s₂.heap v ds[i] := i0.keep (fun _ _ e _ _ => e) fun a o e ha' hm => by
          rcases List.mem_cons.mp hm with rfl | hm
          · rw [hD₀] at e; cases e
          · exact ha' hm
        refine i1.keep (ks₂₁.fk (O := acc :: O) w₂.tb fun b hb => ?_).data fun _ _ _ q => q
        simp only [List.mem_cons, List.not_mem_nil, or_false] at hb
        rcases hb with rfl | rfl | rfl
        · refine .inr fun o e => ?_
          refine Classical.byContradiction fun hN => ?_
          obtain ⟨oI, cI, vI, eI, hcI, hdI, _⟩ := hIt₂
          refine hN ?_
          clear hN
          rw [eI] at e; cases e; rw [hdI]; exact ⟨(fun _ _ z => by cases z), (fun _ z => by cases z), fun _ _ z => by cases z⟩
        · exact .inl (by simp)
        · exact .inr fun o e => by rw [hL₀] at e; cases e
      refine hown _ v _ (hit _ _ hst₁) ?_
      refine hA _ hmem A (acc :: O) [] σc _ v _ ⟨ha, w.sk sk₁, hrel₁⟩ iv fun s₃ ks₃ os₃ gs₃ hrel₃ => ?_
      have notD : ∀ {h : Heap} {m : Str → Option Value}, h.Ns cenv.locals m → ∀ o, h.get? cenv.locals = some o → ∃ es ep, o.data = .dict es ep := fun hn o e => by
        refine Classical.byContradiction fun hN => ?_
        obtain ⟨o', es, ep, e', hd', _⟩ := hn
        refine hN ?_
        clear hN
        rw [e] at e'; cases e'; exact ⟨es, ep, hd'⟩
      obtain ⟨m₁, hn₁⟩ := hrel₁.ok.ns
      have sk₃ : SK C.TB s s₃ := sk₁.ks ks₃ (fun b hb => by rw [List.mem_singleton] at hb; subst hb; exact hsL) os₃ gs₃
      have dk₃ : DataKeep (acc :: O) h₁ s₃.heap := ks₃.data (w.sk sk₁).tb fun b hb => .inr fun o e => by
        rw [List.mem_singleton] at hb; subst hb
        refine Classical.byContradiction fun hN => ?_
        obtain ⟨es, ep, q⟩ := notD hn₁ o e
        refine hN ?_
        clear hN
        rw [q]; exact fun _ _ z => by cases z
      have hst₃ : St (i + 1) s₃.heap := W.frame _ _ _ hst₁ fun b hb o e => ks₃.keep b o e (hfp b hb).1 fun hm => by rw [List.mem_singleton] at hm; exact hnL (hm ▸ hb)
      have ks₂₃ : KS C.TB [I, acc, cenv.locals] s₂.heap s₃.heap := ks₂₁.trans (ks₃.mono fun b hb => by simp at hb; simp [hb])
      obtain ⟨kk, els⟩ := hls'
      have neAL : acc ≠ cenv.locals := fun q => by
        refine Classical.byContradiction fun hN => ?_
        obtain ⟨_, _, q'⟩ := notD hn₁ _ (q ▸ (fk₁ acc _ els (by simp) (.inr (.inr ⟨_, _, rfl⟩))))
        refine hN ?_
        clear hN
        cases q'
      have nT : ∀ {h : Heap} {vs : List Value} {kk : Nat}, TbOk C.TB h → h.get? acc = some { cls := .type "list", data := .seq vs.toArray kk } → acc ∉ C.TB := fun t e => t.apart e fun ⟨ps, z⟩ => by cases z
      have els₁ := fk₁ acc _ els (by simp) (.inr (.inr ⟨_, _, rfl⟩))
      have els₃ : s₃.heap.get? acc = _ := ks₃.keep acc _ els₁ (nT (w.sk sk₁).tb els₁) (by simpa using neAL)
      have hall₃ : IsAll (acc :: O) s₃.heap vs (((ds.take i).filter p).map f) := (hall.keep (fun b o e d _ => fk₁ b o e (by simp) (.inr (.inr d))) fun _ _ _ q => q).keep dk₃ fun _ _ _ q => q
      refine hT _ hmem A (acc :: O) [] s₃ _ ⟨ha, w.sk sk₃, hrel₃⟩ fun s₄ sk₄ => ?_
      have g₃ : Good C n A (acc :: O) [] cenv (tgt ds[i] ++ σc) s₃ := ⟨ha, w.sk sk₃, hrel₃⟩
      have g₄ := g₃.sk sk₄
      have take1 : ds.take (i + 1) = ds.take i ++ [ds[i]] := by rw [List.take_add_one, hd]; rfl
      have stp : ∀ {h h' : Heap}, St (i + 1) h → Kp C.TB h h' → St (i + 1) h' := fun st kp => W.frame _ _ _ st fun b hb o e => kp.keep b o e (hfp b hb).1
      cases hp : p ds[i] with
      | false =>
        simp only [Bool.false_eq_true, if_false]
        refine ⟨ds.length + 1 - (i + 1), by (clear hp stp take1 g₄ g₃ sk₄ hall₃ els₃ els₁ nT neAL els ks₂₃ hst₃ dk₃ sk₃ hn₁ notD hrel₃ gs₃ os₃ ks₃ iv ks₂₁ sk₁ hrel₁ fk₁ nI ks₁ hmem hd hk₁ hst₁ hPv hlt w' hrel hall hst' hks hsk hJ hIt₂ w₂ hsL hsA hIT hIf hnL hnA hit hP hfp hI0 hst W hR hown hz hE hT hA htg hr hls kg kos k₅ k₂ hL₀ hD₀ w ha; lia), i + 1, vs, hlt, rfl, sk₃.trans sk₄, ks₂₃.trans (sk₄.kp.ks _), stp hst₃ sk₄.kp, ⟨kk, sk₄.kp.keep acc _ els₃ (nT (w.sk sk₃).tb els₃)⟩, ?_, (g₄.r).sub_sto (htg _)⟩
        rw [take1, List.filter_append, List.filter_cons_of_neg (by simp [hp]), List.filter_nil, List.append_nil]
        exact hall₃.kp sk₄.kp (w.sk sk₃).tb
      | true =>
        simp only [if_true]
        refine hE _ hmem hp A (acc :: O) [] s₄ _ g₄ fun x s₅ sk₅ ix => ?_
        have g₅ := g₄.sk sk₅
        have els₅ := sk₅.kp.keep acc _ (sk₄.kp.keep acc _ els₃ (nT (w.sk sk₃).tb els₃)) (nT (w.sk sk₃).tb els₃)
        have hall₅ := (hall₃.kp sk₄.kp (w.sk sk₃).tb).kp sk₅.kp g₄.w.tb
        have hlv := hall.length
        have hfl : ((ds.take i).filter p).length ≤ i := Nat.le_trans (List.length_filter_le _ _) (by rw [List.length_take]; (first | lia | omega))
        rw [List.length_map] at hlv
        refine wpAny_list_append_plain (items := vs.toArray) ⟨kk, els₅⟩ (fun h₆ hp₆ hs₆ => ?_) (by rw [List.size_toArray, sizeLine_eq]; (clear hall₅ els₅ g₅ ix sk₅ hp stp take1 g₄ g₃ sk₄ hall₃ els₃ els₁ nT neAL els ks₂₃ hst₃ dk₃ sk₃ hn₁ notD hrel₃ gs₃ os₃ ks₃ iv ks₂₁ sk₁ hrel₁ fk₁ nI ks₁ hmem hd hk₁ hst₁ hPv hlt w' hrel hall hst' hks hsk hk hJ hIt₂ w₂ hsL hsA hIT hIf hnL hnA hit hP hfp hI0 hst W hR hown hE hT hA htg hr hls kg kos k₅ k₂ hL₀ hD₀ w ha; lia))
        obtain ⟨k₆, e₆⟩ := hp₆
        have ls₆ : LsAt h₆ acc (vs ++ [x]) := ⟨k₆, by rw [e₆]; simp⟩
        have ks₆ : KS C.TB [acc] s₅.heap h₆ := KS.of_same hs₆ g₅.w.tb els₅ fun ⟨ps, z⟩ => by cases z
        have fk₆ : FK (acc :: O) s₅.heap h₆ := ks₆.fk g₅.w.tb fun b hb => .inl (by simp at hb; simp [hb])
        have ok₆ : OOk (acc :: O) h₆ := fun a hm => by
          by_cases q : a = acc
          · subst q; exact ⟨_, ls₆.choose_spec, _, _, rfl⟩
          · refine Classical.byContradiction fun hN => ?_
            obtain ⟨o, e, d⟩ := g₅.r.ex a hm
            refine hN ?_
            clear hN
            exact ⟨o, (hs₆.2 a q).trans e, d⟩
        refine ⟨ds.length + 1 - (i + 1), by (clear ok₆ fk₆ ks₆ ls₆ e₆ hs₆ hfl hlv hall₅ els₅ g₅ ix sk₅ hp stp take1 g₄ g₃ sk₄ hall₃ els₃ els₁ nT neAL els ks₂₃ hst₃ dk₃ sk₃ hn₁ notD hrel₃ gs₃ os₃ ks₃ iv ks₂₁ sk₁ hrel₁ fk₁ nI ks₁ hmem hd hk₁ hst₁ hPv hlt w' hrel hall hst' hks hsk hJ hIt₂ w₂ hsL hsA hIT hIf hnL hnA hit hP hfp hI0 hst W hR hown hz hE hT hA htg hr hls kg kos k₅ k₂ hL₀ hD₀ w ha; lia), i + 1, vs ++ [x], hlt, rfl, ?_, ?_, ?_, ls₆, ?_, ?_⟩
        · exact ((sk₃.trans sk₄).trans sk₅).ks ks₆ (fun b hb => by rw [List.mem_singleton] at hb; subst hb; exact hsA) rfl rfl
        · exact (ks₂₃.trans ((sk₄.trans sk₅).kp.ks _)).trans (ks₆.mono fun b hb => by simp at hb; simp [hb])
        · exact W.frame _ _ _ (stp (stp hst₃ sk₄.kp) sk₅.kp) fun b hb o e => (hs₆.2 b fun q => hnA (q ▸ hb)).trans e
        · rw [take1, List.filter_append, List.filter_cons_of_pos hp, List.filter_nil, List.map_append]
          exact (hall₅.snoc ix).keep fk₆.data fun _ _ _ q => q
        · exact (g₅.r.fkO fk₆ ok₆).sub_sto (htg _)
    · have hin : i = ds.length := by (first | lia | omega)
      subst hin
      refine W.done s' _ _ hst' fun h₁ tk₁ hk₁ => ?_
      have ks₁ : KS C.TB [I] s'.heap h₁ := .of_but hk₁ fun b hb hm => by rw [List.mem_singleton] at hm; exact hIT (hm ▸ hb)
      have fk₁ : FK [] s'.heap h₁ := ks₁.fk w'.tb fun b hb => .inr fun o e => by
        rw [List.mem_singleton] at hb; subst hb
        refine Classical.byContradiction fun hN => ?_
        obtain ⟨oI, cI, vI, eI, hcI, hdI, _⟩ := hit _ _ hst'
        refine hN ?_
        clear hN
        rw [eI] at e; cases e; rw [hdI]
        exact ⟨(fun _ _ z => by cases z), (fun _ z => by cases z), fun _ _ z => by cases z⟩
      obtain ⟨kk, els⟩ := hls'
      rw [List.take_length] at hall
      refine hR _ vs (hsk.ks ks₁ (fun b hb => by rw [List.mem_singleton] at hb; subst hb; exact hI0) rfl rfl) ⟨kk, fk₁ acc _ els (by simp) (.inr (.inr ⟨_, _, rfl⟩))⟩ ?_ (hrel.fk fk₁)
      exact hall.keep (fun b o e d _ => fk₁ b o e (by simp) (.inr (.inr d))) fun _ _ _ q => q
  have start : J (ds.length + 1) s₅ := by
    refine ⟨0, [], Nat.zero_le _, rfl, ?_, k₅.mono (by simp), ?_, hls, .nil, hr⟩
    · exact k₂.ks k₅ (by simp) kos kg
    · exact W.frame _ _ _ hst fun b hb o e => k₅.keep b o e (hfp b hb).1 (by simp)
  refine codeAny_compStart_list (loop _ _ start) (noE (W.self 0 _ _ _ (by obtain ⟨i, vs, _, _, _, _, st, _⟩ := start; exact W.frame _ _ _ hst fun b hb o e => k₅.keep b o e (hfp b hb).1 (by simp)) (loop _ _ start)))
end
end Mine
end

section
set_option genInjectivity false
set_option genSizeOf false
set_option genSizeOfSpec false
set_option maxRecDepth 100000
set_option linter.unusedVariables false
set_option tactic.hygienic false
namespace Mine
open PySem PySem.Calls PyProof.Rows PySem.W PySem.SeqAt

/-- the cells that a comprehension takes along -/
noncomputable def clOf (env : Env) : List (Str × NameKind) → List (Str × Addr) → List (Str × Addr)
  | [], acc => acc
  | (x, k) :: r, acc => clOf env r (if k == .free then (x, (env.cells.lookup x).getD 0) :: acc else acc)
theorem closureFor_eq {scope : Scope} {env : Env} (h : ∀ x, (x, NameKind.free) ∈ scope.names → ∃ c, env.cells.lookup x = some c) : closureFor scope env = pure (clOf env scope.names []) := by
  unfold closureFor
  have key : ∀ (f : Str × NameKind → List (Str × Addr) → Sem (ForInStep (List (Str × Addr)))) (hf : ∀ x k cs, f (x, k) cs = if (k == .free) = true then (cellOf env x >>= fun c => pure (ForInStep.yield ((x, c) :: cs))) else pure (ForInStep.yield cs))
      (names : List (Str × NameKind)) (acc : List (Str × Addr)), (∀ x, (x, NameKind.free) ∈ names → ∃ c, env.cells.lookup x = some c) →
      forIn names acc f = (pure (clOf env names acc) : Sem (List (Str × Addr))) := by
    intro f hf names
    induction names with
    | nil => intro acc _; rfl
    | cons y r ih =>
      intro acc hh
      obtain ⟨x, k⟩ := y
      rw [List.forIn_cons, hf]
      by_cases hk : (k == NameKind.free) = true
      · have : k = .free := by simpa using hk
        subst this
        obtain ⟨c, e⟩ := hh x (by simp)
        have e2 : cellOf env x = pure c := by unfold cellOf; rw [e]
        rw [if_pos hk, e2]
        have := ih ((x, c) :: acc) fun x hx => hh x (List.mem_cons_of_mem _ hx)
        unfold clOf
        rw [if_pos hk, e, Option.getD_some]
        exact this
      · rw [if_neg hk]
        have := ih acc fun x hx => hh x (List.mem_cons_of_mem _ hx)
        unfold clOf
        rw [if_neg hk]
        exact this
  dsimp only
  rw [key _ (fun x k cs => rfl) scope.names [] h]
  rfl
theorem clOf_lookup {env : Env} {x : Str} : ∀ {names : List (Str × NameKind)} {acc : List (Str × Addr)} {c : Addr}, (clOf env names acc).lookup x = some c → (∀ c', acc.lookup x = some c' → env.cells.lookup x = some c') → (∀ y, (y, NameKind.free) ∈ names → ∃ c, env.cells.lookup y = some c) → env.cells.lookup x = some c
  | [], acc, c, h, ha, _ => ha c h
  | (y, k) :: r, acc, c, h, ha, hf => by
    unfold clOf at h
    refine clOf_lookup h (fun c' hc => ?_) fun z hz => hf z (List.mem_cons_of_mem _ hz)
    split at hc
    · rename_i hk
      have : k = .free := by simpa using hk
      subst this
      obtain ⟨c0, e⟩ := hf y (by simp)
      rw [List.lookup_cons] at hc
      split at hc
      · rename_i hxy
        have : x = y := by simpa using hxy
        subst this
        rw [e] at hc ⊢
        simpa using hc
      · exact ha c' hc
    · exact ha c' hc
theorem clOf_has {env : Env} {x : Str} {c : Addr} (e : env.cells.lookup x = some c) : ∀ {names : List (Str × NameKind)} {acc : List (Str × Addr)}, ((x, NameKind.free) ∈ names ∨ acc.lookup x = some c) → (clOf env names acc).lookup x = some c
  | [], acc, h => by
    rcases h with h | h
    · cases h
    · exact h
  | (y, k) :: r, acc, h => by
    unfold clOf
    refine clOf_has e ?_
    by_cases hy : y = x ∧ k = .free
    · obtain ⟨rfl, rfl⟩ := hy
      right
      simp [e]
    · rcases h with h | h
      · rcases List.mem_cons.mp h with h | h
        · exact absurd ⟨congrArg Prod.fst h.symm, congrArg Prod.snd h.symm⟩ hy
        · exact .inl h
      · right
        split
        · rename_i hk
          have hk' : k = .free := by simpa using hk
          have : x ≠ y := fun q => hy ⟨q.symm, hk'⟩
          rw [List.lookup_cons, show (x == y) = false from by simpa using this]
          exact h
        · exact h

theorem lookup_relabel {env : Env} {x : Str} {k : NameKind} : ∀ {names : List (Str × NameKind)}, names.lookup x = some k →
    (names.map fun (n, k) => if (k == NameKind.free && env.scope.kind == .function && env.kindOf n == some .cell) then (n, NameKind.cell) else (n, k)).lookup x = some (if (k == NameKind.free && env.scope.kind == .function && env.kindOf x == some .cell) then NameKind.cell else k)
  | [], h => by simp at h
  | (n, k') :: r, h => by
    have ih := @lookup_relabel env x k r
    show List.lookup x ((if (k' == NameKind.free && env.scope.kind == .function && env.kindOf n == some .cell) = true then (n, NameKind.cell) else (n, k')) :: _) = _
    cases hx : x == n with
    | true =>
      have hxn : x = n := by simpa using hx
      subst hxn
      rw [List.lookup_cons_self] at h
      cases h
      split <;> simp [List.lookup_cons, *]
    | false =>
      rw [List.lookup_cons, hx] at h
      split <;> (rw [List.lookup_cons, hx]; exact ih h)

/-- a comprehension's frame upon another -/
structure CE (env : Env) (scope : Scope) (cenv : Env) : Prop where
  sc : cenv.scope = relabel scope env
  gl : cenv.globals = env.globals
  bt : cenv.builtins = env.builtins
theorem CE.ge {env cenv : Env} {scope : Scope} (c : CE env scope cenv) (g : GE env) (hk : scope.kind = .function) : GE cenv := ⟨by rw [c.sc]; exact hk, c.gl.trans g.gl, c.bt.trans g.bt⟩
theorem CE.kind {env cenv : Env} {scope : Scope} (c : CE env scope cenv) {x : Str} {k : NameKind} (h : scope.names.lookup x = some k) (hk : k ≠ .free) : cenv.kindOf x = some k := by
  have := lookup_relabel (env := env) h
  unfold Env.kindOf
  rw [c.sc]
  refine this.trans ?_
  have : (k == NameKind.free) = false := by simpa using hk
  simp [this]

section
variable {C : Cx} {n : Nat} {env : Env} {σ : Sto}
/-- what a comprehension's frame sees of the frame around it -/
structure Sees (env : Env) (scope : Scope) (σ σc : Sto) : Prop where
  free : ∀ x, (x, NameKind.free) ∈ scope.names → ∃ c, env.cells.lookup x = some c
  see : ∀ x e, σc.lookup x = some e → ∃ d, e = .val d ∧ σ.lookup x = some (.val d) ∧ scope.names.lookup x = some .free ∧ env.kindOf x ≠ some .local
theorem Sees.outer {scope : Scope} {σc : Sto} (se : Sees env scope σ σc) {h : Heap} (x : Str) (e : Ent) (he : σc.lookup x = some e) {v : Value} (l : Look env h x v) (hnl : env.kindOf x ≠ some .local) : ∃ c, env.cells.lookup x = some c ∧ h.IsCell c (some v) := by
  rcases l with ⟨k, _⟩ | ⟨_, c, e, ic⟩
  · exact absurd k hnl
  · exact ⟨c, e, ic⟩
theorem comp_core {A : Around} {O Ow : List Addr} {ds : List D} {elt target iter : Expr} {ifs : List Expr} {scope : Scope} {pos pos' : Pos} {σc : Sto} {tgt : D → Sto} {p : D → Bool} {f : D → D} {s : Shared} {use : Option (Value → Sem Unit)} {Q : Value → Shared → Prop}
    (g : Good C n A O Ow env σ s) (it : It C n env σ iter ds) (se : Sees env scope σ σc)
    (hcell : ∀ y ∈ scope.names, y.2 ≠ .cell) (hkind : scope.kind = .function) (hnames : ∀ y ∈ scope.names, y.2 = .local → scope.names.lookup y.1 = some .local)
    (hs : ∀ x, foldedSetIterable iter env x = pure x)
    (htg : ∀ d x e, σc.lookup x = some e → (tgt d ++ σc).lookup x = some e)
    (hA : ∀ cenv, CE env scope cenv → ∀ d ∈ ds, Asg C n cenv target d (tgt d)) (hT : ∀ cenv, CE env scope cenv → ∀ d ∈ ds, Trs C n cenv (tgt d ++ σc) ifs (p d)) (hE : ∀ cenv, CE env scope cenv → ∀ d ∈ ds, p d = true → Ev C n cenv (tgt d ++ σc) elt (f d))
    (hz : ds.length ≤ 1000000)
    (hown : ∀ (I : Addr) (s : Shared) (v : Value) (Q : Unit → Shared → Prop), IsIt s.heap I → Q () s → wpAny C.M A (letOwnedTupleGo target (.ref I) v) Q NoE s)
    (hpost : ∀ (s' : Shared) (acc Lc : Addr), SK C.TB s s' → Is O s'.heap (.ref acc) (.list ((ds.filter p).map f)) → s.heap.get? Lc = none → s.heap.get? acc = none → (∃ m, s'.heap.Ns Lc m) → compPost C.M A NoE use Q (.ref acc) Lc (.ok .next) s') :
    wpAny C.M A (comprehension (.ListComp elt [⟨target, iter, ifs, 0⟩] scope pos) scope env pos' (newList []) false (eval iter env) use) Q NoE s := by
  refine wpAny_comprehension_free (g := ⟨target, iter, ifs, 0⟩) (gs := []) rfl hs (closureFor_eq se.free) hkind hnames ?_
  refine it A O Ow s _ g fun I s₂ k₂ hI => ?_
  have g₂ := g.sk k₂
  refine wpAny_newList ?_ (Nat.zero_le _)
  refine wpAny_newFunctionEnv hcell (by intro y hy; simp at hy) (fun h₁ hns₁ hsb₁ => ?_) hkind
  dsimp only at hns₁ hsb₁ ⊢
  generalize hH2 : s₂.heap.push { cls := .type "list", data := .seq ([] : List Value).toArray } = H2 at hns₁ hsb₁ ⊢
  have hC : H2.objs.size = s₂.heap.objs.size + 1 := by rw [← hH2, Heap.size_push]
  have hDC : s₂.heap.objs.size ≠ H2.objs.size := by (first | lia | omega)
  have none_of : ∀ a, s₂.heap.objs.size ≤ a → s₂.heap.get? a = none := fun a ha => by
    cases e : s₂.heap.get? a with
    | none => rfl
    | some o' => exact absurd (Heap.lt_size e) (Nat.not_lt.mpr ha)
  have old : ∀ b o, s₂.heap.get? b = some o → h₁.get? b = some o := fun b o e => by
    have hlt := Heap.lt_size e
    have hne : b ≠ H2.objs.size := Nat.ne_of_lt (Nat.lt_of_lt_of_le hlt (by rw [hC]; exact Nat.le_succ _))
    exact hsb₁.extBut b o hne (Heap.get?_push_of_some _ (hH2 ▸ Heap.get?_push_of_some _ e))
  have hacc : LsAt h₁ s₂.heap.objs.size [] := ⟨0, hsb₁.extBut _ _ hDC (Heap.get?_push_of_some _ (hH2 ▸ Heap.get?_push_size _ rfl))⟩
  have kp₁ : Kp C.TB s₂.heap h₁ := .of old
  have ce : CE env scope (compEnvC scope (clOf env scope.names []) H2.objs.size env) := ⟨rfl, rfl, rfl⟩
  have r₁ := g₂.r.kp kp₁ g₂.w.tb
  have hnew : s₂.heap.objs.size ∉ O := g₂.newO
  have rel : Rel (s₂.heap.objs.size :: O) [] (compEnvC scope (clOf env scope.names []) H2.objs.size env) σc h₁ := by
    refine ⟨⟨hkind, ⟨_, hns₁⟩, fun x c e => ?_⟩, fun x en e => ?_, fun a ha => (nomatch ha), fun a ha => ?_⟩
    · exact r₁.ok.cells x c (clOf_lookup e (fun _ q => by cases q) se.free)
    · refine Classical.byContradiction fun hN => ?_
      obtain ⟨d, rfl, hσ, hf, hnl⟩ := se.see x _ e
      obtain ⟨v, l, i⟩ := g₂.r.val x d hσ
      refine hN ?_
      clear hN
      have hmem : (x, NameKind.free) ∈ scope.names := mem_of_lookup hf
      obtain ⟨c, ec⟩ := se.free x hmem
      refine ⟨v, ?_, (i.keep (O' := s₂.heap.objs.size :: O) (fun _ _ e _ _ => e) fun a o e ha' hm => ?_).keep (kp₁.seq g₂.w.tb _) fun _ _ _ q => q⟩
      · have hk : Env.kindOf (compEnvC scope (clOf env scope.names []) H2.objs.size env) x = some .cell ∨ Env.kindOf (compEnvC scope (clOf env scope.names []) H2.objs.size env) x = some .free := by
          have := lookup_relabel (env := env) hf
          split at this
          · exact .inl this
          · exact .inr this
        refine .inr ⟨hk, c, clOf_has ec (.inl hmem), ?_⟩
        rcases se.outer x _ e l hnl with ⟨c', e', ic⟩
        rw [ec] at e'
        cases e'
        exact kp₁.cell g₂.w.tb ic
      · rcases List.mem_cons.mp hm with rfl | hm
        · exact absurd (Heap.lt_size e) (Nat.lt_irrefl _)
        · exact ha' hm
    · rcases List.mem_cons.mp ha with rfl | ha
      · obtain ⟨k, e⟩ := hacc; exact ⟨_, e, _, _, rfl⟩
      · exact r₁.ex a ha
  show codeAny C.M A (.compStart _ 0 (.ref I) (.ref s₂.heap.objs.size) (compEnvC scope (clOf env scope.names []) H2.objs.size env)) (compPost C.M A NoE use Q (.ref s₂.heap.objs.size) H2.objs.size) _
  refine comp_loop (s := s) (s₂ := s₂) g.a g.w hI (none_of _ (Nat.le_refl _)) (none_of _ (by show s₂.heap.objs.size ≤ H2.objs.size; (first | lia | omega))) k₂ (kp₁.ks _) rfl rfl hacc rel htg (hA _ ce) (hT _ ce) (hE _ ce) hz (hown I) fun s' vs sk' ls' all' rel' => ?_
  refine hpost s' _ _ sk' (.list ls' hnew (all'.keep (fun _ _ e _ _ => e) fun a o e ha' hm => ha' (List.mem_cons_of_mem _ hm))) ?_ ?_ rel'.ok.ns
  · cases q : s.heap.get? H2.objs.size with
    | none => rfl
    | some o => exact (by obtain ⟨o', e⟩ := k₂.kp.there g.w.tb ⟨o, q⟩; rw [none_of _ (by (first | lia | omega))] at e; cases e)
  · exact k₂.kp.none_of g.w.tb

theorem Ev.comp {ds : List D} {elt target iter : Expr} {ifs : List Expr} {scope : Scope} {pos : Pos} (σc : Sto) (tgt : D → Sto) (p : D → Bool) (f : D → D)
    (it : It C n env σ iter ds) (se : Sees env scope σ σc)
    (hcell : ∀ y ∈ scope.names, y.2 ≠ .cell) (hkind : scope.kind = .function) (hnames : ∀ y ∈ scope.names, y.2 = .local → scope.names.lookup y.1 = some .local)
    (hs : ∀ x, foldedSetIterable iter env x = pure x)
    (htg : ∀ d x e, σc.lookup x = some e → (tgt d ++ σc).lookup x = some e)
    (hA : ∀ cenv, CE env scope cenv → ∀ d ∈ ds, Asg C n cenv target d (tgt d)) (hT : ∀ cenv, CE env scope cenv → ∀ d ∈ ds, Trs C n cenv (tgt d ++ σc) ifs (p d)) (hE : ∀ cenv, CE env scope cenv → ∀ d ∈ ds, p d = true → Ev C n cenv (tgt d ++ σc) elt (f d))
    (hz : ds.length ≤ 1000000)
    (hown : ∀ (A : Around) (I : Addr) (s : Shared) (v : Value) (Q : Unit → Shared → Prop), IsIt s.heap I → Q () s → wpAny C.M A (letOwnedTupleGo target (.ref I) v) Q NoE s) :
    Ev C n env σ (.ListComp elt [⟨target, iter, ifs, 0⟩] scope pos) (.list ((ds.filter p).map f)) := fun A O Ow s Q g q => by
  rw [eval_ListComp]
  refine comp_core (use := none) g it se hcell hkind hnames hs htg hA hT hE hz (hown A) fun s' acc Lc sk i hL hacc hns => ?_
  obtain ⟨m, hn⟩ := hns
  refine ⟨m, hn, fun h' hs' => ?_⟩
  refine Classical.byContradiction fun hN => ?_
  obtain ⟨oL, es, ep, eL, hd, _⟩ := hn
  refine hN ?_
  clear hN
  have ks : KS C.TB [Lc] s'.heap h' := KS.of_same hs' (g.sk sk).w.tb eL fun ⟨ps, z⟩ => by rw [z] at hd; cases hd
  refine q _ _ (sk.ks ks (fun b hb => by rw [List.mem_singleton] at hb; subst hb; exact hL) rfl rfl) (i.keep (ks.data (g.sk sk).w.tb fun b hb => .inr fun o e => ?_) fun _ _ _ q => q)
  rw [List.mem_singleton] at hb
  subst hb
  rw [eL] at e; cases e; rw [hd]
  exact fun _ _ z => by cases z
theorem own_name {A : Around} {x : Str} {p : Pos} (I : Addr) (s : Shared) (v : Value) (Q : Unit → Shared → Prop) (hI : IsIt s.heap I) (q : Q () s) : wpAny C.M A (letOwnedTupleGo (.Name x p) (.ref I) v) Q NoE s := wpAny_pure q
end
end Mine
end

section
set_option genInjectivity false
set_option genSizeOf false
set_option genSizeOfSpec false
set_option maxRecDepth 100000
set_option linter.unusedVariables false
set_option tactic.hygienic false
namespace Mine
open PySem PySem.Calls PyProof.Rows PySem.W PySem.SeqAt

/-- what a frame may turn -/
noncomputable def ownCells (env : Env) : List Addr := (env.cells.filter fun p => env.kindOf p.1 == some .cell).map (·.2)
noncomputable def Mu (env : Env) (Ow : List Addr) : List Addr := env.locals :: (ownCells env ++ Ow)
theorem mem_ownCells {env : Env} {c : Addr} (h : c ∈ ownCells env) : ∃ x, (x, c) ∈ env.cells := by
  refine Classical.byContradiction fun hN => ?_
  obtain ⟨⟨x, c'⟩, hm, rfl⟩ := List.mem_map.mp h
  refine hN ?_
  clear hN
  exact ⟨x, (List.mem_filter.mp hm).1⟩
theorem Mu.loc {env : Env} {Ow : List Addr} : env.locals ∈ Mu env Ow := List.mem_cons_self
theorem Mu.cell {env : Env} {Ow : List Addr} {x : Str} {c : Addr} (h : env.cells.lookup x = some c) (hx : env.kindOf x = some .cell) : c ∈ Mu env Ow := List.mem_cons_of_mem _ (List.mem_append_left _ (List.mem_map.mpr ⟨_, List.mem_filter.mpr ⟨mem_of_lookup h, by rw [hx]; rfl⟩, rfl⟩))
theorem Mu.own {env : Env} {Ow : List Addr} {a : Addr} (h : a ∈ Ow) : a ∈ Mu env Ow := List.mem_cons_of_mem _ (List.mem_append_right _ h)
structure SS (C : Cx) (env : Env) (Ow : List Addr) (s s' : Shared) : Prop where
  ks : KS C.TB (Mu env Ow) s.heap s'.heap
  os : s'.os = s.os
  gens : ∃ more : Array GenState, s'.gens = s.gens ++ more ∧ AllBare more
  there : ∀ a, s'.heap.get? a = none → s.heap.get? a = none
/-- the own lists that came are new -/
noncomputable def NewO (Ow Ow' : List Addr) (h : Heap) : Prop := ∀ a ∈ Ow', a ∈ Ow ∨ h.get? a = none
theorem NewO.refl {Ow : List Addr} {h : Heap} : NewO Ow Ow h := fun _ ha => .inl ha
theorem SK.gone {TB : List Addr} {s s' : Shared} (k : SK TB s s') (t : TbOk TB s.heap) (a : Addr) (h : s'.heap.get? a = none) : s.heap.get? a = none := by
  cases q : s.heap.get? a with
  | none => rfl
  | some o => obtain ⟨o', e⟩ := k.kp.there t ⟨o, q⟩; rw [h] at e; cases e
theorem SK.ss {C : Cx} {env : Env} {Ow : List Addr} {s s' : Shared} (k : SK C.TB s s') (t : TbOk C.TB s.heap) : SS C env Ow s s' := ⟨k.kp.ks _, k.os, k.gens, k.gone t⟩
theorem SS.refl {C : Cx} {env : Env} {Ow : List Addr} {s : Shared} : SS C env Ow s s := ⟨.refl _ _ _, rfl, ⟨#[], by simp, .empty⟩, fun _ h => h⟩
theorem SS.trans {C : Cx} {env : Env} {Ow Ow' : List Addr} {s₁ s₂ s₃ : Shared} (x : SS C env Ow s₁ s₂) (y : SS C env Ow' s₂ s₃) (n : NewO Ow Ow' s₁.heap) : SS C env Ow s₁ s₃ := by
  refine Classical.byContradiction fun hN => ?_
  obtain ⟨m, e, b⟩ := x.gens
  obtain ⟨m', e', b'⟩ := y.gens
  refine hN ?_
  clear hN
  refine ⟨⟨fun b o e hT hM => y.ks.keep b o (x.ks.keep b o e hT hM) hT fun hm => hM ?_, fun b hb ps e => ?_⟩, y.os.trans x.os, ⟨m ++ m', by rw [e', e, Array.append_assoc], bare_append b b'⟩, fun a h => x.there a (y.there a h)⟩
  · unfold Mu at hm ⊢
    rcases List.mem_cons.mp hm with h | h
    · exact h ▸ List.mem_cons_self
    · rcases List.mem_append.mp h with h | h
      · exact List.mem_cons_of_mem _ (List.mem_append_left _ h)
      · rcases n b h with h | h
        · exact List.mem_cons_of_mem _ (List.mem_append_right _ h)
        · rw [h] at e; cases e
  · refine Classical.byContradiction fun hN => ?_
    obtain ⟨m, e⟩ := x.ks.tab b hb ps e
    obtain ⟨m', e⟩ := y.ks.tab b hb _ e
    refine hN ?_
    clear hN
    exact ⟨m ++ m', by rw [e, Array.append_assoc]⟩
theorem NewO.trans {C : Cx} {env : Env} {Ow Ow' Ow'' : List Addr} {s s' : Shared} (x : NewO Ow Ow' s.heap) (k : SS C env Ow s s') (y : NewO Ow' Ow'' s'.heap) : NewO Ow Ow'' s.heap := fun a ha => by
  rcases y a ha with h | h
  · exact x a h
  · exact .inr (k.there a h)

/-- a frame's state: the caller's lists O₀, the frame's own Ow -/
structure GS (C : Cx) (n : Nat) (A : Around) (O₀ Ow : List Addr) (env : Env) (σ : Sto) (s : Shared) : Prop where
  g : Good C n A (Ow ++ O₀) Ow env σ s
  f : ∀ b ∈ Mu env Ow, C.K.lookup b = none
  ap : env.cells.Pairwise fun x y => x.2 ≠ y.2
  nd : (env.cells.map (·.1)).Nodup
theorem GS.sk {C : Cx} {n : Nat} {A : Around} {O₀ Ow : List Addr} {env : Env} {σ : Sto} {s s' : Shared} (g : GS C n A O₀ Ow env σ s) (k : SK C.TB s s') : GS C n A O₀ Ow env σ s' := ⟨g.g.sk k, g.f, g.ap, g.nd⟩
theorem GS.ss {C : Cx} {n : Nat} {A : Around} {O₀ Ow Ow' : List Addr} {env : Env} {σ σ' : Sto} {s s' : Shared} (g : GS C n A O₀ Ow env σ s) (k : SS C env Ow s s') (r : Rel (Ow' ++ O₀) Ow' env σ' s'.heap) (n' : NewO Ow Ow' s.heap) : GS C n A O₀ Ow' env σ' s' := by
  refine ⟨⟨g.g.a, k.ks.wd g.g.w g.f, r⟩, fun b hb => ?_, g.ap, g.nd⟩
  unfold Mu at hb
  rcases List.mem_cons.mp hb with h | h
  · exact g.f b (h ▸ List.mem_cons_self)
  · rcases List.mem_append.mp h with h | h
    · exact g.f b (List.mem_cons_of_mem _ (List.mem_append_left _ h))
    · rcases n' b h with h | h
      · exact g.f b (List.mem_cons_of_mem _ (List.mem_append_right _ h))
      · cases q : C.K.lookup b with
        | none => rfl
        | some o => rw [g.g.w.k b o q] at h; cases h

/-- statements: where they go on, and what they hand back -/
noncomputable def Fl (C : Cx) (n : Nat) (env : Env) (O₀ Ow : List Addr) (σ : Sto) (t : Sem Flow) (N : List Addr → Sto → Prop) (R : D → Prop) : Prop :=
  ∀ (A : Around) (s : Shared) (Q : Flow → Shared → Prop), GS C n A O₀ Ow env σ s →
    (∀ Ow' σ' s', N Ow' σ' → SS C env Ow s s' → NewO Ow Ow' s.heap → Rel (Ow' ++ O₀) Ow' env σ' s'.heap → Q .next s') →
    (∀ d v s', R d → SS C env Ow s s' → Is O₀ s'.heap v d → Q (.ret v) s') → wpAny C.M A t Q NoE s
noncomputable abbrev Ex (C : Cx) (n : Nat) (env : Env) (O₀ Ow : List Addr) (σ : Sto) (ss : List Stmt) (N : List Addr → Sto → Prop) (R : D → Prop) : Prop := Fl C n env O₀ Ow σ (execs ss env) N R
noncomputable abbrev Ex1 (C : Cx) (n : Nat) (env : Env) (O₀ Ow : List Addr) (σ : Sto) (st : Stmt) (N : List Addr → Sto → Prop) (R : D → Prop) : Prop := Fl C n env O₀ Ow σ (exec st env) N R

section
variable {C : Cx} {n : Nat} {env : Env} {O₀ Ow : List Addr} {σ : Sto} {N : List Addr → Sto → Prop} {R : D → Prop}
theorem Ex.nil (h : N Ow σ) : Ex C n env O₀ Ow σ [] N R := fun A s Q g qn qr => wpAny_execs_nil (qn Ow σ s h .refl .refl g.g.r)
/-- one statement, then the others -/
theorem Ex.cons {st : Stmt} {rest : List Stmt} {N₁ : List Addr → Sto → Prop} (h : Ex1 C n env O₀ Ow σ st N₁ R) (h' : ∀ Ow' σ', N₁ Ow' σ' → Ex C n env O₀ Ow' σ' rest N R) : Ex C n env O₀ Ow σ (st :: rest) N R := fun A s Q g qn qr => by
  refine wpAny_execs_cons (h A s _ g (fun Ow' σ' s' hN k hn r => ?_) fun d v s' hR k i => qr d v s' hR k i)
  refine h' Ow' σ' hN A s' Q (g.ss k r hn) (fun Ow'' σ'' s'' hN' k' hn' r' => qn Ow'' σ'' s'' hN' (k.trans k' hn) (hn.trans k hn') r') fun d v s'' hR k' i => qr d v s'' hR (k.trans k' hn) i
theorem Fl.mono {t : Sem Flow} {N' : List Addr → Sto → Prop} {R' : D → Prop} (h : Fl C n env O₀ Ow σ t N R) (hn : ∀ a b, N a b → N' a b) (hr : ∀ d, R d → R' d) : Fl C n env O₀ Ow σ t N' R' := fun A s Q g qn qr =>
  h A s Q g (fun Ow' σ' s' x => qn Ow' σ' s' (hn _ _ x)) fun d v s' x => qr d v s' (hr _ x)
/-- x = e, a plain local -/
theorem Ex1.assign {x : Str} {e : Expr} {p pos : Pos} {d : D} (h : Ev C n env σ e d) (hN : N Ow ((x, .val d) :: σ)) (hx : env.kindOf x = some .local := by rfl) (hs : swapsWith e (some (.Name x p)) pos.line env = pure false := by rfl) : Ex1 C n env O₀ Ow σ (.Assign [.Name x p] e pos) N R := fun A s Q g qn qr => by
  refine wpAny_Assign_Name (h A (Ow ++ O₀) Ow s _ g.g fun v s₁ k i => ?_) hs
  have g₁ := g.sk k
  refine storeL (en := .val d) g₁.g.r g₁.g.w.tb hx i fun h' tk ks r => ?_
  refine qn _ _ _ hN ((k.ss g.g.w.tb).trans (Ow' := Ow) ⟨ks.mono fun b hb => by rw [List.mem_singleton] at hb; exact hb ▸ Mu.loc, rfl, ⟨#[], by simp, .empty⟩, fun a ha => ?_⟩ .refl) .refl r
  cases q : s₁.heap.get? a with
  | none => rfl
  | some o =>
    by_cases hT : a ∈ C.TB
    · refine Classical.byContradiction fun hN => ?_
      obtain ⟨ps, e⟩ := g₁.g.w.tb a hT
      obtain ⟨m, e⟩ := ks.tab a hT ps e
      refine hN ?_
      clear hN
      dsimp only at ha
      rw [e] at ha; cases ha
    · by_cases hL : a = env.locals
      · refine Classical.byContradiction fun hN => ?_
        obtain ⟨m, hm⟩ := r.ok.ns
        obtain ⟨oL, es, ep, hoL, _⟩ := hm
        refine hN ?_
        clear hN
        rw [hL] at ha
        dsimp only at ha
        rw [hoL] at ha; cases ha
      · dsimp only at ha
        rw [ks.keep a o q hT (by simpa using hL)] at ha; cases ha
/-- what a store in the frame leaves -/
theorem ss_store {s : Shared} {h' : Heap} {tk : Nat} {a : Addr} (w : TbOk C.TB s.heap) (ks : KS C.TB [a] s.heap h') (ha : a ∈ Mu env Ow) (ex : ∃ o, h'.get? a = some o) : SS C env Ow s { s with heap := h', toks := tk } := by
  refine ⟨ks.mono fun b hb => by rw [List.mem_singleton] at hb; exact hb ▸ ha, rfl, ⟨#[], by simp, .empty⟩, fun b hb => ?_⟩
  dsimp only at hb
  cases q : s.heap.get? b with
  | none => rfl
  | some o =>
    by_cases hT : b ∈ C.TB
    · refine Classical.byContradiction fun hN => ?_
      obtain ⟨ps, e⟩ := w b hT
      obtain ⟨m, e⟩ := ks.tab b hT ps e
      refine hN ?_
      clear hN
      rw [e] at hb; cases hb
    · by_cases hL : b = a
      · obtain ⟨o, e⟩ := ex
        rw [hL, e] at hb; cases hb
      · rw [ks.keep b o q hT (by simpa using hL)] at hb; cases hb
theorem EnvOk.loc {h : Heap} (e : EnvOk env h) : ∃ o, h.get? env.locals = some o := by
  refine Classical.byContradiction fun hN => ?_
  obtain ⟨m, oL, es, ep, hoL, _⟩ := e.ns
  refine hN ?_
  clear hN
  exact ⟨_, hoL⟩
theorem EnvOk.cell {h : Heap} (e : EnvOk env h) {x : Str} {c : Addr} (hc : env.cells.lookup x = some c) : ∃ o, h.get? c = some o := by
  refine Classical.byContradiction fun hN => ?_
  obtain ⟨v, o, e, _⟩ := e.cells x c hc
  refine hN ?_
  clear hN
  exact ⟨_, e⟩
/-- x = e, a cell -/
theorem Ex1.assignC {x : Str} {e : Expr} {p pos : Pos} {d : D} {c : Addr} (h : Ev C n env σ e d) (hN : N Ow ((x, .val d) :: σ)) (hc : env.cells.lookup x = some c) (hx : env.kindOf x = some .cell := by rfl) (hs : swapsWith e (some (.Name x p)) pos.line env = pure false := by rfl) : Ex1 C n env O₀ Ow σ (.Assign [.Name x p] e pos) N R := fun A s Q g qn qr => by
  refine wpAny_Assign_Name (h A (Ow ++ O₀) Ow s _ g.g fun v s₁ k i => ?_) hs
  have g₁ := g.sk k
  refine storeC (en := .val d) g₁.g.r g₁.g.w.tb hx hc g.ap i fun h' tk ks r => ?_
  exact qn _ _ _ hN ((k.ss g.g.w.tb).trans (Ow' := Ow) (ss_store g₁.g.w.tb ks (Mu.cell hc hx) (r.ok.cell hc)) .refl) .refl r
/-- x = x op e -/
theorem Ex1.aug {x : Str} {op : Operator} {e : Expr} {p pos : Pos} {d₁ d₂ d : D} (hσ : σ.lookup x = some (.val d₁)) (h : Ev C n env σ e d₂)
    (ho : ∀ (A : Around) (O Ow : List Addr) (s : Shared) (v₁ v₂ : Value) (Q : Value → Shared → Prop), Good C n A O Ow env σ s → Is O s.heap v₁ d₁ → Is O s.heap v₂ d₂ →
      (∀ v s', SK C.TB s s' → Is O s'.heap v d → Q v s') → wpAny C.M A (inplaceOp op v₁ v₂) Q NoE s) (hN : N Ow ((x, .val d) :: σ)) (hx : env.kindOf x = some .local := by rfl) : Ex1 C n env O₀ Ow σ (.AugAssign (.Name x p) op e pos) N R := fun A s Q g qn qr => by
  refine Classical.byContradiction fun hN => ?_
  obtain ⟨v₁, l, i₁⟩ := g.g.r.val x d₁ hσ
  refine hN ?_
  clear hN
  refine wpAny_AugAssign_Name ?_
  rcases l with ⟨k, m, ns, e⟩ | ⟨k, _⟩
  · refine wpAny_loadName_local g.g.r.ok.fn k ns e ?_
    refine h A (Ow ++ O₀) Ow s _ g.g fun v₂ s₁ k₁ i₂ => ?_
    have g₁ := g.sk k₁
    refine ho A _ _ s₁ v₁ v₂ _ g₁.g (i₁.kp k₁.kp g.g.w.tb) i₂ fun v s₂ k₂ i => ?_
    have g₂ := g₁.sk k₂
    refine storeL (en := .val d) g₂.g.r g₂.g.w.tb hx i fun h' tk ks r => ?_
    exact qn _ _ _ hN (((k₁.trans k₂).ss g.g.w.tb).trans (Ow' := Ow) (ss_store g₂.g.w.tb ks Mu.loc r.ok.loc) .refl) .refl r
  · rw [hx] at k; rcases k with k | k <;> cases k
theorem Ex1.ret {e : Expr} {pos : Pos} {d : D} (h : Ev C n env σ e d) (hR : R d) : Ex1 C n env O₀ Ow σ (.Return (some e) pos) N R := fun A s Q g qn qr =>
  wpAny_Return_some (h A (Ow ++ O₀) Ow s _ g.g fun v s₁ k i => qr d v s₁ hR (k.ss g.g.w.tb) (i.keep (fun _ _ e _ _ => e) fun a o e ha hm => ha (List.mem_append_right _ hm)))
theorem Ex1.if_ {t : Expr} {body orelse : List Stmt} {pos : Pos} {b : Bool} (h : Tr C n env σ t b) (h₁ : b = true → Ex C n env O₀ Ow σ body N R) (h₂ : b = false → Ex C n env O₀ Ow σ orelse N R) : Ex1 C n env O₀ Ow σ (.If t body orelse pos) N R := fun A s Q g qn qr => by
  refine wpAny_If (h A (Ow ++ O₀) Ow s _ g.g fun s₁ k => ?_)
  have go : ∀ {ss}, Ex C n env O₀ Ow σ ss N R → wpAny C.M A (execs ss env) Q NoE s₁ := fun x =>
    x A s₁ Q (g.sk k) (fun Ow' σ' s' hN k' hn r => qn Ow' σ' s' hN ((k.ss g.g.w.tb).trans k' .refl) (fun a ha => (hn a ha).imp id fun q => k.gone g.g.w.tb a q) r) fun d v s' hR k' i => qr d v s' hR ((k.ss g.g.w.tb).trans k' .refl) i
  cases b with
  | true => rw [if_pos rfl]; exact go (h₁ rfl)
  | false => rw [if_neg (by decide)]; exact go (h₂ rfl)
theorem Ex1.assert {t : Expr} {msg : Option Expr} {pos : Pos} (h : Tr C n env σ t true) (hN : N Ow σ) : Ex1 C n env O₀ Ow σ (.Assert t msg pos) N R := fun A s Q g qn qr =>
  wpAny_Assert_holds (h A (Ow ++ O₀) Ow s _ g.g fun s₁ k => ⟨rfl, qn Ow σ s₁ hN (k.ss g.g.w.tb) .refl (g.sk k).g.r⟩)
end
end Mine
end

section
set_option maxRecDepth 100000
set_option linter.unusedVariables false
set_option tactic.hygienic false
namespace Mine
open PySem PySem.Calls PyProof.Rows PySem.W PySem.SeqAt

/-- names that own -/
noncomputable def onlyOwn (x : Str) : Sto → Bool
  | [] => true
  | (y, .own _ _) :: r => (y == x) && onlyOwn x r
  | _ :: r => onlyOwn x r
theorem onlyOwn_eq {x m : Str} {a : Addr} {ds : List D} : ∀ {σ : Sto}, onlyOwn x σ = true → σ.lookup m = some (.own a ds) → m = x
  | [], _, h => by cases h
  | (y, .own b es) :: r, ho, h => by
    simp only [onlyOwn, Bool.and_eq_true] at ho
    by_cases hm : m = y
    · exact hm.trans (by simpa using ho.1)
    · rw [lookup_ne hm] at h; exact onlyOwn_eq ho.2 h
  | (y, .val d) :: r, ho, h => by
    by_cases hm : m = y
    · rw [hm, List.lookup_cons_self] at h; cases h
    · rw [lookup_ne hm] at h; exact onlyOwn_eq (by simpa [onlyOwn] using ho) h
  | (y, .raw d) :: r, ho, h => by
    by_cases hm : m = y
    · rw [hm, List.lookup_cons_self] at h; cases h
    · rw [lookup_ne hm] at h; exact onlyOwn_eq (by simpa [onlyOwn] using ho) h
/-- fewer names -/
noncomputable def SubL : Sto → Sto → Prop
  | [], _ => True
  | (x, e) :: r, σ => σ.lookup x = some e ∧ SubL r σ
theorem SubL.get {σ : Sto} {x : Str} {e : Ent} : ∀ {σ' : Sto}, SubL σ' σ → σ'.lookup x = some e → σ.lookup x = some e
  | [], _, h => by cases h
  | (y, e') :: r, ⟨h1, h2⟩, h => by
    by_cases hm : x = y
    · subst hm; rw [List.lookup_cons_self] at h; cases h; exact h1
    · rw [lookup_ne hm] at h; exact h2.get h
/-- a turn of an own list -/
theorem Rel.turn {O Ow : List Addr} {env : Env} {σ : Sto} {h h' : Heap} {x : Str} {a : Addr} {ds ds' : List D} {vs' : List Value} (r : Rel O Ow env σ h) (e : σ.lookup x = some (.own a ds)) (hu : onlyOwn x σ = true) (hs : Heap.SameBut a h h') (hl : LsAt h' a vs') (hi : IsAll O h vs' ds') : Rel O Ow env ((x, .own a ds') :: σ) h' := by
  refine Classical.byContradiction fun hN => ?_
  obtain ⟨l, ha, vs, hla, _⟩ := r.own x a ds e
  obtain ⟨k, ea⟩ := hla
  refine hN ?_
  clear hN
  have hO := r.sub a ha
  have keepD : DataKeep O h h' := fun b o e _ hb => (hs.2 b fun q => hb (q ▸ hO)).trans e
  have keepN : ∀ {c m}, h.Ns c m → h'.Ns c m := fun {c m} n => ns_keep n fun o e ⟨_, _, hd⟩ => (hs.2 c fun q => by rw [q, ea] at e; cases e; cases hd).trans e
  have keepC : ∀ {c w}, h.IsCell c w → h'.IsCell c w := fun {c w} ic => cell_keep ic fun o e ⟨_, hd⟩ => (hs.2 c fun q => by rw [q, ea] at e; cases e; cases hd).trans e
  have lk : ∀ {y u}, Look env h y u → Look env h' y u := by
    rintro y u (⟨k, m', n', e⟩ | ⟨k, c', e, n'⟩)
    · exact .inl ⟨k, m', keepN n', e⟩
    · exact .inr ⟨k, c', e, keepC n'⟩
  refine ⟨⟨r.ok.fn, let ⟨m, n⟩ := r.ok.ns; ⟨m, keepN n⟩, fun y c e => let ⟨v, n⟩ := r.ok.cells y c e; ⟨v, keepC n⟩⟩, fun y en q => ?_, r.sub, fun b hb => ?_⟩
  · by_cases hy : y = x
    · subst hy
      rw [List.lookup_cons_self] at q; cases q
      exact ⟨.ref a, lk l, rfl, ha, vs', hl, hi.keep keepD fun _ _ _ q => q⟩
    · rw [lookup_ne hy] at q
      refine Classical.byContradiction fun hN => ?_
      obtain ⟨v, lv, i⟩ := r.ent y en q
      refine hN ?_
      clear hN
      refine ⟨v, lk lv, ?_⟩
      match en, q, i with
      | .val d, q, i => exact i.keep keepD fun _ _ _ q => q
      | .raw v', q, i => exact i
      | .own a' ds', q, _ => exact absurd (onlyOwn_eq hu q) hy
  · by_cases q : b = a
    · subst q; obtain ⟨k, e⟩ := hl; exact ⟨_, e, _, _, rfl⟩
    · refine Classical.byContradiction fun hN => ?_
      obtain ⟨o, e, d⟩ := r.ex b hb
      refine hN ?_
      clear hN
      exact ⟨o, (hs.2 b q).trans e, d⟩

section
variable {C : Cx} {n : Nat} {env : Env} {O₀ Ow : List Addr} {σ : Sto} {N : List Addr → Sto → Prop} {R : D → Prop}
theorem Fl.weak {t : Sem Flow} {σ' : Sto} (h : Fl C n env O₀ Ow σ' t N R) (hs : SubL σ' σ) : Fl C n env O₀ Ow σ t N R := fun A s Q g qn qr =>
  h A s Q ⟨⟨g.g.a, g.g.w, g.g.r.sub_sto fun _ _ e => hs.get e⟩, g.f, g.ap, g.nd⟩ qn qr
theorem Ex.nilW (σ' : Sto) (h : N Ow σ') (hs : SubL σ' σ) : Ex C n env O₀ Ow σ [] N R := Fl.weak (Ex.nil h) hs
/-- the own list is turned no more: it is a datum from here on -/
theorem Fl.freeze {t : Sem Flow} {x : Str} {a : Addr} {ds : List D} (e : σ.lookup x = some (.own a ds)) (hu : onlyOwn x σ = true) (hO : a ∉ O₀) (h : Fl C n env O₀ (Ow.filter (· != a)) ((x, .val (.list ds)) :: σ) t N R) : Fl C n env O₀ Ow σ t N R := fun A s Q g qn qr => by
  have r := g.g.r.freeze e fun m a' ds' q hm => absurd (onlyOwn_eq hu q) hm
  have eO : (Ow ++ O₀).filter (· != a) = Ow.filter (· != a) ++ O₀ := by
    rw [List.filter_append]
    congr 1
    rw [List.filter_eq_self]
    intro b hb
    have : b ≠ a := fun q => hO (q ▸ hb)
    simpa using this
  rw [eO] at r
  have sub : ∀ b ∈ Mu env (Ow.filter (· != a)), b ∈ Mu env Ow := fun b hb => by
    unfold Mu at hb ⊢
    rcases List.mem_cons.mp hb with h | h
    · exact h ▸ List.mem_cons_self
    · rcases List.mem_append.mp h with h | h
      · exact List.mem_cons_of_mem _ (List.mem_append_left _ h)
      · exact List.mem_cons_of_mem _ (List.mem_append_right _ (List.mem_filter.mp h).1)
  have ss : ∀ {s'}, SS C env (Ow.filter (· != a)) s s' → SS C env Ow s s' := fun k => ⟨k.ks.mono sub, k.os, k.gens, k.there⟩
  exact h A s Q ⟨⟨g.g.a, g.g.w, r⟩, fun b hb => g.f b (sub b hb), g.ap, g.nd⟩ (fun Ow' σ' s' hN k hn r => qn Ow' σ' s' hN (ss k) (fun b hb => (hn b hb).imp (fun q => (List.mem_filter.mp q).1) id) r) fun d v s' hR k i => qr d v s' hR (ss k) i
/-- the caller's lists are no own ones -/
theorem Fl.apart {t : Sem Flow} {x : Str} {a : Addr} {ds : List D} (e : σ.lookup x = some (.own a ds)) (h : Fl C n env O₀ Ow σ t N R) : Fl C n env O₀ Ow σ t N R := h
/-- x = [] -/
theorem Ex1.newOwn {x : Str} {p lp pos : Pos} (hN : ∀ a, a ∉ O₀ → N (a :: Ow) ((x, .own a []) :: σ)) (hx : env.kindOf x = some .local := by rfl) (hs : swapsWith (.List [] lp) (some (.Name x p)) pos.line env = pure false := by rfl) : Ex1 C n env O₀ Ow σ (.Assign [.Name x p] (.List [] lp) pos) N R := fun A s Q g qn qr => by
  refine wpAny_Assign_Name (List_ (spliced_nil ?_)) hs
  refine wpAny_newList ?_ (Nat.zero_le _)
  have k : SK C.TB s { s with heap := s.heap.push { cls := .type "list", data := .seq ([] : List Value).toArray } } := .push _
  have g₁ := g.sk k
  have hnO := g.g.newO
  have none_ : s.heap.get? s.heap.objs.size = none := by
    cases q : s.heap.get? s.heap.objs.size with
    | none => rfl
    | some o => exact absurd (Heap.lt_size q) (Nat.lt_irrefl _)
  have ent : ∀ {v en}, EntOk (Ow ++ O₀) Ow s.heap v en → EntOk (s.heap.objs.size :: (Ow ++ O₀)) (s.heap.objs.size :: Ow) (s.heap.push { cls := .type "list", data := .seq ([] : List Value).toArray }) v en := fun {v en} i => by
    have kd : DataKeep (Ow ++ O₀) s.heap (s.heap.push { cls := .type "list", data := .seq ([] : List Value).toArray }) := fun _ _ e _ _ => Heap.get?_push_of_some _ e
    have ho : ∀ a o, s.heap.get? a = some o → a ∉ Ow ++ O₀ → a ∉ s.heap.objs.size :: (Ow ++ O₀) := fun a o e ha hm => by
      rcases List.mem_cons.mp hm with rfl | hm
      · rw [none_] at e; cases e
      · exact ha hm
    match en, i with
    | .val d, i => exact i.keep kd ho
    | .raw v', i => exact i
    | .own a' ds', ⟨hv, ha, vs, ⟨k', e⟩, hi⟩ => exact ⟨hv, List.mem_cons_of_mem _ ha, vs, ⟨k', Heap.get?_push_of_some _ e⟩, hi.keep kd ho⟩
  have r₁ : Rel (s.heap.objs.size :: (Ow ++ O₀)) (s.heap.objs.size :: Ow) env σ (s.heap.push { cls := .type "list", data := .seq ([] : List Value).toArray }) := by
    refine ⟨g₁.g.r.ok, fun y en e => ?_, fun a ha => ?_, fun a ha => ?_⟩
    · refine Classical.byContradiction fun hN => ?_
      obtain ⟨v, l, i⟩ := g.g.r.ent y en e
      refine hN ?_
      clear hN
      exact ⟨v, l.kp (TB := C.TB) k.kp g.g.w.tb, ent i⟩
    · rcases List.mem_cons.mp ha with rfl | ha
      · exact List.mem_cons_self
      · exact List.mem_cons_of_mem _ (g.g.r.sub a ha)
    · rcases List.mem_cons.mp ha with rfl | ha
      · exact ⟨_, Heap.get?_push_size _ rfl, _, _, rfl⟩
      · exact g₁.g.r.ex a ha
  refine storeL (en := .own s.heap.objs.size []) r₁ g₁.g.w.tb hx ⟨rfl, List.mem_cons_self, [], isList_new _ _, .nil⟩ fun h' tk ks r => ?_
  refine qn (s.heap.objs.size :: Ow) _ _ (hN _ fun hm => hnO (List.mem_append_right _ hm)) ((k.ss g.g.w.tb).trans (Ow' := Ow) (ss_store g₁.g.w.tb ks Mu.loc r.ok.loc) .refl) (fun a ha => ?_) r
  rcases List.mem_cons.mp ha with rfl | ha
  · exact .inr none_
  · exact .inl ha
theorem upd_ls {h : Heap} {a : Addr} {vs : List Value} {f : Array Value → Array Value} {vs' : List Value} (l : LsAt h a vs) (hf : f vs.toArray = vs'.toArray) : LsAt (h.update a (Obj.mapSeq f)) a vs' := by
  obtain ⟨k, e⟩ := l
  exact ⟨_, by rw [← hf]; exact Heap.get?_update_self _ e rfl⟩
theorem Ev.ownName {x : Str} {p : Pos} {a : Addr} {ds : List D} (e : σ.lookup x = some (.own a ds)) {A : Around} {O : List Addr} {s : Shared} {Q : Value → Shared → Prop} (g : Good C n A O Ow env σ s) (q : Q (.ref a) s) (hd : (x == ("__debug__" : Str)) = false := by decide) (hc : (x == Str.ofString "__classdict__") = false := by decide) : wpAny C.M A (eval (.Name x p) env) Q NoE s := by
  obtain ⟨l, _⟩ := g.r.own x a ds e
  refine wpAny_Name ?_ hd
  rcases l with ⟨k, m, ns, e⟩ | ⟨k | k, c, e, ic⟩
  · exact wpAny_loadName_local g.r.ok.fn k ns e q
  · exact wpAny_loadName_cell g.r.ok.fn k e ic q
  · exact wpAny_loadName_free g.r.ok.fn k e ic q hc
/-- what a turn of an own list leaves -/
theorem turn_ss {s : Shared} {h' : Heap} {a : Addr} {vs : List Value} {A : Around} (g : GS C n A O₀ Ow env σ s) (ha : a ∈ Ow) (e : LsAt s.heap a vs) (hs : Heap.SameBut a s.heap h') (ex : ∃ o, h'.get? a = some o) : SS C env Ow s { s with heap := h' } := by
  obtain ⟨k, e⟩ := e
  exact ss_store (tk := s.toks) g.g.w.tb (KS.of_same hs g.g.w.tb e fun ⟨ps, z⟩ => by cases z) (Mu.own ha) ex
/-- x.append(e) -/
theorem Ex1.append {x : Str} {e : Expr} {p ap cp pos : Pos} {a : Addr} {ds : List D} {d : D} (hσ : σ.lookup x = some (.own a ds)) (h : Ev C n env σ e d) (hN : N Ow ((x, .own a (ds ++ [d])) :: σ)) (hz : ds.length ≤ 1000000) (hu : onlyOwn x σ = true := by rfl)
    (hd : (x == ("__debug__" : Str)) = false := by decide) (hc : (x == Str.ofString "__classdict__") = false := by decide) (hi : interactive env = false := by rfl) (hs : starEach [e] env = [(false, eval e env)] := by rfl) (hline : (ap.endLine == cp.line) = true := by rfl) (hb : attributeBase (.Name x p) (Str.ofString "append") env (eval (.Name x p) env) = eval (.Name x p) env := by rfl) : Ex1 C n env O₀ Ow σ (.Expr (.Call (.Attribute (.Name x p) (Str.ofString "append") ap) [e] [] cp) pos) N R := fun A s Q g qn qr => by
  refine wpAny_Expr_any (Call_method1 hb hs hline (Ev.ownName hσ g.g ?_ hd hc)) hi
  refine Classical.byContradiction fun hN => ?_
  obtain ⟨l, ha, vs, ⟨kk, ea⟩, hall⟩ := g.g.r.own x a ds hσ
  refine hN ?_
  clear hN
  refine ⟨"list", _, PySem.F.plainAttrs_list, PySem.F.slot_list_append, PySem.F.type_list_append, ⟨_, ea, rfl⟩, (fun b hb => by cases hb; exact ⟨_, ea, rfl⟩), ?_⟩
  refine P.append_list (h A (Ow ++ O₀) Ow s _ g.g fun v s₁ k i => ?_)
  have g₁ := g.sk k
  have la₁ := LsAt.kp k.kp g.g.w.tb ⟨kk, ea⟩
  obtain ⟨k₁, e₁⟩ := id la₁
  have hlen := hall.length
  refine ⟨_, k₁, by rw [List.size_toArray, sizeLine_eq]; (first | lia | omega), e₁, ?_⟩
  have la₂ : LsAt (s₁.heap.update a (Obj.mapSeq fun xs => xs.push v)) a (vs ++ [v]) := upd_ls la₁ (by simp)
  have sb : Heap.SameBut a s₁.heap (s₁.heap.update a (Obj.mapSeq fun xs => xs.push v)) := Heap.SameBut.update ..
  have r := g₁.g.r.turn hσ hu sb la₂ ((hall.kp k.kp g.g.w.tb).snoc i)
  exact qn _ _ _ hN ((k.ss g.g.w.tb).trans (Ow' := Ow) (turn_ss g₁ ha la₁ sb (let ⟨k, e⟩ := la₂; ⟨_, e⟩)) .refl) .refl r
set_option tactic.hygienic true
/-- x.extend([..]) -/
theorem Ex1.extend {x : Str} {e : Expr} {p ap cp pos : Pos} {a : Addr} {ds es : List D} (hσ : σ.lookup x = some (.own a ds)) (h : Ev C n env σ e (.list es)) (hN : N Ow ((x, .own a (ds ++ es)) :: σ)) (hz : ds.length + es.length ≤ 1000000) (hu : onlyOwn x σ = true := by rfl)
    (hd : (x == ("__debug__" : Str)) = false := by decide) (hc : (x == Str.ofString "__classdict__") = false := by decide) (hi : interactive env = false := by rfl) (hs : starEach [e] env = [(false, eval e env)] := by rfl) (hline : (ap.endLine == cp.line) = true := by rfl) (hb : attributeBase (.Name x p) (Str.ofString "extend") env (eval (.Name x p) env) = eval (.Name x p) env := by rfl) : Ex1 C n env O₀ Ow σ (.Expr (.Call (.Attribute (.Name x p) (Str.ofString "extend") ap) [e] [] cp) pos) N R := fun A s Q g qn qr => by
  refine wpAny_Expr_any (Call_method1 hb hs hline (Ev.ownName hσ g.g ?_ hd hc)) hi
  refine Classical.byContradiction fun hN => ?_
  obtain ⟨l, ha, vs, ⟨kk, ea⟩, hall⟩ := g.g.r.own x a ds hσ
  refine hN ?_
  clear hN
  refine ⟨"list", _, PySem.F.plainAttrs_list, PySem.F.slot_list_extend, PySem.F.type_list_extend, ⟨_, ea, rfl⟩, (fun b hb => by cases hb; exact ⟨_, ea, rfl⟩), ?_⟩
  refine P.extend_list (h A (Ow ++ O₀) Ow s _ g.g fun v s₁ k i => ?_)
  have g₁ := g.sk k
  have la₁ := LsAt.kp k.kp g.g.w.tb ⟨kk, ea⟩
  obtain ⟨k₁, e₁⟩ := id la₁
  have hlen := hall.length
  cases i with
  | list hl hO ys =>
  rename_i b us
  obtain ⟨k₂, e₂⟩ := id hl
  have hlen2 := ys.length
  have hsz : vs.toArray.size + us.toArray.size ≤ sizeLine := by rw [List.size_toArray, List.size_toArray, sizeLine_eq]; (first | lia | omega)
  refine ⟨b, _, _, k₁, k₂, by (exact Nat.le_trans (Nat.le_add_right _ _) (by assumption)), by (exact Nat.le_succ_of_le (by assumption)), extend_door hsz, rfl, e₁, e₂, ?_⟩
  have la₂ : LsAt (s₁.heap.update a (Obj.mapSeq fun xs => xs ++ us.toArray)) a (vs ++ us) := upd_ls la₁ (by simp)
  have sb : Heap.SameBut a s₁.heap (s₁.heap.update a (Obj.mapSeq fun xs => xs ++ us.toArray)) := Heap.SameBut.update ..
  have r := g₁.g.r.turn hσ hu sb la₂ ((hall.kp k.kp g.g.w.tb).append ys)
  exact qn _ _ _ hN ((k.ss g.g.w.tb).trans (Ow' := Ow) (turn_ss g₁ ha la₁ sb (let ⟨k, e⟩ := la₂; ⟨_, e⟩)) .refl) .refl r
set_option tactic.hygienic false
end
end Mine
end

section
set_option genInjectivity false
set_option genSizeOf false
set_option genSizeOfSpec false
set_option maxRecDepth 100000
set_option linter.unusedVariables false
set_option tactic.hygienic false
namespace Mine
open PySem PySem.Calls PyProof.Rows PySem.W PySem.SeqAt

section
variable {C : Cx} {n : Nat} {env : Env} {O₀ Ow : List Addr} {σ : Sto} {N : List Addr → Sto → Prop} {R : D → Prop}
/-- over a heap that has grown by objects alone -/
theorem extBut_of {h h' : Heap} (x : Heap.ExtBut h.objs.size h h') : ∀ b o, h.get? b = some o → h'.get? b = some o := fun b o e => x b o (Nat.ne_of_lt (Heap.lt_size e)) e
/-- the names of a tuple target -/
inductive AsgAll (C : Cx) (n : Nat) (env : Env) : List Expr → List D → Sto → Prop
  | nil : AsgAll C n env [] [] []
  | cons {x : Str} {p : Pos} {es : List Expr} {d : D} {ds : List D} {new : Sto} : env.kindOf x = some .local → AsgAll C n env es ds new → AsgAll C n env (.Name x p :: es) (d :: ds) (new ++ [(x, .val d)])
theorem AsgAll.each {es : List Expr} {ds : List D} {new : Sto} (h : AsgAll C n env es ds new) : (assignEach es env) = es.map fun e => (false, assign e env) := by
  induction h with
  | nil => rfl
  | cons hx h ih => show _ :: assignEach _ env = _; rw [ih]; rfl
theorem AsgAll.len {es : List Expr} {ds : List D} {new : Sto} (h : AsgAll C n env es ds new) : es.length = ds.length := by
  induction h with
  | nil => rfl
  | cons hx h ih => simp [ih]
set_option tactic.hygienic true
theorem AsgAll.run {es : List Expr} {ds : List D} {new : Sto} (h : AsgAll C n env es ds new) : ∀ {A : Around} {O Ow : List Addr} {σ : Sto} {s : Shared} {vs : List Value} {Q : Unit → Shared → Prop}, TbOk C.TB s.heap → Rel O Ow env σ s.heap → IsAll O s.heap vs ds →
    (∀ s', KS C.TB [env.locals] s.heap s'.heap → s'.os = s.os → s'.gens = s.gens → Rel O Ow env (new ++ σ) s'.heap → Q () s') → wpAny C.M A (assignInOrder (es.map fun e => assign e env) vs) Q NoE s := by
  induction h with
  | nil =>
    intro A O Ow σ s vs Q t r i q
    cases i
    exact wpAny_pure (q s (.refl _ _ _) rfl rfl r)
  | @cons x p es d ds new hx h ih =>
    intro A O Ow σ s vs Q t r₀ i q
    cases i with
    | cons iv is =>
    rename_i v vs
    show wpAny C.M A (do holding vs (assign (.Name x p) env v); assignInOrder (es.map fun e => assign e env) vs) Q NoE s
    refine wpAny_bind (wpAny_holding (wpAny_assign_Name (storeL (en := .val d) r₀ t hx iv fun h' tk ks r => ?_)))
    have dk : DataKeep O s.heap h' := ks.data t fun b hb => .inr fun o e => by
      rw [List.mem_singleton] at hb; subst hb
      refine Classical.byContradiction fun hN => ?_
      obtain ⟨m, o', es, ep, e', hd', _⟩ := r₀.ok.ns
      refine hN ?_
      clear hN
      rw [e] at e'; cases e'; rw [hd']; exact fun _ _ z => by cases z
    exact ih (s := { s with heap := h', toks := tk }) (ks.tb t) r (is.keep dk fun _ _ _ q => q) fun s' ks' os' gs' r' => q s' (ks.trans ks') os' gs' (by rw [List.append_assoc]; exact r')
set_option tactic.hygienic false
/-- a tuple of names as target -/
theorem Asg.tup {es : List Expr} {m : Nat} {p : Pos} {ds : List D} {new : Sto} (h : AsgAll C n env es ds new) : Asg C n env (.Tuple es m p) (.tup ds) new := fun A O Ow σ s v Q g i q => by
  cases i with
  | tup ht hO xs =>
  have hlen := xs.length
  refine wpAny_assign_Tuple g.a.hd ht.isTuple (by rw [h.each, List.length_map, h.len, List.size_toArray, hlen]) ?_ fun h' hx => ?_
  · rw [h.each, List.findIdx?_eq_none_iff]
    intro x hx
    refine Classical.byContradiction fun hN => ?_
    obtain ⟨e, _, rfl⟩ := List.mem_map.mp hx
    refine hN ?_
    clear hN
    rfl
  · have kp : Kp C.TB s.heap h' := .of (extBut_of hx)
    have e : (assignEach es env).map (·.2) = es.map fun e => assign e env := by rw [h.each, List.map_map]; rfl
    rw [e]
    exact h.run (s := { s with heap := h' }) (g.w.tb.kp kp) (g.r.kp kp g.w.tb) (xs.kp kp g.w.tb) fun s' ks os gs r => q s' ((kp.ks _).trans ks) os gs r
theorem own_tup {A : Around} {es : List Expr} {m : Nat} {p : Pos} (I : Addr) (s : Shared) (v : Value) (Q : Unit → Shared → Prop) (hI : IsIt s.heap I) (q : Q () s) : wpAny C.M A (letOwnedTupleGo (.Tuple es m p) (.ref I) v) Q NoE s := by
  refine Classical.byContradiction fun hN => ?_
  obtain ⟨o, c, vs, e, hc, hd, hcc⟩ := hI
  refine hN ?_
  clear hN
  cases v with
  | ref a =>
    show wpAny C.M A (do
      let o ← load I
      match o.cls, o.data with
      | .type n, .fields vs => if ["enumerate", "zip", "dict_itemiterator", "dict_reverseitemiterator", "odict_iterator", "itertools.zip_longest", "itertools.pairwise"].contains n && vs[0]? == some (rawInt a) then (do rule "for.unpacks-the-owned-tuple"; updateField I 0 .none) else pure ()
      | _, _ => pure ()) Q NoE s
    refine wpAny_bind (wpAny_load e ?_)
    rw [hc, hd]
    dsimp only
    have : (["enumerate", "zip", "dict_itemiterator", "dict_reverseitemiterator", "odict_iterator", "itertools.zip_longest", "itertools.pairwise"].contains c) = false := by rcases hcc with rfl | rfl | rfl <;> decide
    rw [this, Bool.false_and, if_neg (by decide)]
    exact wpAny_pure q
  | _ => exact wpAny_pure q
/-- x, y = e -/
theorem Ex1.assignT {es : List Expr} {m : Nat} {e : Expr} {p pos : Pos} {d : D} {new : Sto} (h : Ev C n env σ e d) (ht : Asg C n env (.Tuple es m p) d new) (hN : N Ow (new ++ σ))
    (hs : swapsWithSole [.Tuple es m p] e pos.line env = pure false := by rfl) (hw : swappedStores [.Tuple es m p] e env = pure none := by rfl) : Ex1 C n env O₀ Ow σ (.Assign [.Tuple es m p] e pos) N R := fun A s Q g qn qr => by
  refine wpAny_Assign_stores (h A (Ow ++ O₀) Ow s _ g.g fun v s₁ k i => ?_) hs hw
  have g₁ := g.sk k
  show wpAny C.M A (PySem.assign (.Tuple es m p) env v) _ NoE s₁
  refine ht A (Ow ++ O₀) Ow σ s₁ v _ g₁.g i fun s' ks os gs r => ?_
  have ss : SS C env Ow s₁ s' := by
    have := ss_store (env := env) (Ow := Ow) (tk := s'.toks) g₁.g.w.tb ks Mu.loc r.ok.loc
    exact ⟨this.ks, os, ⟨#[], by rw [gs]; simp, .empty⟩, this.there⟩
  exact qn _ _ _ hN ((k.ss g.g.w.tb).trans (Ow' := Ow) ss .refl) .refl r

/-- a loop over what an iterator gives -/
theorem for_core {A : Around} {I : Addr} {ds : List D} {target : Expr} {body : List Stmt} {tgt : D → Sto} {s₀ s : Shared} {Q : Flow → Shared → Prop} (J : Nat → List Addr → Sto → Prop)
    (g : GS C n A O₀ Ow env σ s) (k₀ : SS C env Ow s₀ s) (it : IterAt C A (Ow ++ O₀) I ds s₀.heap s.heap) (hIK : C.K.lookup I = none)
    (j0 : J 0 Ow σ) (hA : ∀ d ∈ ds, Asg C n env target d (tgt d))
    (hB : ∀ i (hi : i < ds.length) Ow' σ', J i Ow' σ' → Ex C n env O₀ Ow' (tgt ds[i] ++ σ') body (J (i + 1)) R)
    (hown : ∀ (s : Shared) (v : Value) (Q : Unit → Shared → Prop), IsIt s.heap I → Q () s → wpAny C.M A (letOwnedTupleGo target (.ref I) v) Q NoE s)
    (qn : ∀ Ow' σ' s', J ds.length Ow' σ' → SS C env Ow s₀ s' → NewO Ow Ow' s₀.heap → Rel (Ow' ++ O₀) Ow' env σ' s'.heap → Q .next s')
    (qr : ∀ d v s', R d → SS C env Ow s₀ s' → Is O₀ s'.heap v d → Q (.ret v) s') :
    codeAny C.M A (.forLoop target (.ref I) body [] env) (fun r s' => match r with | .ok f => Q f s' | .error e => cameBackBy C.M A env NoE e s') s := by
  refine Classical.byContradiction fun hN => ?_
  obtain ⟨fp, P, St, W, hst, hI0, hfp, hP, hit⟩ := it
  refine hN ?_
  clear hN
  have hIf : I ∈ fp := W.sub I (by simp)
  have hIT : I ∉ C.TB := (hfp I hIf).1
  have t₀ := g.g.w.tb
  let Inv : Nat → Shared → Prop := fun k s' => ∃ i Ow' σ', i ≤ ds.length ∧ k = ds.length + 1 - i ∧ J i Ow' σ' ∧ SS C env (I :: Ow) s s' ∧ NewO Ow Ow' s.heap ∧ Rel (Ow' ++ O₀) Ow' env σ' s'.heap ∧ St i s'.heap
  have fpM : ∀ Ow', NewO Ow Ow' s.heap → ∀ b ∈ fp, b ∉ Mu env Ow' := fun Ow' hn b hb hm => by
    refine Classical.byContradiction fun hN => ?_
    obtain ⟨_, hbO, o, e, nd, nc⟩ := hfp b hb
    refine hN ?_
    clear hN
    unfold Mu at hm
    rcases List.mem_cons.mp hm with h | h
    · refine Classical.byContradiction fun hN => ?_
      obtain ⟨m, o', es, ep, e', hd', _⟩ := g.g.r.ok.ns
      refine hN ?_
      clear hN
      rw [h, e'] at e; cases e; exact nd _ _ hd'
    · rcases List.mem_append.mp h with h | h
      · refine Classical.byContradiction fun hN => ?_
        obtain ⟨x, hmc⟩ := mem_ownCells h
        obtain ⟨v, o', e', hd'⟩ := g.g.r.ok.cells x b (lookup_of_mem_nodup g.nd hmc)
        refine hN ?_
        clear hN
        rw [e'] at e; cases e; exact nc _ hd'
      · rcases hn b h with h | h
        · exact hbO (List.mem_append_left _ h)
        · rw [h] at e; cases e
  have newI : ∀ {Ow'}, NewO Ow Ow' s.heap → NewO (I :: Ow) Ow' s.heap := fun hn a ha => (hn a ha).imp (List.mem_cons_of_mem _) id
  have new₀ : NewO Ow (I :: Ow) s₀.heap := fun a ha => by
    rcases List.mem_cons.mp ha with rfl | ha
    · exact .inr hI0
    · exact .inl ha
  refine codeAny_forLoop_any Inv (fun k s' hJ => noE ?_) (ds.length + 1) ⟨0, Ow, σ, Nat.zero_le _, rfl, j0, .refl, .refl, g.g.r, hst⟩
  refine Classical.byContradiction fun hN => ?_
  obtain ⟨i, Ow', σ', hi, hk, hj, ss, hn, rel, st⟩ := hJ
  refine hN ?_
  clear hN
  have w' : Wd C.K C.TB s'.heap := ss.ks.wd g.g.w fun b hb => by
    unfold Mu at hb
    rcases List.mem_cons.mp hb with h | h
    · exact g.f b (h ▸ List.mem_cons_self)
    · rcases List.mem_append.mp h with h | h
      · exact g.f b (List.mem_cons_of_mem _ (List.mem_append_left _ h))
      · rcases List.mem_cons.mp h with h | h
        · exact h ▸ hIK
        · exact g.f b (List.mem_cons_of_mem _ (List.mem_append_right _ h))
  have nI : ∀ {i h}, St i h → ∀ o, h.get? I = some o → ∃ vs, o.data = .fields vs := fun st o e => by
    refine Classical.byContradiction fun hN => ?_
    obtain ⟨oI, cI, vI, eI, hcI, hdI, _⟩ := hit _ _ st
    refine hN ?_
    clear hN
    rw [eI] at e; cases e; exact ⟨_, hdI⟩
  -- a step of the iterator
  have relI : ∀ {h₁ : Heap}, (∀ b o, b ∉ [I] → s'.heap.get? b = some o → h₁.get? b = some o) → St i s'.heap → Rel (Ow' ++ O₀) Ow' env σ' h₁ := fun {h₁} hk₁ st => by
    have ks₁ : KS C.TB [I] s'.heap h₁ := .of_but hk₁ fun b hb hm => by rw [List.mem_singleton] at hm; exact hIT (hm ▸ hb)
    have fk₁ : FK [] s'.heap h₁ := ks₁.fk w'.tb fun b hb => .inr fun o e => by
      rw [List.mem_singleton] at hb; subst hb
      obtain ⟨vs, q⟩ := nI st o e
      rw [q]; exact ⟨(fun _ _ z => by cases z), (fun _ z => by cases z), fun _ _ z => by cases z⟩
    refine ⟨⟨rel.ok.fn, let ⟨m, n⟩ := rel.ok.ns; ⟨m, ns_keep n fun o e hd => fk₁ _ o e (by simp) (.inl hd)⟩, fun y c e => let ⟨v, n⟩ := rel.ok.cells y c e; ⟨v, cell_keep n fun o e hd => fk₁ _ o e (by simp) (.inr (.inl hd))⟩⟩, fun y en e => ?_, rel.sub, fun a ha => ?_⟩
    · refine Classical.byContradiction fun hN => ?_
      obtain ⟨v, l, en'⟩ := rel.ent y en e
      refine hN ?_
      clear hN
      refine ⟨v, ?_, en'.move (fun b o e d _ => fk₁ b o e (by simp) (.inr (.inr d))) fun a _ vs ⟨kk, e⟩ => ⟨kk, fk₁ a _ e (by simp) (.inr (.inr ⟨_, _, rfl⟩))⟩⟩
      exact l.fk (O := []) fk₁ fun _ h => nomatch h
    · refine Classical.byContradiction fun hN => ?_
      obtain ⟨o, e, d⟩ := rel.ex a ha
      refine hN ?_
      clear hN
      exact ⟨o, fk₁ a o e (by simp) (.inr (.inr d)), d⟩
  have step : ∀ {h₁ : Heap} {tk₁ : Nat} {j : Nat}, (∀ b o, b ∉ [I] → s'.heap.get? b = some o → h₁.get? b = some o) → St i s'.heap → (∃ o, h₁.get? I = some o) → SS C env (I :: Ow) s { s' with heap := h₁, toks := tk₁ } ∧ Rel (Ow' ++ O₀) Ow' env σ' h₁ ∧ Wd C.K C.TB h₁ := fun {h₁ tk₁ j} hk₁ st exI => by
    have ks₁ : KS C.TB [I] s'.heap h₁ := .of_but hk₁ fun b hb hm => by rw [List.mem_singleton] at hm; exact hIT (hm ▸ hb)
    exact ⟨ss.trans (Ow' := I :: Ow) (ss_store (tk := tk₁) w'.tb ks₁ (Mu.own List.mem_cons_self) exI) .refl, relI hk₁ st, ks₁.wd w' fun b hb => by rw [List.mem_singleton] at hb; exact hb ▸ hIK⟩
  by_cases hlt : i < ds.length
  · refine W.item i s' _ _ hlt st fun v h₁ tk₁ hPv hst₁ hk₁ => ?_
    refine Classical.byContradiction fun hN => ?_
    obtain ⟨oI, cI, vI, eI, hcI, hdI, hcc⟩ := hit _ _ hst₁
    obtain ⟨ss₁, rel₁, w₁⟩ := step (tk₁ := tk₁) (j := i + 1) hk₁ st ⟨_, eI⟩
    refine hN ?_
    clear hN
    have hd : ds[i]? = some ds[i] := List.getElem?_eq_getElem hlt
    have hmem : ds[i] ∈ ds := List.getElem_mem hlt
    have iv : Is (Ow' ++ O₀) h₁ v ds[i] := by
      refine (hP s.heap (fun _ _ e _ _ => e) i v _ hPv hd).keep (ss₁.ks.data g.g.w.tb fun b hb => ?_) fun a o e ha hm => ?_
      · unfold Mu at hb
        rcases List.mem_cons.mp hb with h | h
        · refine .inr fun o e => ?_
          refine Classical.byContradiction fun hN => ?_
          obtain ⟨m, o', es, ep, e', hd', _⟩ := g.g.r.ok.ns
          refine hN ?_
          clear hN
          rw [h, e'] at e; cases e; rw [hd']; exact fun _ _ z => by cases z
        · rcases List.mem_append.mp h with h | h
          · refine .inr fun o e => ?_
            refine Classical.byContradiction fun hN => ?_
            obtain ⟨x, hm⟩ := mem_ownCells h
            obtain ⟨v, o', e', hd'⟩ := g.g.r.ok.cells x b (lookup_of_mem_nodup g.nd hm)
            refine hN ?_
            clear hN
            rw [e'] at e; cases e; rw [hd']; exact fun _ _ z => by cases z
          · rcases List.mem_cons.mp h with h | h
            · refine .inr fun o e => ?_
              obtain ⟨vs, q⟩ := nI hst o (h ▸ e)
              rw [q]; exact fun _ _ z => by cases z
            · exact .inl (List.mem_append_left _ h)
      · rcases List.mem_append.mp hm with h | h
        · rcases hn a h with h | h
          · exact ha (List.mem_append_left _ h)
          · rw [h] at e; cases e
        · exact ha (List.mem_append_right _ h)
    refine noE (hown { s' with heap := h₁, toks := tk₁ } v _ ⟨oI, cI, vI, eI, hcI, hdI, hcc⟩ ?_)
    refine noE (hA _ hmem A (Ow' ++ O₀) Ow' σ' _ v _ ⟨g.g.a, w₁, rel₁⟩ iv fun s₂ ks₂ os₂ gs₂ rel₂ => ?_)
    have ss₁₂ : SS C env (I :: Ow) { s' with heap := h₁, toks := tk₁ } s₂ := by
      have := ss_store (C := C) (env := env) (Ow := I :: Ow) (s := { s' with heap := h₁, toks := tk₁ }) (h' := s₂.heap) (tk := s₂.toks) w₁.tb ks₂ Mu.loc rel₂.ok.loc
      exact ⟨this.ks, os₂, ⟨#[], by rw [gs₂]; simp, .empty⟩, this.there⟩
    have ss₂ := ss₁.trans ss₁₂ .refl
    have w₂ : Wd C.K C.TB s₂.heap := ks₂.wd w₁ fun b hb => by rw [List.mem_singleton] at hb; exact hb ▸ g.f _ Mu.loc
    have fOw : ∀ b ∈ Mu env Ow', C.K.lookup b = none := fun b hb => by
      unfold Mu at hb
      rcases List.mem_cons.mp hb with h | h
      · exact g.f b (h ▸ List.mem_cons_self)
      · rcases List.mem_append.mp h with h | h
        · exact g.f b (List.mem_cons_of_mem _ (List.mem_append_left _ h))
        · rcases hn b h with h | h
          · exact g.f b (List.mem_cons_of_mem _ (List.mem_append_right _ h))
          · cases q : C.K.lookup b with
            | none => rfl
            | some o => rw [g.g.w.k b o q] at h; cases h
    have st₂ : St (i + 1) s₂.heap := W.frame _ _ _ hst₁ fun b hb o e => ks₂.keep b o e (hfp b hb).1 fun hm => by
      rw [List.mem_singleton] at hm
      exact fpM Ow .refl b hb (hm ▸ Mu.loc)
    refine noE (hB i hlt Ow' σ' hj A s₂ _ ⟨⟨g.g.a, w₂, rel₂⟩, fOw, g.ap, g.nd⟩ (fun Ow'' σ'' s₃ hj' ss₃ hn' rel₃ => ?_) fun d v s₃ hR ss₃ i => qr d v s₃ hR (k₀.trans (ss₂.trans ss₃ (newI hn)) (Ow' := I :: Ow) new₀) i)
    refine ⟨ds.length + 1 - (i + 1), by (clear rel₃ hn' ss₃ hj' st₂ fOw w₂ ss₂ ss₁₂ rel₂ gs₂ os₂ ks₂ iv hmem hd w₁ rel₁ ss₁ hcc hdI hcI eI hk₁ hst₁ hPv hlt step relI nI w' st rel hn ss hj new₀ newI fpM t₀ hIT hIf hit hP hfp hI0 hst W qr qn hown hB hA j0 hIK k₀ g; lia), i + 1, Ow'', σ'', hlt, rfl, hj', ss₂.trans ss₃ (newI hn), fun a ha => ?_, rel₃, W.frame _ _ _ st₂ fun b hb o e => ss₃.ks.keep b o e (hfp b hb).1 (fpM Ow' hn b hb)⟩
    rcases hn' a ha with h | h
    · exact hn a h
    · exact .inr (ss₂.there a h)
  · have hin : i = ds.length := by (first | lia | omega)
    subst hin
    refine W.done s' _ _ st fun h₁ tk₁ hk₁ => ?_
    refine wpAny_execs_nil (qn Ow' σ' _ hj ?_ (fun a ha => (hn a ha).imp id (k₀.there a)) ?_)
    · have k₁ := k₀.trans ss new₀
      have ks₁ : KS C.TB [I] s'.heap h₁ := .of_but hk₁ fun b hb hm => by rw [List.mem_singleton] at hm; exact hIT (hm ▸ hb)
      refine ⟨⟨fun b o e hT hM => ks₁.keep b o (k₁.ks.keep b o e hT hM) hT fun hm => ?_, fun b hb ps e => ?_⟩, k₁.os, k₁.gens, fun a ha => ?_⟩
      · rw [List.mem_singleton] at hm; rw [hm, hI0] at e; cases e
      · refine Classical.byContradiction fun hN => ?_
        obtain ⟨m, e⟩ := k₁.ks.tab b hb ps e
        obtain ⟨m', e⟩ := ks₁.tab b hb _ e
        refine hN ?_
        clear hN
        exact ⟨m ++ m', by rw [e, Array.append_assoc]⟩
      · by_cases q : a = I
        · exact q ▸ hI0
        · refine k₁.there a ?_
          cases e : s'.heap.get? a with
          | none => rfl
          | some o => dsimp only at ha; rw [hk₁ a o (by simpa using q) e] at ha; cases ha
    · exact relI hk₁ st

/-- for target in iter: body -/
theorem Ex1.for_ {iter target : Expr} {body : List Stmt} {pos : Pos} {ds : List D} {tgt : D → Sto} (J : Nat → List Addr → Sto → Prop) (it : It C n env σ iter ds)
    (j0 : J 0 Ow σ) (hA : ∀ d ∈ ds, Asg C n env target d (tgt d))
    (hB : ∀ i (hi : i < ds.length) Ow' σ', J i Ow' σ' → Ex C n env O₀ Ow' (tgt ds[i] ++ σ') body (J (i + 1)) R)
    (hown : ∀ (A : Around) (I : Addr) (s : Shared) (v : Value) (Q : Unit → Shared → Prop), IsIt s.heap I → Q () s → wpAny C.M A (letOwnedTupleGo target (.ref I) v) Q NoE s)
    (hN : ∀ Ow' σ', J ds.length Ow' σ' → N Ow' σ') (hs : ∀ x, foldedSetIterable iter env x = pure x := by intro _; rfl) : Ex1 C n env O₀ Ow σ (.For target iter body [] pos) N R := fun A s Q g qn qr => by
  refine wpAny_For (it A (Ow ++ O₀) Ow s _ g.g fun I s₁ k hI => ?_) hs
  refine for_core (R := R) J (g.sk k) (k.ss g.g.w.tb) hI ?_ j0 hA hB (hown A I) (fun Ow' σ' s' hj => qn Ow' σ' s' (hN _ _ hj)) qr
  refine Classical.byContradiction fun hN => ?_
  obtain ⟨_, _, _, _, _, hI0, _⟩ := hI
  refine hN ?_
  clear hN
  cases q : C.K.lookup I with
  | none => rfl
  | some o => rw [g.g.w.k I o q] at hI0; cases hI0
theorem Ex1.forN {iter : Expr} {x : Str} {p : Pos} {body : List Stmt} {pos : Pos} {ds : List D} (J : Nat → List Addr → Sto → Prop) (it : It C n env σ iter ds)
    (j0 : J 0 Ow σ) 
    (hB : ∀ i (hi : i < ds.length) Ow' σ', J i Ow' σ' → Ex C n env O₀ Ow' ((x, .val ds[i]) :: σ') body (J (i + 1)) R)
    (hN : ∀ Ow' σ', J ds.length Ow' σ' → N Ow' σ') (hx : env.kindOf x = some .local := by rfl) (hs : ∀ x, foldedSetIterable iter env x = pure x := by intro _; rfl) : Ex1 C n env O₀ Ow σ (.For (.Name x p) iter body [] pos) N R :=
  .for_ (tgt := fun d => [(x, .val d)]) J it j0 (fun d _ => .name hx) hB (fun A I s v Q => own_name I s v Q) hN hs
/-- while test: body -/
theorem Ex1.while_ {test : Expr} {body : List Stmt} {pos : Pos} (J : Nat → List Addr → Sto → Prop) (k₀ : Nat) (j0 : J k₀ Ow σ)
    (hB : ∀ k Ow' σ', J k Ow' σ' → ∃ b, Tr C n env σ' test b ∧ (b = true → Ex C n env O₀ Ow' σ' body (fun O' S' => ∃ m, m < k ∧ J m O' S') R) ∧ (b = false → N Ow' σ')) : Ex1 C n env O₀ Ow σ (.While test body [] pos) N R := fun A s Q g qn qr => by
  refine wpAny_While ?_
  let Inv : Nat → Shared → Prop := fun k s' => ∃ Ow' σ', J k Ow' σ' ∧ SS C env Ow s s' ∧ NewO Ow Ow' s.heap ∧ Rel (Ow' ++ O₀) Ow' env σ' s'.heap
  refine codeAny_whileLoop Inv (fun k s' hJ => noE ?_) k₀ ⟨Ow, σ, j0, .refl, .refl, g.g.r⟩
  refine Classical.byContradiction fun hN => ?_
  obtain ⟨Ow', σ', hj, ss, hn, rel⟩ := hJ
  refine hN ?_
  clear hN
  have g' := g.ss ss rel hn
  refine Classical.byContradiction fun hN => ?_
  obtain ⟨b, hT, h₁, h₂⟩ := hB k Ow' σ' hj
  refine hN ?_
  clear hN
  refine hT A (Ow' ++ O₀) Ow' s' _ g'.g fun s₂ k₂ => ?_
  have g₂ := g'.sk k₂
  have ss₂ : SS C env Ow s s₂ := ss.trans (Ow' := Ow') (k₂.ss g'.g.w.tb) hn
  cases b with
  | false =>
    rw [if_neg (by decide)]
    exact noE (wpAny_execs_nil (qn Ow' σ' s₂ (h₂ rfl) ss₂ hn g₂.g.r))
  | true =>
    rw [if_pos rfl]
    refine noE (h₁ rfl A s₂ _ g₂ (fun Ow'' σ'' s₃ hj' ss₃ hn' rel₃ => ?_) fun d v s₃ hR ss₃ i => qr d v s₃ hR (ss₂.trans ss₃ hn) i)
    refine Classical.byContradiction fun hN => ?_
    obtain ⟨m, hm, hj'⟩ := hj'
    refine hN ?_
    clear hN
    exact ⟨m, hm, Ow'', σ'', hj', ss₂.trans ss₃ hn, fun a ha => by
      rcases hn' a ha with h | h
      · exact hn a h
      · exact .inr (ss₂.there a h), rel₃⟩
/-- over a turn of a dict that is not the frame's -/
theorem Rel.other {O Ow : List Addr} {σ : Sto} {h h' : Heap} {b : Addr} (r : Rel O Ow env σ h) (hs : Heap.SameBut b h h') (hb : b ≠ env.locals) (hd : ∃ o es ep, h.get? b = some o ∧ o.data = .dict es ep) : Rel O Ow env σ h' := by
  refine Classical.byContradiction fun hN => ?_
  obtain ⟨ob, es, ep, eb, hdb⟩ := hd
  refine hN ?_
  clear hN
  have keepD : DataKeep O h h' := fun c o e ⟨xs, n, hd⟩ _ => (hs.2 c fun q => by rw [q, eb] at e; cases e; rw [hdb] at hd; cases hd).trans e
  have keepW : ∀ a ∈ Ow, ∀ vs, LsAt h a vs → LsAt h' a vs := fun a _ vs ⟨k, g⟩ => ⟨k, (hs.2 a fun q => by rw [q, eb] at g; cases g; cases hdb).trans g⟩
  have keepC : ∀ {c w}, h.IsCell c w → h'.IsCell c w := fun {c w} ic => cell_keep ic fun o e ⟨_, hd⟩ => (hs.2 c fun q => by rw [q, eb] at e; cases e; rw [hdb] at hd; cases hd).trans e
  have keepN : ∀ {m}, h.Ns env.locals m → h'.Ns env.locals m := fun {m} n => ns_keep n fun o e _ => (hs.2 _ fun q => hb q.symm).trans e
  have lk : ∀ {y u}, Look env h y u → Look env h' y u := by
    rintro y u (⟨k, m', n', e⟩ | ⟨k, c', e, n'⟩)
    · exact .inl ⟨k, m', keepN n', e⟩
    · exact .inr ⟨k, c', e, keepC n'⟩
  refine ⟨⟨r.ok.fn, let ⟨m, n⟩ := r.ok.ns; ⟨m, keepN n⟩, fun y c e => let ⟨v, n⟩ := r.ok.cells y c e; ⟨v, keepC n⟩⟩, fun y en q => ?_, r.sub, fun a ha => ?_⟩
  · refine Classical.byContradiction fun hN => ?_
    obtain ⟨v, l, i⟩ := r.ent y en q
    refine hN ?_
    clear hN
    exact ⟨v, lk l, i.move keepD keepW⟩
  · refine Classical.byContradiction fun hN => ?_
    obtain ⟨o, e, xs, k, hd⟩ := r.ex a ha
    refine hN ?_
    clear hN
    exact ⟨o, (hs.2 a fun q => by rw [q, eb] at e; cases e; rw [hdb] at hd; cases hd).trans e, xs, k, hd⟩
/-- y = [elt for x in iter if ..] that is stored ahead of its frame's end -/
theorem Ex1.assignComp {ds : List D} {elt iter target : Expr} {y : Str} {py : Pos} {ifs : List Expr} {scope : Scope} {pos spos : Pos} (σc : Sto) (tgt : D → Sto) (p : D → Bool) (f : D → D)
    (it : It C n env σ iter ds) (se : Sees env scope σ σc)
    (hcell : ∀ y ∈ scope.names, y.2 ≠ .cell) (hkind : scope.kind = .function) (hnames : ∀ y ∈ scope.names, y.2 = .local → scope.names.lookup y.1 = some .local)
    (hs : ∀ x, foldedSetIterable iter env x = pure x)
    (htg : ∀ d x e, σc.lookup x = some e → (tgt d ++ σc).lookup x = some e)
    (hA : ∀ cenv, CE env scope cenv → ∀ d ∈ ds, Asg C n cenv target d (tgt d)) (hT : ∀ cenv, CE env scope cenv → ∀ d ∈ ds, Trs C n cenv (tgt d ++ σc) ifs (p d)) (hE : ∀ cenv, CE env scope cenv → ∀ d ∈ ds, p d = true → Ev C n cenv (tgt d ++ σc) elt (f d))
    (hz : ds.length ≤ 1000000)
    (hown : ∀ (A : Around) (I : Addr) (s : Shared) (v : Value) (Q : Unit → Shared → Prop), IsIt s.heap I → Q () s → wpAny C.M A (letOwnedTupleGo target (.ref I) v) Q NoE s)
    (hN : N Ow ((y, .val (.list ((ds.filter p).map f))) :: σ)) (hy : env.kindOf y = some .local)
    (hsw : swapsWith (.ListComp elt [⟨target, iter, ifs, 0⟩] scope pos) (some (.Name y py)) spos.line env = pure true) :
    Ex1 C n env O₀ Ow σ (.Assign [.Name y py] (.ListComp elt [⟨target, iter, ifs, 0⟩] scope pos) spos) N R := fun A s Q g qn qr => by
  show wpAny C.M A (exec _ env) Q NoE s
  rw [exec_Assign_Name_used _ _ _ _ hsw]
  refine wpAny_bind (wpAny_standAt (wpAny_bind ?_))
  show wpAny _ A (do let _ ← comprehension (.ListComp elt [⟨target, iter, ifs, 0⟩] scope pos) scope env _ (newList []) false (eval iter env) (some (PySem.assign (.Name y py) env))) _ _ s
  refine wpAny_bind (wpAny_mono (comp_core (use := some (PySem.assign (.Name y py) env)) (Q := fun _ s' => Q .next s') g.g it se hcell hkind hnames hs htg hA hT hE hz (hown A) fun s' acc Lc sk i hL hacc hns => ?_) (fun _ s' hq => wpAny_pure (wpAny_pure hq)) fun _ _ e => e)
  have g' := g.sk sk
  obtain ⟨m, hn⟩ := hns
  have hLl : env.locals ≠ Lc := fun q => by
    obtain ⟨o, e⟩ := g.g.r.ok.loc
    rw [q, hL] at e; cases e
  refine wpAny_assign_Name (storeL (en := .val _) g'.g.r g'.g.w.tb hy i fun h₁ tk ks r => ?_)
  refine Classical.byContradiction fun hN => ?_
  obtain ⟨oL, es, ep, eL, hd, hrest⟩ := id hn
  refine hN ?_
  clear hN
  have nTL : Lc ∉ C.TB := g'.g.w.tb.apart eL fun ⟨ps, z⟩ => by rw [z] at hd; cases hd
  have eL₁ : h₁.get? Lc = some oL := ks.keep Lc oL eL nTL (by simpa using fun q => hLl q.symm)
  refine ⟨m, ⟨oL, es, ep, eL₁, hd, hrest⟩, fun h₂ hs₂ => ?_⟩
  have ks₂ : KS C.TB [Lc] h₁ h₂ := KS.of_same hs₂ (ks.tb g'.g.w.tb) eL₁ fun ⟨ps, z⟩ => by rw [z] at hd; cases hd
  have ss₁ : SS C env Ow s { s' with heap := h₁, toks := tk } := (sk.ss g.g.w.tb).trans (Ow' := Ow) (ss_store g'.g.w.tb ks Mu.loc r.ok.loc) .refl
  refine qn _ _ _ hN ⟨⟨fun b o e hT hM => ks₂.keep b o (ss₁.ks.keep b o e hT hM) hT fun hm => ?_, fun b hb ps e => ?_⟩, ss₁.os, ss₁.gens, fun a ha => ?_⟩ .refl (r.other hs₂ (fun q => hLl q.symm) ⟨oL, es, ep, eL₁, hd⟩)
  · rw [List.mem_singleton] at hm; rw [hm, hL] at e; cases e
  · refine Classical.byContradiction fun hN => ?_
    obtain ⟨m, e⟩ := ss₁.ks.tab b hb ps e
    obtain ⟨m', e⟩ := ks₂.tab b hb _ e
    refine hN ?_
    clear hN
    exact ⟨m ++ m', by rw [e, Array.append_assoc]⟩
  · by_cases q : a = Lc
    · exact q ▸ hL
    · refine ss₁.there a ?_
      dsimp only at ha ⊢
      rw [hs₂.2 a q] at ha
      exact ha
theorem Ex1.assignCompN {ds : List D} {elt iter : Expr} {x y : Str} {px py : Pos} {ifs : List Expr} {scope : Scope} {pos spos : Pos} (σc : Sto) (p : D → Bool) (f : D → D)
    (it : It C n env σ iter ds) (se : Sees env scope σ σc)
    (hT : ∀ cenv, CE env scope cenv → ∀ d ∈ ds, Trs C n cenv ((x, .val d) :: σc) ifs (p d)) (hE : ∀ cenv, CE env scope cenv → ∀ d ∈ ds, p d = true → Ev C n cenv ((x, .val d) :: σc) elt (f d))
    (hz : ds.length ≤ 1000000) (hxc : σc.lookup x = none) (hN : N Ow ((y, .val (.list ((ds.filter p).map f))) :: σ))
    (hx : scope.names.lookup x = some .local := by rfl)
    (hcell : ∀ y ∈ scope.names, y.2 ≠ .cell := by decide) (hkind : scope.kind = .function := by rfl) (hnames : ∀ y ∈ scope.names, y.2 = .local → scope.names.lookup y.1 = some .local := by decide)
    (hs : ∀ x, foldedSetIterable iter env x = pure x := by intro _; rfl) (hy : env.kindOf y = some .local := by rfl)
    (hsw : swapsWith (.ListComp elt [⟨.Name x px, iter, ifs, 0⟩] scope pos) (some (.Name y py)) spos.line env = pure true := by rfl) :
    Ex1 C n env O₀ Ow σ (.Assign [.Name y py] (.ListComp elt [⟨.Name x px, iter, ifs, 0⟩] scope pos) spos) N R :=
  .assignComp σc (fun d => [(x, .val d)]) p f it se hcell hkind hnames hs (fun d y e h => by
    have : y ≠ x := fun q => by rw [q, hxc] at h; cases h
    exact (lookup_ne this).trans h) (fun cenv ce d hd => .name (ce.kind hx (by decide))) hT hE hz (fun A I s v Q => own_name I s v Q) hN hy hsw
end
end Mine
end

section
set_option genInjectivity false
set_option genSizeOf false
set_option genSizeOfSpec false
set_option maxRecDepth 100000
set_option linter.unusedVariables false
set_option tactic.hygienic false
namespace Mine
open PySem PySem.Calls PyProof.Rows PySem.W PySem.SeqAt

/-- what the parameters stand for -/
inductive Binds (O : List Addr) (h : Heap) : List (Str × Value) → Sto → Prop
  | nil : Binds O h [] []
  | cons {x : Str} {v : Value} {e : Ent} {bs : List (Str × Value)} {σ : Sto} : EntOk O [] h v e → Binds O h bs σ → Binds O h ((x, v) :: bs) ((x, e) :: σ)
theorem Binds.get {O : List Addr} {h : Heap} {bs : List (Str × Value)} {σ : Sto} (b : Binds O h bs σ) {x : Str} {e : Ent} (hx : σ.lookup x = some e) : ∃ v, (x, v) ∈ bs ∧ EntOk O [] h v e := by
  induction b with
  | nil => cases hx
  | @cons y v e' bs σ i b ih =>
    by_cases hm : x = y
    · subst hm; rw [List.lookup_cons_self] at hx; cases hx; exact ⟨v, List.mem_cons_self, i⟩
    · rw [lookup_ne hm] at hx
      refine Classical.byContradiction fun hN => ?_
      obtain ⟨v, hv, i⟩ := ih hx
      refine hN ?_
      clear hN
      exact ⟨v, List.mem_cons_of_mem _ hv, i⟩
theorem bindL_miss {k : Str → Option NameKind} {x : Str} : ∀ {bs : List (Str × Value)} {m : Str → Option Value}, x ∉ bs.map (·.1) → bindL k bs m x = m x
  | [], m, _ => rfl
  | (y, v) :: r, m, h => by
    rw [List.map_cons, List.mem_cons, not_or] at h
    unfold bindL
    rw [bindL_miss h.2]
    split
    · simp only [if_neg h.1]
    · rfl
theorem bindC_miss {k : Str → Option NameKind} {x : Str} : ∀ {bs : List (Str × Value)} {m : Str → Option Value}, x ∉ bs.map (·.1) → bindC k bs m x = m x
  | [], m, _ => rfl
  | (y, v) :: r, m, h => by
    rw [List.map_cons, List.mem_cons, not_or] at h
    unfold bindC
    rw [bindC_miss h.2]
    split
    · rfl
    · simp only [if_neg h.1]
theorem bindL_get {k : Str → Option NameKind} {x : Str} {v : Value} (hk : k x = some .local) : ∀ {bs : List (Str × Value)} {m : Str → Option Value}, (bs.map (·.1)).Nodup → (x, v) ∈ bs → bindL k bs m x = some v
  | [], m, _, h => by cases h
  | (y, u) :: r, m, hnd, h => by
    rw [List.map_cons, List.nodup_cons] at hnd
    unfold bindL
    rcases List.mem_cons.mp h with h | h
    · cases h
      rw [bindL_miss hnd.1, if_pos hk]; simp
    · exact bindL_get hk hnd.2 h
theorem bindC_get {k : Str → Option NameKind} {x : Str} {v : Value} (hk : k x = some .cell) : ∀ {bs : List (Str × Value)} {m : Str → Option Value}, (bs.map (·.1)).Nodup → (x, v) ∈ bs → bindC k bs m x = some v
  | [], m, _, h => by cases h
  | (y, u) :: r, m, hnd, h => by
    rw [List.map_cons, List.nodup_cons] at hnd
    unfold bindC
    rcases List.mem_cons.mp h with h | h
    · cases h
      rw [bindC_miss hnd.1, if_neg (by rw [hk]; decide)]; simp
    · exact bindC_get hk hnd.2 h

section
variable {C : Cx} {n : Nat}
/-- a body in its frame -/
theorem run_body {A : Around} {O : List Addr} {env : Env} {σ : Sto} {body : List Stmt} {s s₁ : Shared} {Q : Value → Shared → Prop} {R : D → Prop} (a : AOk (n + 1) A) (w : Wd C.K C.TB s.heap) (kp : ∀ b o, s.heap.get? b = some o → s₁.heap.get? b = some o) (hos : s₁.os = s.os) (hgs : s₁.gens = s.gens)
    (new : ∀ b ∈ Mu env [], s.heap.get? b = none) (rel : Rel O [] env σ s₁.heap) (ap : env.cells.Pairwise fun x y => x.2 ≠ y.2) (nd : (env.cells.map (·.1)).Nodup)
    (hb : Ex C n env O [] σ body (fun _ _ => R .none) R) (q : ∀ d v s', R d → SK C.TB s s' → Is O s'.heap v d → Q v s') : wpAny C.M (A.deeper env) (execs body env) (fun f s' => Q (match f with | .ret v => v | _ => .none) s') NoE s₁ := by
  have kp' : Kp C.TB s.heap s₁.heap := .of kp
  have sk : ∀ {s'}, SS C env [] s₁ s' → SK C.TB s s' := fun {s'} ss => by
    refine Classical.byContradiction fun hN => ?_
    obtain ⟨m, e, b⟩ := ss.gens
    refine hN ?_
    clear hN
    exact ⟨ss.ks.kp kp' new, ss.os.trans hos, m, by rw [e, hgs], b⟩
  refine hb (A.deeper env) s₁ _ ⟨⟨a.deeper, w.kp kp', rel⟩, fun b hb => ?_, ap, nd⟩ (fun Ow' σ' s' hR ss hn r => q .none .none s' hR (sk ss) .none) fun d v s' hR ss i => q d v s' hR (sk ss) i
  cases e : C.K.lookup b with
  | none => rfl
  | some o => rw [← new b hb, w.k b o e]
structure FnAt (h : Heap) (a : Addr) (fd : FuncData) : Prop where
  ob : ∃ o, h.get? a = some o ∧ o.data = .func fd
  code : h.CodeRec fd.code fd.qualname
structure FnK (C : Cx) (a : Addr) (fd : FuncData) : Prop where
  ob : ∃ o, C.K.lookup a = some o ∧ o.data = .func fd
  code : ∃ c o vs t, fd.code = .ref c ∧ C.K.lookup c = some o ∧ o.data = .fields vs ∧ vs[1]? = some (.str fd.qualname t)
theorem FnK.at {h : Heap} {a : Addr} {fd : FuncData} (x : FnK C a fd) (w : Wd C.K C.TB h) : FnAt h a fd :=
  ⟨let ⟨o, e, d⟩ := x.ob; ⟨o, w.k _ _ e, d⟩, let ⟨c, o, vs, t, e, ec, r⟩ := x.code; ⟨c, o, vs, t, e, w.k _ _ ec, r⟩⟩
theorem FnK.obj {a : Addr} {fd : FuncData} (x : FnK C a fd) : FnObj C a := let ⟨o, e, d⟩ := x.ob; ⟨o, fd, e, d⟩
noncomputable def Statics (C : Cx) : Prop := C.K.lookup cStatics = some { cls := .none, data := .dict #[] }
/-- a def with cells of its own and none from around -/
theorem call_own {A : Around} {O : List Addr} {a : Addr} {fd : FuncData} {body : List Stmt} {vs : List Value} {kw : List (Str × Value)} {binds : List (Str × Value)} {σ : Sto} {s : Shared} {Q : Value → Shared → Prop} {R : D → Prop}
    (st : Statics C) (ha : AOk (n + 1) A) (w : Wd C.K C.TB s.heap) (ex : OOk O s.heap) (fa : FnAt s.heap a fd) (hbind : BindsTo s fd ⟨vs, kw⟩ binds) (hb : Binds O s.heap binds σ)
    (hbody : fd.body = .stmts body) (hclo : fd.closure = []) (hnd : (binds.map (·.1)).Nodup)
    (hkind : ∀ x ∈ binds, fd.scope.names.lookup x.1 = some .local ∨ (fd.scope.names.lookup x.1 = some .cell ∧ ((cellsFrom (s.heap.objs.size + 1) fd.scope.names []).lookup x.1).isSome = true))
    (hcn : ((cellsFrom 0 fd.scope.names []).map (·.1)).Nodup)
    (hEx : Ex C n (callEnvC fd s.heap.objs.size a) O [] σ body (fun _ _ => R .none) R)
    (q : ∀ d v s', R d → SK C.TB s s' → Is O s'.heap v d → Q v s')
    (hco : fd.scope.isCoroutine = false := by rfl) (hgen : fd.scope.isGenerator = false := by rfl) (hk : fd.scope.kind = .function := by rfl) :
    wpAny C.M A (call (.ref a) vs kw) Q NoE s := by
  refine wpAny_call ?_
  refine Classical.byContradiction fun hN => ?_
  obtain ⟨o, ho, hdata⟩ := fa.ob
  refine hN ?_
  clear hN
  refine codeAny_call_function ha.depth ho hdata hco hgen hbody fa.code (hbind _ _ _ _ ?_)
  rw [hclo]
  refine wpAny_newFunctionEnv_cells hk hkind fun env he s₁ x => ?_
  subst he
  refine Classical.byContradiction fun hN => ?_
  obtain ⟨h₁, tk, rfl⟩ := x.toInCall.same
  refine hN ?_
  clear hN
  refine ⟨(w.noLimit st).keeps x.toInCall.keep, codeAny_func (noE ?_)⟩
  have kp' : Kp C.TB s.heap h₁ := .of x.toInCall.keep
  have nd : ((callEnvC fd s.heap.objs.size a).cells.map (·.1)).Nodup := (cellsFrom_names fd.scope.names 0 (s.heap.objs.size + 1) [] [] rfl) ▸ hcn
  refine run_body (s := s) (R := R) (σ := σ) ha w x.toInCall.keep rfl rfl (fun b hb => ?_) ⟨⟨hk, ⟨_, x.toInCall.ns⟩, fun y c e => ⟨_, x.cell y c e⟩⟩, fun y e he => ?_, (fun a ha => nomatch ha), ex.kp kp' w.tb⟩ x.apart nd hEx q
  · have hge : s.heap.objs.size ≤ b := by
      unfold Mu at hb
      rcases List.mem_cons.mp hb with h | h
      · exact h ▸ Nat.le_refl _
      · rw [List.append_nil] at h
        obtain ⟨x', hm⟩ := mem_ownCells h
        exact Nat.le_of_lt (x.above x' b hm)
    cases e : s.heap.get? b with
    | none => rfl
    | some o => exact absurd (Heap.lt_size e) (Nat.not_lt.mpr hge)
  · refine Classical.byContradiction fun hN => ?_
    obtain ⟨v, hv, i⟩ := hb.get he
    refine hN ?_
    clear hN
    refine ⟨v, ?_, i.move (kp'.seq w.tb O) fun a ha => nomatch ha⟩
    rcases hkind _ hv with hl | ⟨hl, hc⟩
    · exact .inl ⟨hl, _, x.toInCall.ns, bindL_get hl hnd hv⟩
    · obtain ⟨c, hc⟩ := Option.isSome_iff_exists.mp hc
      refine .inr ⟨.inl hl, c, hc, ?_⟩
      have this : h₁.IsCell c (bindC (Env.kindOf (callEnvC fd s.heap.objs.size a)) binds (fun _ => none) y) := x.cell y c hc
      have e : bindC (Env.kindOf (callEnvC fd s.heap.objs.size a)) binds (fun _ => none) y = some v := bindC_get hl hnd hv
      rw [e] at this
      exact this
end
end Mine
end

section
set_option maxRecDepth 100000
set_option linter.unusedVariables false
set_option tactic.hygienic false
namespace Mine
open PySem PySem.Calls PyProof.Rows PySem.W PySem.SeqAt
section
variable {C : Cx} {n : Nat} {env : Env} {σ : Sto}
open Classical in
/-- x.count(k), ints -/
theorem Ev.count {o e : Expr} {ap cp : Pos} {ns : List Int} {k : Int} (h₁ : Ev C n env σ o (L1 ns)) (h₂ : Ev C n env σ e (.int k)) (hs : starEach [e] env = [(false, eval e env)] := by rfl) (hline : (ap.endLine == cp.line) = true := by rfl) (hb : attributeBase o (Str.ofString "count") env (eval o env) = eval o env := by rfl) :
    Ev C n env σ (.Call (.Attribute o (Str.ofString "count") ap) [e] [] cp) (.int (ns.count k : Nat)) := fun A O Ow s Q g q => by
  refine Call_method1 hb hs hline (h₁ A O Ow s _ g fun v s₁ k₁ i₁ => ?_)
  cases i₁ with
  | list hl hO xs =>
  obtain ⟨kk, ea⟩ := id hl
  refine ⟨"list", _, PySem.F.plainAttrs_list, PySem.F.slot_list_count, PySem.F.type_list_count, ⟨_, ea, rfl⟩, (fun b hb => by cases hb; exact ⟨_, ea, rfl⟩), ?_⟩
  refine P.count_list (h₂ A O Ow s₁ _ (g.sk k₁) fun v s₂ k₂ i₂ => ?_)
  cases i₂
  obtain ⟨k', ea'⟩ := LsAt.kp k₂.kp (g.sk k₁).w.tb hl
  have hi := xs.ints
  refine ⟨_, k', isInt k, ea', fun y hy => eq_isInt k _ hi y (by simpa using hy), ?_⟩
  rw [countP_isInt k hi]
  exact q _ _ ((k₁.trans k₂).trans (.toks _)) (.int _ _)
/-- x.index(k), ints -/
theorem Ev.index {o e : Expr} {ap cp : Pos} {ns : List Int} {k : Int} (h₁ : Ev C n env σ o (L1 ns)) (h₂ : Ev C n env σ e (.int k)) (hk : k ∈ ns) (hz : ns.length ≤ 1000000) (hs : starEach [e] env = [(false, eval e env)] := by rfl) (hline : (ap.endLine == cp.line) = true := by rfl) (hb : attributeBase o (Str.ofString "index") env (eval o env) = eval o env := by rfl) :
    Ev C n env σ (.Call (.Attribute o (Str.ofString "index") ap) [e] [] cp) (.int (ns.idxOf k : Nat)) := fun A O Ow s Q g q => by
  refine Call_method1 hb hs hline (h₁ A O Ow s _ g fun v s₁ k₁ i₁ => ?_)
  cases i₁ with
  | list hl hO xs =>
  obtain ⟨kk, ea⟩ := id hl
  refine ⟨"list", _, PySem.F.plainAttrs_list, PySem.F.slot_list_index, PySem.F.type_list_index, ⟨_, ea, rfl⟩, (fun b hb => by cases hb; exact ⟨_, ea, rfl⟩), ?_⟩
  refine P.index_list (h₂ A O Ow s₁ _ (g.sk k₁) fun v s₂ k₂ i₂ => ?_)
  cases i₂
  obtain ⟨k', ea'⟩ := LsAt.kp k₂.kp (g.sk k₁).w.tb hl
  have hi := xs.ints
  have hlen := hi.length
  have hj : ns.idxOf k < ns.length := List.idxOf_lt_length_iff.mpr hk
  refine ⟨_, k', isInt k, ns.idxOf k, by rw [List.size_toArray]; (first | lia | omega), ea', fun y hy => eq_isInt k _ hi y (by simpa using hy), by (first | lia | omega), ?_, fun m hm hlt => ?_, q _ _ ((k₁.trans k₂).trans (.toks _)) (.int _ _)⟩
  · rw [List.getElem_toArray, isInt_at k hi _ (by (first | lia | omega)) hj]
    simpa using List.getElem_idxOf hj
  · rw [List.getElem_toArray, isInt_at k hi m (by simpa using hm) (by (exact Nat.lt_trans (by assumption) (by assumption)))]
    exact ne_of_lt_idxOf hlt _
theorem strs_of {O : List Addr} {h : Heap} : ∀ {vs : List Value} {ts : List Str}, IsAll O h vs (ts.map .str) → ∃ l : List (Str × Tok), vs = strValues l ∧ l.map (·.1) = ts
  | [], [], _ => ⟨[], rfl, rfl⟩
  | _ :: _, t :: ts, .cons x xs => by
    cases x with
    | str _ k =>
    refine Classical.byContradiction fun hN => ?_
    obtain ⟨l, rfl, e⟩ := strs_of xs
    refine hN ?_
    clear hN
    exact ⟨(t, k) :: l, rfl, by rw [List.map_cons, e]⟩
theorem Ev.join {o e : Expr} {ap cp : Pos} {sep : Str} {ts : List Str} (h₁ : Ev C n env σ o (.str sep)) (h₂ : Ev C n env σ e (.list (ts.map .str))) (hok : JoinOk sep ts = true) (hs : starEach [e] env = [(false, eval e env)] := by rfl) (hline : (ap.endLine == cp.line) = true := by rfl) (hb : attributeBase o (Str.ofString "join") env (eval o env) = eval o env := by rfl) :
    Ev C n env σ (.Call (.Attribute o (Str.ofString "join") ap) [e] [] cp) (.str (Txt.join sep ts)) := fun A O Ow s Q g q => by
  refine Call_method1 hb hs hline (h₁ A O Ow s _ g fun v s₁ k₁ i₁ => ?_)
  cases i₁
  refine SB.join (h₂ A O Ow s₁ _ (g.sk k₁) fun v s₂ k₂ i₂ => ?_)
  cases i₂ with
  | list hl hO xs =>
  refine Classical.byContradiction fun hN => ?_
  obtain ⟨l, rfl, ht⟩ := strs_of xs
  refine hN ?_
  clear hN
  exact ⟨_, l, rfl, hl.isList, ts, ht, hok, fun t' k => q _ _ ((k₁.trans k₂).trans (.toks _)) (.str _ _)⟩
end
end Mine
end

section
set_option maxRecDepth 100000
set_option linter.unusedVariables false
set_option tactic.hygienic false
namespace Mine
open PySem PySem.Calls PyProof.Rows PySem.W PySem.SeqAt
/-- what the top makes of its i-th statement, a def -/
noncomputable def fdOf (b : List Stmt) (i : Nat) (pm : Value) (cd : Addr) (dflt kwd : Value) : FuncData :=
  match b[i]? with
  | some (.FunctionDef name params body _ _ _ scope _ _ _) => { name, qualname := name, params, body := .stmts body, scope, globals := mainGlobals, closure := [], defaults := dflt, kwdefaults := kwd, pyModule := pm, code := .ref cd, builtins := builtinsNs }
  | _ => default
noncomputable def bodyOf (b : List Stmt) (i : Nat) : List Stmt :=
  match b[i]? with
  | some (.FunctionDef _ _ body _ _ _ _ _ _ _) => body
  | _ => []
noncomputable def nodupB : List Str → Bool
  | [] => true
  | x :: r => !r.contains x && nodupB r
theorem nodupB_eq : ∀ {l : List Str}, nodupB l = true → l.Nodup
  | [], _ => List.nodup_nil
  | x :: r, h => by
    simp only [nodupB, Bool.and_eq_true, Bool.not_eq_true', List.contains_eq_mem, decide_eq_false_iff_not] at h
    exact List.nodup_cons.mpr ⟨h.1, nodupB_eq h.2⟩
noncomputable def KindOk (fd : FuncData) (x : Str) : Prop := fd.scope.names.lookup x = some .local ∨ (fd.scope.names.lookup x = some .cell ∧ ∀ L, ((cellsFrom L fd.scope.names []).lookup x).isSome = true)
section
variable {C : Cx} {n : Nat}
theorem Fn.of1 {a : Addr} {fd : FuncData} {body : List Stmt} {x : Str} {d₁ d : D} (st : Statics C) (hf : FnK C a fd) (hbody : fd.body = .stmts body) (hclo : fd.closure = []) (hbind : ∀ v, bindArgs fd ⟨[v], []⟩ = pure [(x, v)])
    (hkind : KindOk fd x) (hcn : nodupB ((cellsFrom 0 fd.scope.names []).map (·.1)) = true)
    (hEx : ∀ L O, Ex C n (callEnvC fd L a) O [] [(x, .val d₁)] body (fun _ _ => D.none = d) (· = d)) (hco : fd.scope.isCoroutine = false := by rfl) (hgen : fd.scope.isGenerator = false := by rfl) (hk : fd.scope.kind = .function := by rfl) :
    Fn C (n + 1) (.ref a) [d₁] d := fun A O s vs Q ha w ex is q => by
  cases is with
  | cons i₁ is =>
  cases is
  refine call_own (R := (· = d)) st ha w ex (hf.at w) (.of_eq (hbind _)) (.cons (e := .val d₁) i₁ .nil) hbody hclo (by simp) (fun y hy => ?_) (nodupB_eq hcn) (hEx _ _) (fun d' v s' e k i => q v s' k (e ▸ i)) hco hgen hk
  rw [List.mem_singleton] at hy
  subst hy
  exact hkind.imp id fun ⟨h, h'⟩ => ⟨h, h' _⟩
theorem Fn.of2 {a : Addr} {fd : FuncData} {body : List Stmt} {x y : Str} {d₁ d₂ d : D} (st : Statics C) (hf : FnK C a fd) (hbody : fd.body = .stmts body) (hclo : fd.closure = []) (hbind : ∀ v u, bindArgs fd ⟨[v, u], []⟩ = pure [(x, v), (y, u)])
    (hkx : KindOk fd x) (hky : KindOk fd y) (hxy : x ≠ y) (hcn : nodupB ((cellsFrom 0 fd.scope.names []).map (·.1)) = true)
    (hEx : ∀ L O, Ex C n (callEnvC fd L a) O [] [(x, .val d₁), (y, .val d₂)] body (fun _ _ => D.none = d) (· = d)) (hco : fd.scope.isCoroutine = false := by rfl) (hgen : fd.scope.isGenerator = false := by rfl) (hk : fd.scope.kind = .function := by rfl) :
    Fn C (n + 1) (.ref a) [d₁, d₂] d := fun A O s vs Q ha w ex is q => by
  cases is with
  | cons i₁ is =>
  cases is with
  | cons i₂ is =>
  cases is
  refine call_own (R := (· = d)) st ha w ex (hf.at w) (.of_eq (hbind _ _)) (.cons (e := .val d₁) i₁ (.cons (e := .val d₂) i₂ .nil)) hbody hclo (by simp [hxy]) (fun z hz => ?_) (nodupB_eq hcn) (hEx _ _) (fun d' v s' e k i => q v s' k (e ▸ i)) hco hgen hk
  simp only [List.mem_cons, List.not_mem_nil, or_false] at hz
  rcases hz with rfl | rfl
  · exact hkx.imp id fun ⟨h, h'⟩ => ⟨h, h' _⟩
  · exact hky.imp id fun ⟨h, h'⟩ => ⟨h, h' _⟩
theorem Fn.of3 {a : Addr} {fd : FuncData} {body : List Stmt} {x y z : Str} {d₁ d₂ d₃ d : D} (st : Statics C) (hf : FnK C a fd) (hbody : fd.body = .stmts body) (hclo : fd.closure = []) (hbind : ∀ v u t, bindArgs fd ⟨[v, u, t], []⟩ = pure [(x, v), (y, u), (z, t)])
    (hkx : KindOk fd x) (hky : KindOk fd y) (hkz : KindOk fd z) (hxy : x ≠ y) (hxz : x ≠ z) (hyz : y ≠ z) (hcn : nodupB ((cellsFrom 0 fd.scope.names []).map (·.1)) = true)
    (hEx : ∀ L O, Ex C n (callEnvC fd L a) O [] [(x, .val d₁), (y, .val d₂), (z, .val d₃)] body (fun _ _ => D.none = d) (· = d)) (hco : fd.scope.isCoroutine = false := by rfl) (hgen : fd.scope.isGenerator = false := by rfl) (hk : fd.scope.kind = .function := by rfl) :
    Fn C (n + 1) (.ref a) [d₁, d₂, d₃] d := fun A O s vs Q ha w ex is q => by
  cases is with
  | cons i₁ is =>
  cases is with
  | cons i₂ is =>
  cases is with
  | cons i₃ is =>
  cases is
  refine call_own (R := (· = d)) st ha w ex (hf.at w) (.of_eq (hbind _ _ _)) (.cons (e := .val d₁) i₁ (.cons (e := .val d₂) i₂ (.cons (e := .val d₃) i₃ .nil))) hbody hclo (by simp [hxy, hxz, hyz]) (fun u hu => ?_) (nodupB_eq hcn) (hEx _ _) (fun d' v s' e k i => q v s' k (e ▸ i)) hco hgen hk
  simp only [List.mem_cons, List.not_mem_nil, or_false] at hu
  rcases hu with rfl | rfl | rfl
  · exact hkx.imp id fun ⟨h, h'⟩ => ⟨h, h' _⟩
  · exact hky.imp id fun ⟨h, h'⟩ => ⟨h, h' _⟩
  · exact hkz.imp id fun ⟨h, h'⟩ => ⟨h, h' _⟩
theorem Fn.mono {m : Nat} {f : Value} {ds : List D} {d : D} (h : Fn C n f ds d) (hm : n ≤ m) : Fn C m f ds d := fun A O s vs Q ha => h A O s vs Q (ha.mono hm)
end
end Mine
end

section
set_option maxRecDepth 100000
set_option linter.unusedVariables false
set_option tactic.hygienic false
namespace Mine
open PySem PySem.Calls PyProof.Rows PySem.W PySem.SeqAt
section
variable {C : Cx} {n : Nat} {env : Env} {O₀ Ow : List Addr} {σ : Sto} {N : List Addr → Sto → Prop} {R : D → Prop} {rest : List Stmt}
/-- one statement that ends in just one way -/
theorem Ex.one {st : Stmt} {Ow' : List Addr} {σ' : Sto} (h : Ex1 C n env O₀ Ow σ st (fun a b => a = Ow' ∧ b = σ') R) (k : Ex C n env O₀ Ow' σ' rest N R) : Ex C n env O₀ Ow σ (st :: rest) N R :=
  .cons h (by rintro _ _ ⟨rfl, rfl⟩; exact k)
theorem Ex.set {x : Str} {e : Expr} {p pos : Pos} {d : D} (h : Ev C n env σ e d) (k : Ex C n env O₀ Ow ((x, .val d) :: σ) rest N R) (hx : env.kindOf x = some .local := by rfl) (hs : swapsWith e (some (.Name x p)) pos.line env = pure false := by rfl) : Ex C n env O₀ Ow σ (.Assign [.Name x p] e pos :: rest) N R :=
  .one (.assign h ⟨rfl, rfl⟩ hx hs) k
theorem Ex.setC {x : Str} {e : Expr} {p pos : Pos} {d : D} {c : Addr} (hc : env.cells.lookup x = some c) (h : Ev C n env σ e d) (k : Ex C n env O₀ Ow ((x, .val d) :: σ) rest N R) (hx : env.kindOf x = some .cell := by rfl) (hs : swapsWith e (some (.Name x p)) pos.line env = pure false := by rfl) : Ex C n env O₀ Ow σ (.Assign [.Name x p] e pos :: rest) N R :=
  .one (.assignC h ⟨rfl, rfl⟩ hc hx hs) k
theorem Ex.ret {e : Expr} {pos : Pos} {d : D} (h : Ev C n env σ e d) (hR : R d) : Ex C n env O₀ Ow σ (.Return (some e) pos :: rest) N R :=
  .cons (N₁ := fun _ _ => False) (.ret h hR) fun _ _ x => x.elim
/-- if t: .. return -/
theorem Ex.ifRet {t : Expr} {body : List Stmt} {pos : Pos} {b : Bool} (h : Tr C n env σ t b) (h₁ : b = true → Ex C n env O₀ Ow σ body (fun _ _ => False) R) (h₂ : b = false → Ex C n env O₀ Ow σ rest N R) : Ex C n env O₀ Ow σ (.If t body [] pos :: rest) N R :=
  .cons (N₁ := fun a c => b = false ∧ a = Ow ∧ c = σ) (.if_ h (fun e => (h₁ e).mono (fun _ _ x => x.elim) fun _ x => x) fun e => .nil ⟨e, rfl, rfl⟩) (by rintro _ _ ⟨e, rfl, rfl⟩; exact h₂ e)
theorem Ex.mono {ss : List Stmt} {N' : List Addr → Sto → Prop} {R' : D → Prop} (h : Ex C n env O₀ Ow σ ss N R) (hn : ∀ a b, N a b → N' a b) (hr : ∀ d, R d → R' d) : Ex C n env O₀ Ow σ ss N' R' := Fl.mono h hn hr
end
/-- the frame of a comprehension sees cells -/
noncomputable def freeOk (env : Env) : List (Str × NameKind) → Bool
  | [] => true
  | (x, k) :: r => (k != .free || (env.cells.lookup x).isSome) && freeOk env r
theorem freeOk_eq {env : Env} {x : Str} : ∀ {l : List (Str × NameKind)}, freeOk env l = true → (x, NameKind.free) ∈ l → ∃ c, env.cells.lookup x = some c
  | [], _, h => by cases h
  | (y, k) :: r, ho, h => by
    simp only [freeOk, Bool.and_eq_true, Bool.or_eq_true] at ho
    rcases List.mem_cons.mp h with h | h
    · cases h
      rcases ho.1 with q | q
      · simp at q
      · exact Option.isSome_iff_exists.mp q
    · exact freeOk_eq ho.2 h
noncomputable def SeesL (env : Env) (names : List (Str × NameKind)) (σ : Sto) : Sto → Prop
  | [] => True
  | (x, .val d) :: r => (σ.lookup x = some (.val d) ∧ names.lookup x = some .free ∧ (env.kindOf x != some .local) = true) ∧ SeesL env names σ r
  | _ :: _ => False
theorem SeesL.get {env : Env} {names : List (Str × NameKind)} {σ : Sto} {x : Str} {e : Ent} : ∀ {σc : Sto}, SeesL env names σ σc → σc.lookup x = some e → ∃ d, e = .val d ∧ σ.lookup x = some (.val d) ∧ names.lookup x = some .free ∧ env.kindOf x ≠ some .local
  | [], _, h => by cases h
  | (y, .val d) :: r, ⟨⟨h1, h2, h3⟩, h4⟩, h => by
    by_cases hm : x = y
    · subst hm; rw [List.lookup_cons_self] at h; cases h; exact ⟨d, rfl, h1, h2, by simpa using h3⟩
    · rw [lookup_ne hm] at h; exact SeesL.get h4 h
theorem Sees.by {env : Env} {scope : Scope} {σ : Sto} {σc : Sto} (see : SeesL env scope.names σ σc) (free : freeOk env scope.names = true := by rfl) : Sees env scope σ σc :=
  ⟨fun _ hx => freeOk_eq free hx, fun _ _ he => see.get he⟩
theorem filter_true {α : Type} {l : List α} : l.filter (fun _ => true) = l := by simp
end Mine
end

section
set_option maxRecDepth 100000
set_option linter.unusedVariables false
set_option tactic.hygienic false
namespace Mine
open PySem PySem.Calls PyProof.Rows PySem.W PySem.SeqAt

noncomputable def unI : D → Int
  | .int i => i
  | _ => 0
theorem unI_int (i : Int) : unI (.int i) = i := rfl
/-- 0 .. m - 1 -/
noncomputable def nums (m : Nat) : List Int := (List.range m).map fun i : Nat => (i : Int)
theorem nums_length (m : Nat) : (nums m).length = m := by simp [nums]
theorem rng_nums (m : Nat) : rng 0 1 m = (nums m).map .int := by
  unfold rng nums
  rw [List.map_map]
  congr 1
  funext i
  show D.int (0 + (i : Nat) * 1) = D.int (i : Int)
  congr 1
  (first | lia | omega)
section
variable {C : Cx} {n : Nat} {env : Env} {σ : Sto} {O₀ Ow : List Addr} {N : List Addr → Sto → Prop} {R : D → Prop} {rest : List Stmt}
theorem It.eq {e : Expr} {ds es : List D} (h : It C n env σ e ds) (q : ds = es) : It C n env σ e es := q ▸ h
/-- range(e) -/
theorem It.nums {f : Str} {p pos : Pos} {e : Expr} {m : Nat} (ge : GE env) (gv : GV C f (.type "range")) (h : Ev C n env σ e (.int m)) (hm : m ≤ 1000000)
    (hx : env.kindOf f = some .globalImplicit := by rfl) (he : starEach [e] env = [(false, eval e env)] := by rfl) (hd : (f == ("__debug__" : Str)) = false := by decide) : It C n env σ (.Call (.Name f p) [e] [] pos) ((Mine.nums m).map .int) :=
  (It.range1 ge gv h hm hx he hd).eq (rng_nums m)
theorem comp_eq {α : Type} (g : α → D) (inv : D → α) (hinv : ∀ a, inv (g a) = a) (l : List α) (p : α → Bool) (f : α → D) : ((l.map g).filter fun d => p (inv d)).map (fun d => f (inv d)) = (l.filter p).map f := by
  rw [List.filter_map, List.map_map]
  have e1 : ((fun d => p (inv d)) ∘ g) = p := by funext a; show p (inv (g a)) = p a; rw [hinv]
  have e2 : ((fun d => f (inv d)) ∘ g) = f := by funext a; show f (inv (g a)) = f a; rw [hinv]
  rw [e1, e2]
theorem Ev.compG {α : Type} (g : α → D) (inv : D → α) (hinv : ∀ a, inv (g a) = a) {l : List α} {elt target iter : Expr} {ifs : List Expr} {scope : Scope} {pos : Pos} (σc : Sto) (tgt : α → Sto) (p : α → Bool) (f : α → D)
    (it : It C n env σ iter (l.map g)) (se : Sees env scope σ σc)
    (hA : ∀ cenv, CE env scope cenv → ∀ a ∈ l, Asg C n cenv target (g a) (tgt a)) (hT : ∀ cenv, CE env scope cenv → ∀ a ∈ l, Trs C n cenv (tgt a ++ σc) ifs (p a)) (hE : ∀ cenv, CE env scope cenv → ∀ a ∈ l, p a = true → Ev C n cenv (tgt a ++ σc) elt (f a))
    (hz : l.length ≤ 1000000) (htg : ∀ a x e, σc.lookup x = some e → (tgt a ++ σc).lookup x = some e)
    (hown : ∀ (A : Around) (I : Addr) (s : Shared) (v : Value) (Q : Unit → Shared → Prop), IsIt s.heap I → Q () s → wpAny C.M A (letOwnedTupleGo target (.ref I) v) Q NoE s)
    (hcell : ∀ y ∈ scope.names, y.2 ≠ .cell := by decide) (hkind : scope.kind = .function := by rfl) (hnames : ∀ y ∈ scope.names, y.2 = .local → scope.names.lookup y.1 = some .local := by decide)
    (hs : ∀ x, foldedSetIterable iter env x = pure x := by intro _; rfl) :
    Ev C n env σ (.ListComp elt [⟨target, iter, ifs, 0⟩] scope pos) (.list ((l.filter p).map f)) := by
  rw [← comp_eq g inv hinv l p f]
  refine .comp σc (fun d => tgt (inv d)) _ _ it se hcell hkind hnames hs (fun d x e h => htg _ x e h) (fun cenv ce d hd => ?_) (fun cenv ce d hd => ?_) (fun cenv ce d hd hp => ?_) (by rw [List.length_map]; exact hz) hown
  all_goals (obtain ⟨a, ha, rfl⟩ := List.mem_map.mp hd)
  · rw [hinv]; exact hA cenv ce a ha
  · rw [hinv]; exact hT cenv ce a ha
  · rw [hinv] at hp ⊢; exact hE cenv ce a ha hp
theorem htg_name {x : Str} {σc : Sto} (hxc : σc.lookup x = none) {d : D} (y : Str) (e : Ent) (h : σc.lookup y = some e) : ([(x, Ent.val d)] ++ σc).lookup y = some e := by
  have : y ≠ x := fun q => by rw [q, hxc] at h; cases h
  exact (lookup_ne this).trans h
theorem Ev.compI {ns : List Int} {elt iter : Expr} {x : Str} {px : Pos} {ifs : List Expr} {scope : Scope} {pos : Pos} (σc : Sto) (p : Int → Bool) (f : Int → D)
    (it : It C n env σ iter (ns.map .int)) (se : Sees env scope σ σc)
    (hT : ∀ cenv, CE env scope cenv → ∀ i ∈ ns, Trs C n cenv ((x, .val (.int i)) :: σc) ifs (p i)) (hE : ∀ cenv, CE env scope cenv → ∀ i ∈ ns, p i = true → Ev C n cenv ((x, .val (.int i)) :: σc) elt (f i))
    (hz : ns.length ≤ 1000000) (hxc : σc.lookup x = none := by rfl)
    (hx : scope.names.lookup x = some .local := by rfl)
    (hcell : ∀ y ∈ scope.names, y.2 ≠ .cell := by decide) (hkind : scope.kind = .function := by rfl) (hnames : ∀ y ∈ scope.names, y.2 = .local → scope.names.lookup y.1 = some .local := by decide)
    (hs : ∀ x, foldedSetIterable iter env x = pure x := by intro _; rfl) :
    Ev C n env σ (.ListComp elt [⟨.Name x px, iter, ifs, 0⟩] scope pos) (.list ((ns.filter p).map f)) :=
  .compG .int unI unI_int σc (fun i => [(x, .val (.int i))]) p f it se (fun cenv ce d hd => .name (ce.kind hx (by decide))) hT hE hz (fun i => htg_name hxc) (fun A I s v Q => own_name I s v Q) hcell hkind hnames hs
/-- y = [..] over ints, stored ahead -/
theorem Ex.setCompI {ns : List Int} {elt iter : Expr} {x y : Str} {px py : Pos} {ifs : List Expr} {scope : Scope} {pos spos : Pos} (σc : Sto) (p : Int → Bool) (f : Int → D)
    (it : It C n env σ iter (ns.map .int)) (se : Sees env scope σ σc)
    (hT : ∀ cenv, CE env scope cenv → ∀ i ∈ ns, Trs C n cenv ((x, .val (.int i)) :: σc) ifs (p i)) (hE : ∀ cenv, CE env scope cenv → ∀ i ∈ ns, p i = true → Ev C n cenv ((x, .val (.int i)) :: σc) elt (f i))
    (hz : ns.length ≤ 1000000) (k : Ex C n env O₀ Ow ((y, .val (.list ((ns.filter p).map f))) :: σ) rest N R) (hxc : σc.lookup x = none := by rfl)
    (hx : scope.names.lookup x = some .local := by rfl)
    (hcell : ∀ y ∈ scope.names, y.2 ≠ .cell := by decide) (hkind : scope.kind = .function := by rfl) (hnames : ∀ y ∈ scope.names, y.2 = .local → scope.names.lookup y.1 = some .local := by decide)
    (hs : ∀ x, foldedSetIterable iter env x = pure x := by intro _; rfl) (hy : env.kindOf y = some .local := by rfl)
    (hsw : swapsWith (.ListComp elt [⟨.Name x px, iter, ifs, 0⟩] scope pos) (some (.Name y py)) spos.line env = pure true := by rfl) :
    Ex C n env O₀ Ow σ (.Assign [.Name y py] (.ListComp elt [⟨.Name x px, iter, ifs, 0⟩] scope pos) spos :: rest) N R := by
  refine .one ?_ k
  rw [← comp_eq .int unI unI_int ns p f]
  refine .assignCompN σc (fun d => p (unI d)) (fun d => f (unI d)) it se (fun cenv ce d hd => ?_) (fun cenv ce d hd hp => ?_) (by rw [List.length_map]; exact hz) hxc ⟨rfl, rfl⟩ hx hcell hkind hnames hs hy hsw
  all_goals (obtain ⟨a, ha, rfl⟩ := List.mem_map.mp hd)
  · exact hT cenv ce a ha
  · exact hE cenv ce a ha hp
end
end Mine
end

section
set_option maxRecDepth 100000
set_option linter.unusedVariables false
set_option tactic.hygienic false
namespace Mine
open PySem PySem.Calls PyProof.Rows PySem.W PySem.SeqAt
section
variable {C : Cx} {n : Nat} {env : Env} {σ : Sto} {O₀ Ow : List Addr} {N : List Addr → Sto → Prop} {R : D → Prop} {rest : List Stmt}
/-- x = [] -/
theorem Ex.newOwn {x : Str} {p lp pos : Pos} (k : ∀ a, a ∉ O₀ → Ex C n env O₀ (a :: Ow) ((x, .own a []) :: σ) rest N R) (hx : env.kindOf x = some .local := by rfl) (hs : swapsWith (.List [] lp) (some (.Name x p)) pos.line env = pure false := by rfl) : Ex C n env O₀ Ow σ (.Assign [.Name x p] (.List [] lp) pos :: rest) N R :=
  .cons (N₁ := fun o s => ∃ a, a ∉ O₀ ∧ o = a :: Ow ∧ s = (x, .own a []) :: σ) (.newOwn (fun a ha => ⟨a, ha, rfl, rfl⟩) hx hs) (by rintro _ _ ⟨a, ha, rfl, rfl⟩; exact k a ha)
/-- an own list that is turned no more, the frame's only one -/
theorem Ex.freeze {ss : List Stmt} {x : Str} {a : Addr} {ds : List D} (e : σ.lookup x = some (.own a ds)) (hO : a ∉ O₀) (h : Ex C n env O₀ [] ((x, .val (.list ds)) :: σ) ss N R) (hu : onlyOwn x σ = true := by rfl) : Ex C n env O₀ [a] σ ss N R :=
  Fl.freeze e hu hO (by rw [show [a].filter (· != a) = [] from by simp]; exact h)
end
end Mine
end

section
set_option maxRecDepth 100000
set_option linter.unusedVariables false
set_option tactic.hygienic false
namespace Mine
open PySem PySem.Calls PyProof.Rows PySem.W PySem.SeqAt

/-! bytes -/
theorem slot_bytes_translate : Slot "bytes" "translate" "bytes.translate" :=
  .of (owner := "bytes") (n := "translate") (by rw [typeLookup_type, builtinLookup_eq_fast]; kernel_rfl) (by decide +kernel) (by decide +kernel) (by decide +kernel)
    (by first | exact .inl (by decide +kernel) | exact .inr (by decide +kernel)) (by rw [isSubtype_type]; kernel_rfl)
theorem entry_bytes_translate : entryFor table "bytes.translate" = some Builtin.«bytes.translate» := entryFor_of_tree (by kernel_rfl)
theorem entry_bytes_maketrans : entryFor table "bytes.maketrans" = some Builtin.«bytes.maketrans» := entryFor_of_tree (by kernel_rfl)
theorem args_translate (a b : Value) : argsOk "bytes.translate" ⟨[a, b], []⟩ := by unfold argsOk; kernel_rfl
theorem check_maketrans (a b : Value) : checkBuiltinCall "bytes.maketrans" ⟨[a, b], []⟩ = pure () := by kernel_rfl
theorem plain_maketrans : plainId "bytes.maketrans" = true := by decide +kernel
theorem type_bytes_translate : typeOf (.builtin "bytes.translate") = pure (.type "method_descriptor") := by show builtinType _ = _; rw [builtinType_eq_fast]; kernel_rfl
theorem find_maketrans : findCls [] (.type "bytes") (.type "type") (Str.ofString "maketrans") = some (.val (.builtin "bytes.maketrans")) := by kernel_rfl
theorem type_bytes_type : typeOf (.type "bytes") = pure (.type "type") := by kernel_rfl
theorem stub_bytes : Manifest.isStub "bytes" = false := by decide +kernel
theorem handed_maketrans : handedIn (.builtin "bytes.maketrans") = true := by decide +kernel

noncomputable def transTable (frm to : Array UInt8) : Array UInt8 := (frm.toList.zip to.toList).foldl (fun t (f, x) => t.setIfInBounds f.toNat x) ((Array.range 256).map (·.toUInt8))
noncomputable def translated (b t : Array UInt8) : Array UInt8 := b.map fun c => t.getD c.toNat c
theorem transTable_size (frm to : Array UInt8) : (transTable frm to).size = 256 := by
  unfold transTable
  generalize frm.toList.zip to.toList = l
  have key : ∀ (l : List (UInt8 × UInt8)) (t : Array UInt8), (l.foldl (fun t (f, x) => t.setIfInBounds f.toNat x) t).size = t.size := by
    intro l
    induction l with
    | nil => intro t; rfl
    | cons y r ih => intro t; rw [List.foldl_cons, ih]; simp
  rw [key]
  simp
theorem meets_maketrans {frm to : Array UInt8} {t u : Tok} (hs : frm.size = to.size) : Meets (Builtin.«bytes.maketrans» ⟨[.bytes frm t, .bytes to u], []⟩) (fun _ R s => ∀ t' k, R (.ok (.ret (.bytes (transTable frm to) t'))) { s with toks := k }) := by
  refine .of_wp fun prog w A R s h => ?_
  show wpAny _ _ (Builtin.Bytes.maketransM .bytes ⟨[.bytes frm t, .bytes to u], []⟩) _ _ s
  unfold Builtin.Bytes.maketransM
  refine wpAny_bind (wpAny_of_eq (a := ()) rfl ?_)
  refine wpAny_bind (wpAny_of_eq (a := ()) rfl ?_)
  refine wpAny_bind (wpAny_of_eq (a := frm) KBd.like_eq ?_)
  refine wpAny_bind (wpAny_of_eq (a := to) KBd.like_eq ?_)
  have : (frm.size != to.size) = false := by simp [hs]
  dsimp only
  rw [this, if_neg (by decide)]
  refine wpAny_bind ?_
  show wpAny _ _ (mkBytes (transTable frm to)) _ _ s
  unfold mkBytes
  rw [if_neg (by rw [transTable_size, sizeLine_eq]; decide)]
  exact wpAny_bind (wpAny_fresh (wpAny_pure (wpAny_pure ⟨_, rfl, h _ _⟩)))
set_option maxHeartbeats 2000000 in
theorem meets_translate {b tb : Array UInt8} {t u : Tok} (ht : tb.size = 256) (hb : b.size ≤ 1000000) : Meets (Builtin.«bytes.translate» ⟨[.bytes b t, .bytes tb u], []⟩) (fun _ R s => ∀ t' k, R (.ok (.ret (.bytes (translated b tb) t'))) { s with toks := k }) := by
  refine .of_wp fun prog w A R s h => ?_
  show wpAny _ _ (Builtin.Bytes.translateM .bytes ⟨[.bytes b t, .bytes tb u], []⟩) _ _ s
  have ht' : (tb.size != 256) = false := by simp [ht]
  have hd : b.filter (fun c => !(#[] : Array UInt8).contains c) = b := by
    apply Array.toList_inj.mp
    rw [Array.toList_filter, List.filter_eq_self]
    intro c _
    simp
  unfold Builtin.Bytes.translateM
  dsimp only
  rw [if_neg (by simp), if_neg (by simp), if_neg (by intro z; cases z)]
  refine wpAny_bind (wpAny_of_eq (a := tb) KBd.like_eq ?_)
  rw [ht', if_neg (by decide)]
  refine wpAny_bind (wpAny_pure ?_)
  refine wpAny_bind (m := pure #[]) (wpAny_pure ?_)
  refine wpAny_bind (wpAny_of_eq (a := b) rfl ?_)
  rw [hd]
  show wpAny _ _ (if (translated b tb == b) = true then _ else _) _ _ s
  by_cases q : (translated b tb == b) = true
  · rw [if_pos q]
    have q' : translated b tb = b := by simpa using q
    rw [q'] at h
    refine wpAny_bind (wpAny_rule (wpAny_bind (wpAny_of_eq (a := Value.bytes b t) rfl ?_)))
    exact wpAny_pure ⟨_, rfl, h t s.toks⟩
  · rw [if_neg q]
    refine wpAny_bind ?_
    show wpAny _ _ (mkBytes (translated b tb)) _ _ s
    unfold mkBytes
    rw [if_neg (by unfold translated; rw [Array.size_map, sizeLine_eq]; (first | lia | omega))]
    exact wpAny_bind (wpAny_fresh (wpAny_pure (wpAny_pure ⟨_, rfl, h _ _⟩)))
/-! the calls -/
section
variable {C : Cx} {n : Nat} {env : Env} {σ : Sto}

set_option maxHeartbeats 2000000 in
theorem Ev.maketrans {e f : Expr} {p ap cp : Pos} {frm to : Array UInt8} {pl : Sem Bool} (ge : GE env) (gv : GV C "bytes" (.type "bytes")) (h₁ : Ev C n env σ e (.bytes frm)) (h₂ : Ev C n env σ f (.bytes to)) (hs : frm.size = to.size)
    (hc : ∀ {A : Around} {s : Shared} {Q : Value → Shared → Prop}, wpAny C.M A (eval (.Name "bytes" p) env) (fun ov s₁ => wpAny C.M A (getMethod ov (Str.ofString "maketrans") pl) (fun fx s₂ => wpAny C.M A (callWith cp fx.1 fx.2 (backTo cp (starEach [e, f] env)) (backToKw cp (keywordEach [] env))) Q NoE s₂) NoE s₁) NoE s →
      wpAny C.M A (eval (.Call (.Attribute (.Name "bytes" p) (Str.ofString "maketrans") ap) [e, f] [] cp) env) Q NoE s)
    (hx : env.kindOf "bytes" = some .globalImplicit := by rfl) (he : starEach [e, f] env = (false, eval e env) :: starEach [f] env := by rfl) (hf : starEach [f] env = (false, eval f env) :: starEach [] env := by rfl) :
    Ev C n env σ (.Call (.Attribute (.Name "bytes" p) (Str.ofString "maketrans") ap) [e, f] [] cp) (.bytes (transTable frm to)) := fun A O Ow s Q g q => by
  refine hc ?_
  obtain ⟨m, hm⟩ := g.r.ok.ns
  refine Mine.glob ge hx gv g.w ?_
  have F : Fr { objs := #[] } env.locals s.heap m := ⟨hm, fun b o e => (by cases e), Nat.zero_le _⟩
  refine method_type (K := []) F (fun _ _ e => by cases e) type_bytes_type stub_bytes find_maketrans handed_maketrans ?_
  have k₁ : SK C.TB s { s with toks := s.toks + 1 } := .toks _
  have g₁ := g.sk k₁
  show wpAny C.M A (callWith cp (.builtin "bytes.maketrans") [] (backTo cp (starEach [e, f] env)) []) Q NoE _
  have hpl : (backTo cp (starEach [e, f] env)).any (·.1) = false := by rw [he, hf]; rfl
  refine callWith_builtin hpl (evalArgs_of (Evs.cons h₁ (Evs.cons h₂ Evs.nil hf) he) he g₁ fun vs s' k is => ?_)
  cases is with
  | cons i₁ is =>
  cases is with
  | cons i₂ is =>
  cases is
  cases i₁
  cases i₂
  show wpAny C.M A (call (.builtin "bytes.maketrans") [.bytes frm _, .bytes to _]) Q NoE s'
  refine wpAny_call ?_
  refine codeAny_call_builtin plain_maketrans entry_bytes_maketrans ?_
  show wpAny _ _ (checkBuiltinCall "bytes.maketrans" ⟨[.bytes frm _, .bytes to _], []⟩) _ _ _
  rw [check_maketrans]
  exact wpAny_pure (meets_maketrans hs C.prog C.w A (wants Q NoE) s' fun t' k' => q _ _ ((k₁.trans k).trans (.toks _)) (.bytes _ _))
/-- x.translate(e) -/
theorem Ev.translate {o e : Expr} {ap cp : Pos} {b tb : Array UInt8} (h₁ : Ev C n env σ o (.bytes b)) (h₂ : Ev C n env σ e (.bytes tb)) (ht : tb.size = 256) (hb' : b.size ≤ 1000000) (hs : starEach [e] env = [(false, eval e env)] := by rfl) (hline : (ap.endLine == cp.line) = true := by rfl) (hb : attributeBase o (Str.ofString "translate") env (eval o env) = eval o env := by rfl) :
    Ev C n env σ (.Call (.Attribute o (Str.ofString "translate") ap) [e] [] cp) (.bytes (translated b tb)) := fun A O Ow s Q g q => by
  refine Call_method1 hb hs hline (h₁ A O Ow s _ g fun v s₁ k₁ i₁ => ?_)
  cases i₁
  refine ⟨"bytes", _, PySem.W.FB.plainAttrs_bytes, slot_bytes_translate, type_bytes_translate, typeIs_bytes _ _ _, (fun b hb => by cases hb), ?_⟩
  refine seqMethod1_meets slot_bytes_translate entry_bytes_translate (h₂ A O Ow s₁ _ (g.sk k₁) fun v s₂ k₂ i₂ => ?_)
  cases i₂
  exact ⟨typeIs_bytes _ _ _, args_translate _ _, _, meets_translate ht hb', fun t' k => q _ _ ((k₁.trans k₂).trans (.toks _)) (.bytes _ _)⟩
/-- over bytes -/
theorem It.bytes {e : Expr} {b : Array UInt8} (h : Ev C n env σ e (.bytes b)) : It C n env σ e ((KBw.bInts b).map .int) := fun A O Ow s Q g q => by
  refine h A O Ow s _ g fun v s₁ k i => ?_
  cases i with
  | bytes _ t =>
  refine KBw.pyIter_bytes ?_
  have g₁ := g.sk k
  have g₂ := g₁.sk (SK.push (TB := C.TB) (s := s₁) { cls := .type "bytes_iterator", data := .fields #[.bytes b t, .int 0 0] })
  have W := KBw.walks (prog := C.prog) (w := C.w) g.a.hd s₁.heap.objs.size b t
  have hlen : ((KBw.bInts b).map D.int).length = b.size := by rw [List.length_map, KBw.ints_length]
  rw [← hlen] at W
  refine q _ _ (k.trans (.push _)) ⟨_, _, _, W, ⟨_, Heap.get?_push_size _ rfl, rfl, rfl⟩, k.kp.none_of g.w.tb, fun c hc => ?_, ?_, ?_⟩
  · rw [List.mem_singleton] at hc
    subst hc
    exact ⟨g₂.w.tb.apart (Heap.get?_push_size _ rfl) (fun ⟨ps, q⟩ => by cases q), g₁.newO, _, Heap.get?_push_size _ rfl, (fun _ _ q => by cases q), fun _ q => by cases q⟩
  · rintro h₂ dk i v d ⟨c, u, hc, rfl⟩ hd
    rw [List.getElem?_map, KBw.ints_get hc] at hd
    cases hd
    exact .int _ _
  · rintro i h₂ ⟨o, e, hc, hd⟩
    exact ⟨o, _, _, e, hc, hd, .inr (.inr rfl)⟩
end
end Mine
end

section
set_option maxRecDepth 100000
set_option linter.unusedVariables false
set_option tactic.hygienic false
namespace Mine
open PySem PySem.Calls PyProof.Rows PySem.W PySem.SeqAt
/-- the expression gives just that value -/
noncomputable def EvR (C : Cx) (n : Nat) (env : Env) (σ : Sto) (e : Expr) (v : Value) : Prop :=
  ∀ (A : Around) (O Ow : List Addr) (s : Shared) (Q : Value → Shared → Prop), Good C n A O Ow env σ s →
    (∀ s', SK C.TB s s' → Q v s') → wpAny C.M A (eval e env) Q NoE s
section
variable {C : Cx} {n : Nat} {env : Env} {σ : Sto} {O₀ Ow : List Addr} {N : List Addr → Sto → Prop} {R : D → Prop} {rest : List Stmt}
theorem EvR.name {x : Str} {pos : Pos} {v : Value} (h : σ.lookup x = some (.raw v)) (hd : (x == ("__debug__" : Str)) = false := by decide) (hc : (x == Str.ofString "__classdict__") = false := by decide) : EvR C n env σ (.Name x pos) v := fun A O Ow s Q g q => by
  have l := g.r.raw x v h
  refine wpAny_Name ?_ hd
  rcases l with ⟨k, m, ns, e⟩ | ⟨k | k, c, e, ic⟩
  · exact wpAny_loadName_local g.r.ok.fn k ns e (q _ (.refl _ _))
  · exact wpAny_loadName_cell g.r.ok.fn k e ic (q _ (.refl _ _))
  · exact wpAny_loadName_free g.r.ok.fn k e ic (q _ (.refl _ _)) hc
theorem EvR.glob {x : Str} {p : Pos} {v : Value} (ge : GE env) (gv : GV C x v) (hx : env.kindOf x = some .globalImplicit := by rfl) (hd : (x == ("__debug__" : Str)) = false := by decide) : EvR C n env σ (.Name x p) v := fun A O Ow s Q g q =>
  Mine.glob ge hx gv g.w (q _ (.refl _ _)) hd
theorem EvR.bool {e : Expr} {b : Bool} (h : Ev C n env σ e (.bool b)) : EvR C n env σ e (.bool b) := fun A O Ow s Q g q => h A O Ow s _ g fun v s' k i => by cases i; exact q s' k
theorem EvR.none {k : Nat} {pos : Pos} : EvR C n env σ (.Constant .none k pos) .none := fun A O Ow s Q g q => by
  rw [eval_Constant]; exact wpAny_pure (q _ (.refl _ _))
/-- type(e) -/
theorem EvR.type {e : Expr} {p pos : Pos} {b : Array UInt8} (ge : GE env) (gv : GV C "type" (.type "type")) (h : Ev C n env σ e (.bytes b))
    (hx : env.kindOf "type" = some .globalImplicit := by rfl) (he : starEach [e] env = (false, eval e env) :: starEach [] env := by rfl) (hp : (backTo pos (starEach [e] env)).any (·.1) = false := by rfl) : EvR C n env σ (.Call (.Name "type" p) [e] [] pos) (.type "bytes") := fun A O Ow s Q g q => by
  refine Call_Name rfl (Mine.glob ge hx gv g.w ?_)
  refine PySem.callWith_type hp (evalArgs_of (Evs.cons h Evs.nil he) he g fun vs s' k is => ?_)
  cases is with
  | cons x xs =>
  cases xs
  cases x
  exact call_type_of (typeIs_bytes _ _ _) (by decide) (q _ k)
theorem EvR.typeB {e : Expr} {p pos : Pos} {b : Bool} (ge : GE env) (gv : GV C "type" (.type "type")) (h : Ev C n env σ e (.bool b))
    (hx : env.kindOf "type" = some .globalImplicit := by rfl) (he : starEach [e] env = (false, eval e env) :: starEach [] env := by rfl) (hp : (backTo pos (starEach [e] env)).any (·.1) = false := by rfl) : EvR C n env σ (.Call (.Name "type" p) [e] [] pos) (.type "bool") := fun A O Ow s Q g q => by
  refine Call_Name rfl (Mine.glob ge hx gv g.w ?_)
  refine PySem.callWith_type hp (evalArgs_of (Evs.cons h Evs.nil he) he g fun vs s' k is => ?_)
  cases is with
  | cons x xs =>
  cases xs
  cases x
  exact call_type_of (PySem.typeIs_bool _ _) (by decide) (q _ k)
theorem Tr.is {l r : Expr} {pos : Pos} {a b : Value} (h₁ : EvR C n env σ l a) (h₂ : EvR C n env σ r b) (hp : PySem.plainIs a b = true := by rfl) (hm : behindInMarks .Is r = false := by with_unfolding_all rfl) : Tr C n env σ (.Compare l [.Is] [r] pos) (a == b) := fun A O Ow s Q g q =>
  wpAny_isTrue_Compare1 (h₁ A O Ow s _ g fun s₁ k₁ => h₂ A O Ow s₁ _ (g.sk k₁) fun s₂ k₂ => wpAny_is_plain hp (wpAny_truthy_bool (q s₂ (k₁.trans k₂)))) hm
/-- bytes are not None -/
theorem Tr.notNone {l : Expr} {kk : Nat} {p pos : Pos} {b : Array UInt8} (h₁ : Ev C n env σ l (.bytes b)) (hm : behindInMarks .IsNot (.Constant .none kk p) = false := by with_unfolding_all rfl) : Tr C n env σ (.Compare l [.IsNot] [.Constant .none kk p] pos) true := fun A O Ow s Q g q =>
  wpAny_isTrue_Compare1 (h₁ A O Ow s _ g fun v s₁ k₁ i => by
    cases i
    rw [eval_Constant]
    exact wpAny_pure (wpAny_isNot_other rfl (by intro z; cases z) (wpAny_truthy_bool (q s₁ k₁)))) hm
/-- x = e, just that value -/
theorem Ex.setR {x : Str} {e : Expr} {p pos : Pos} {v : Value} (h : EvR C n env σ e v) (k : Ex C n env O₀ Ow ((x, .raw v) :: σ) rest N R) (hx : env.kindOf x = some .local := by rfl) (hs : swapsWith e (some (.Name x p)) pos.line env = pure false := by rfl) : Ex C n env O₀ Ow σ (.Assign [.Name x p] e pos :: rest) N R := by
  refine .one (Ow' := Ow) (σ' := (x, .raw v) :: σ) (fun A s Q g qn qr => ?_) k
  refine wpAny_Assign_Name (h A (Ow ++ O₀) Ow s _ g.g fun s₁ k => ?_) hs
  have g₁ := g.sk k
  refine storeL (en := .raw v) g₁.g.r g₁.g.w.tb hx rfl fun h' tk ks r => ?_
  exact qn _ _ _ ⟨rfl, rfl⟩ ((k.ss g.g.w.tb).trans (Ow' := Ow) (ss_store g₁.g.w.tb ks Mu.loc r.ok.loc) .refl) .refl r
end
end Mine
end

section
set_option maxRecDepth 100000
set_option linter.unusedVariables false
set_option tactic.hygienic false
namespace Mine
open PySem PySem.Calls PyProof.Rows PySem.W PySem.SeqAt
section
variable {C : Cx} {n : Nat} {env : Env} {σ : Sto}
/-- a call of a def with one plain and one named argument -/
theorem Ev.callKw {f k : Str} {p pos : Pos} {e e₂ : Expr} {kws : List Keyword} {x : Sem Value} {a : Addr} {d₁ d₂ d : D} (ge : GE env) (gv : GV C f (.ref a)) (fo : FnObj C a) (h₁ : Ev C n env σ e d₁) (h₂ : Ev C n env σ e₂ d₂)
    (hf : ∀ (A : Around) (O : List Addr) (s : Shared) (v₁ v₂ : Value) (Q : Value → Shared → Prop), AOk n A → Wd C.K C.TB s.heap → OOk O s.heap → Is O s.heap v₁ d₁ → Is O s.heap v₂ d₂ → (∀ v s', SK C.TB s s' → Is O s'.heap v d → Q v s') → wpAny C.M A (call (.ref a) [v₁] [(k, v₂)]) Q NoE s)
    (hk : backToKw pos (keywordEach kws env) = [(some k, x)]) (hxe : ∀ {A : Around} {s : Shared} {Q : Value → Shared → Prop}, wpAny C.M A (eval e₂ env) Q NoE s → wpAny C.M A x Q NoE s)
    (hx : env.kindOf f = some .globalImplicit := by rfl) (he : starEach [e] env = (false, eval e env) :: starEach [] env := by rfl) (hd : (f == ("__debug__" : Str)) = false := by decide) :
    Ev C n env σ (.Call (.Name f p) [e] kws pos) d := fun A O Ow s Q g q => by
  refine wpAny_bind (Mine.glob ge hx gv g.w ?_ hd)
  show wpAny C.M A (callWith pos (.ref a) [] (backTo pos (starEach [e] env)) (backToKw pos (keywordEach kws env))) Q NoE s
  obtain ⟨o, fd, ho, hfd⟩ := fo
  have E1 := (Evs.cons h₁ Evs.nil he) pos A O Ow s
  rw [hk]
  rw [he] at E1 ⊢
  refine callWith_function_kw (o := o) (fd := fd) (evalArgs_kw rfl (E1 _ g fun vs s₁ k₁ is => ?_))
  refine wpAny_evalAll_cons (hxe (h₂ A O Ow s₁ _ (g.sk k₁) fun v₂ s₂ k₂ i₂ => wpAny_evalAll_nil ?_))
  have g₂ := (g.sk k₁).sk k₂
  have is' := is.kp k₂.kp (g.sk k₁).w.tb
  cases is' with
  | cons i₁ is =>
  cases is
  exact ⟨⟨g₂.w.k a o ho, hfd⟩, hf A O s₂ _ v₂ Q g.a g₂.w g₂.r.ex i₁ i₂ fun v s' k i => q v s' ((k₁.trans k₂).trans k) i⟩
end
end Mine
end

section
set_option maxRecDepth 100000
set_option linter.unusedVariables false
set_option tactic.hygienic false
namespace Mine
open PySem PySem.Calls PyProof.Rows PySem.W PySem.SeqAt
/-! bits, plainly -/
theorem and_mask {x : Int} (hx : 0 ≤ x) (k : Nat) : Builtin.bitAnd x ((2 ^ k - 1 : Nat) : Int) = x % 2 ^ k := by
  unfold Builtin.bitAnd
  have h2 : (0 : Int) ≤ ((2 ^ k - 1 : Nat) : Int) := Int.natCast_nonneg _
  rw [decide_eq_true hx, decide_eq_true h2]
  show (((x.toNat &&& (((2 ^ k - 1 : Nat) : Int)).toNat : Nat)) : Int) = x % 2 ^ k
  rw [Int.toNat_natCast, Nat.and_two_pow_sub_one_eq_mod]
  obtain ⟨m, rfl⟩ := Int.eq_ofNat_of_zero_le hx
  rw [Int.toNat_natCast]
  push_cast
  rfl
theorem and63 {x : Int} (hx : 0 ≤ x) : Builtin.bitAnd x 63 = x % 64 := and_mask hx 6
theorem and65535 {x : Int} (hx : 0 ≤ x) : Builtin.bitAnd x 65535 = x % 65536 := and_mask hx 16
theorem or_add {c b : Int} (hc : 0 ≤ c) (hb : 0 ≤ b) (hb2 : b < 256) : Builtin.bitOr (c * 256) b = c * 256 + b := by
  obtain ⟨c, rfl⟩ := Int.eq_ofNat_of_zero_le hc
  obtain ⟨b, rfl⟩ := Int.eq_ofNat_of_zero_le hb
  have hb' : b < 2 ^ 8 := by (first | lia | omega)
  unfold Builtin.bitOr Builtin.bitAnd
  have e1 : ¬ (0 : Int) ≤ Builtin.bitNot ((c : Int) * 256) := by unfold Builtin.bitNot; (first | lia | omega)
  have e2 : ¬ (0 : Int) ≤ Builtin.bitNot (b : Int) := by unfold Builtin.bitNot; (first | lia | omega)
  rw [decide_eq_false e1, decide_eq_false e2]
  show Builtin.bitNot (Builtin.bitNot (((Builtin.bitNot (Builtin.bitNot ((c : Int) * 256))).toNat ||| (Builtin.bitNot (Builtin.bitNot (b : Int))).toNat : Nat) : Int)) = _
  have nn : ∀ x : Int, Builtin.bitNot (Builtin.bitNot x) = x := fun x => by unfold Builtin.bitNot; (first | lia | omega)
  rw [nn, nn, nn]
  have e3 : ((c : Int) * 256).toNat = c <<< 8 := by rw [Nat.shiftLeft_eq]; (exact rfl)
  rw [e3, Int.toNat_natCast, ← Nat.shiftLeft_add_eq_or_of_lt hb', Nat.shiftLeft_eq]
  push_cast
  rfl
end Mine
end

section
set_option maxRecDepth 100000
set_option linter.unusedVariables false
set_option tactic.hygienic false
namespace Mine
open PySem PySem.Calls PyProof.Rows PySem.W PySem.SeqAt
/-! generators: statements of a generator's text -/
section
variable {prog : Program} {w : World} {A : Around} {R : GenEnd} {Y : Protocol} {n : Nat} {s₀ : Shared} {c : Code} {fs : List Frame} {s : Shared} {env : Env}
  {K : Flow → Sem Fin} {H : Value → Sem Fin} {gd : Bool → Bool} {lv : List Value → List Value}
theorem seg_stmt {st : Stmt} {rest : List Stmt} (h : wpAny (model prog w) (A.over c fs) (exec st env) (fun f s' => f = .next ∧ Seg (model prog w) A R Y n s₀ c ((execs rest env).wrap K H gd lv) fs s') NoE s) :
    Seg (model prog w) A R Y n s₀ c ((execs (st :: rest) env).wrap K H gd lv) fs s := by
  refine seg_execs_cons (seg_wrap (wpAny_mono h (fun f s' h' => ?_) fun _ _ x => x.elim))
  obtain ⟨rfl, h'⟩ := h'
  exact h'
theorem seg_If {t : Expr} {body orelse : List Stmt} {pos : Pos} {b : Bool} (h : wpAny (model prog w) (A.over c fs) (isTrue t env (eval t env)) (fun b' s' => b' = b ∧ Seg (model prog w) A R Y n s₀ c ((execs (if b = true then body else orelse) env).wrap K H gd lv) fs s') NoE s) :
    Seg (model prog w) A R Y n s₀ c ((exec (.If t body orelse pos) env).wrap K H gd lv) fs s := by
  rw [exec_If]
  refine seg_bind_wrap (wpAny_standAt (seg_bind_wrap (wpAny_mono h (fun b' s' h' => ?_) fun _ _ x => x.elim)))
  obtain ⟨rfl, h'⟩ := h'
  cases b' with
  | true => rw [if_pos rfl] at h' ⊢; exact h'
  | false => rw [if_neg Bool.false_ne_true] at h' ⊢; exact h'
theorem seg_For {target iter : Expr} {body orelse : List Stmt} {pos : Pos}
    (h : wpAny (model prog w) (A.over c fs) (eval iter env) (fun x s₁ => wpAny (model prog w) (A.over c fs) (pyIter x) (fun it s₂ =>
      ∀ p, Seg (model prog w) A R Y n s₀ (.forLoop target it body orelse env) ((model prog w).den (.forLoop target it body orelse env))
      (.ret (fun r => ((match r with | .ok f => (.pure f : Sem Flow) | .error e => .raise e).onRaise fun (x : Value) => do
        if (← field x 1) == Value.none then unsupported "frame.own-activation:exception-without-traceback"
        setFlight x env.frame).wrap K H gd lv) none (gd false) (lv []) c p [] :: fs) s₂) NoE s₁) NoE s)
    (hs : ∀ x, foldedSetIterable iter env x = pure x := by intro _; rfl) :
    Seg (model prog w) A R Y n s₀ c ((exec (.For target iter body orelse pos) env).wrap K H gd lv) fs s := by
  rw [exec_For]
  refine seg_bind_wrap (wpAny_standAt (seg_bind_wrap (wpAny_mono h (fun x s₁ h₁ => ?_) fun _ _ x => x.elim)))
  refine seg_bind_wrap (wpAny_of_eq (hs x) (seg_bind_wrap (wpAny_standAt (seg_bind_wrap (wpAny_holding (wpAny_mono h₁ (fun it s₂ h₂ => ?_) fun _ _ x => x.elim))))))
  exact seg_call h₂
theorem seg_forLoop {target : Expr} {it : Value} {body : List Stmt}
    (h : wpAny (model prog w) (A.over (.forLoop target it body [] env) fs) (pyNext it) (fun r s₁ => match r with
      | none => Seg (model prog w) A R Y n s₀ (.block [] env) (.pure (.done .next)) fs s₁
      | some v => wpAny (model prog w) (A.over (.forLoop target it body [] env) fs) (letOwnedTupleGo target it v) (fun _ s₂ => wpAny (model prog w) (A.over (.forLoop target it body [] env) fs) (assign target env v) (fun _ s₃ =>
          Seg (model prog w) A R Y n s₀ (.forLoop target it body [] env) ((execs body env).wrap (fun f => match f with
            | .next | .cont => .pure (.again (.forLoop target it body [] env))
            | .brk => .pure (.done .next)
            | .ret v => .pure (.done (.ret v))) (fun e => (do noteFrame e env; theTreesLotGoes e : Sem Unit).wrap (fun _ => .raise e) .raise id id) id id) fs s₃) NoE s₂) NoE s₁) NoE s) :
    Seg (model prog w) A R Y n s₀ (.forLoop target it body [] env) ((model prog w).den (.forLoop target it body [] env)) fs s := by
  show Seg _ A R Y n s₀ _ ((forTurn target it body [] env).onRaise (fun x => do noteFrame x env; theTreesLotGoes x)) fs s
  unfold forTurn
  rw [Sem.onRaise_eq_wrap]
  refine seg_bind_wrap (wpAny_standAt (seg_bind_wrap (wpAny_onRaise (wpAny_mono h (fun r s₁ h₁ => ?_) fun _ _ x => x.elim))))
  cases r with
  | none =>
    refine seg_again rfl ?_
    exact h₁
  | some v =>
    refine seg_bind_wrap (wpAny_mono h₁ (fun _ s₂ h₂ => ?_) fun _ _ x => x.elim)
    refine seg_bind_wrap (wpAny_mono h₂ (fun _ s₃ h₃ => ?_) fun _ _ x => x.elim)
    rw [Sem.bind_eq_wrap', Sem.wrap_wrap]
    rw [Sem.wrap_congr (execs body env) _ _ (K' := fun f => match f with
            | .next | .cont => .pure (.again (.forLoop target it body [] env))
            | .brk => .pure (.done .next)
            | .ret v => .pure (.done (.ret v))) (H' := (fun e => (do noteFrame e env; theTreesLotGoes e : Sem Unit).wrap (fun _ => .raise e) .raise id id))
        (fun f => by cases f <;> rfl)
        (fun e => by first | exact Sem.bind_eq_wrap _ _ | (show (do noteFrame e env; theTreesLotGoes e : Sem Unit).bind (fun _ => .raise e) = _; rw [Sem.bind_eq_wrap]))]
    exact h₃
end
end Mine
end

section
set_option genInjectivity false
set_option genSizeOf false
set_option genSizeOfSpec false
set_option maxRecDepth 100000
set_option linter.unusedVariables false
namespace Mine
open PySem PySem.Calls PyProof.Rows PySem.W PySem.SeqAt
/-- the program's statements -/
noncomputable abbrev PB : List Stmt := PySem.Challenge.pw_om0015_02.main.body
/-- the table of signs -/
noncomputable def b64Bytes : List UInt8 :=
  match PB[8]? with
  | some (Stmt.Assign _ (Expr.Constant (Const.bytes b) _ _) _) => b
  | _ => []
/-- where a def of the top stands -/
structure DefA where
  a : Addr
  pm : Value
  cd : Addr
noncomputable abbrev DefA.fd (d : DefA) (i : Nat) (df : Value := .none) (kw : Value := .none) : FuncData := fdOf PB i d.pm d.cd df kw
structure DefAt (C : Cx) (x : Str) (i : Nat) (d : DefA) (df : Value := .none) (kw : Value := .none) : Prop where
  gv : GV C x (.ref d.a)
  fk : FnK C d.a (d.fd i df kw)
structure Top (C : Cx) where
  st : Statics C
  len : GV C "len" (.builtin "len")
  range : GV C "range" (.type "range")
  sorted : GV C "sorted" (.builtin "sorted")
  chr : GV C "chr" (.builtin "chr")
  bytes : GV C "bytes" (.type "bytes")
  bytearray : GV C "bytearray" (.type "bytearray")
  bool : GV C "bool" (.type "bool")
  type : GV C "type" (.type "type")
  iter : GV C "iter" (.builtin "iter")
  enumerate : GV C "enumerate" (.type "enumerate")
  b64t : Tok
  b64v : GV C "_B64" (.bytes b64Bytes.toArray b64t)
  esc : DefA
  hEsc : DefAt C "_iter_escaped_chars" 2 esc
  strip : DefA
  hStrip : DefAt C "_strip_quoted_realnames" 3 strip
  check : DefA
  hCheck : DefAt C "_check_parenthesis" 4 check
  buffer : DefA
  hBuffer : DefAt C "_buffer" 6 buffer
  truth : DefA
  hTruth : DefAt C "_truth" 7 truth
  b2a : DefA
  kB2a : Addr
  hB2a : DefAt C "b2a_base64" 9 b2a .none (.ref kB2a)
  b64 : DefA
  dB64 : Addr
  hB64 : DefAt C "b64encode" 11 b64 (.ref dB64)
  tB64 : ∃ o m, C.K.lookup dB64 = some o ∧ o.data = .seq #[.none] m
  c2k : DefA
  hC2k : DefAt C "cmp_to_key" 13 c2k
  red : DefA
  dRed : Addr
  hRed : DefAt C "reduce" 15 red (.ref dRed)
  miss : Addr
  tRed : ∃ o m, C.K.lookup dRed = some o ∧ o.data = .seq #[.ref miss] m
  vMiss : GV C "_initial_missing" (.ref miss)
  max : GV C "max" (.builtin "max")
  text : DefA
  hText : DefAt C "_law_text" 17 text
  closed : DefA
  hClosed : DefAt C "_law_closed" 18 closed
  ahead : DefA
  hAhead : DefAt C "_law_ahead" 19 ahead
  byB : DefA
  hByB : DefAt C "_law_by_brackets" 20 byB
  deed : DefA
  hDeed : DefAt C "_law_deed" 21 deed
  right : DefA
  hRight : DefAt C "_law_right" 22 right
  row : DefA
  hRow : DefAt C "_law_row" 23 row
  crossed : DefA
  hCrossed : DefAt C "_law_crossed" 24 crossed
end Mine
end

section
set_option maxRecDepth 100000
set_option linter.unusedVariables false
set_option tactic.hygienic false
namespace Mine
open PySem PySem.Calls PyProof.Rows PySem.W PySem.SeqAt
section
variable {C : Cx} {n : Nat}
/-- len(e) -/
theorem Ev.lenI {env : Env} {σ : Sto} {p pos : Pos} {e : Expr} {ns : List Int} (ge : GE env) (gv : GV C "len" (.builtin "len")) (h : Ev C n env σ e (L1 ns)) (hz : ns.length ≤ 1000000)
    (hx : env.kindOf "len" = some .globalImplicit := by rfl) (he : starEach [e] env = (false, eval e env) :: starEach [] env := by rfl) (hp : (backTo pos (starEach [e] env)).any (·.1) = false := by rfl) : Ev C n env σ (.Call (.Name "len" p) [e] [] pos) (.int ns.length) := by
  have := Ev.callB (C := C) (n := n) (pos := pos) (p := p) (d := .int ns.length) ge gv (.cons h .nil he) (by have := Fn.len (C := C) (n := n) (ds := ns.map D.int) (by rw [List.length_map]; exact hz); rw [List.length_map] at this; exact this) hx he hp
  exact this
theorem getD_int {ns : List Int} {k : Int} (h0 : 0 ≤ k) (h : k.toNat < ns.length) : (ns.map D.int)[k.toNat]? = some (.int (ns.getD k.toNat 0)) := by
  rw [List.getElem?_map, List.getD_eq_getElem?_getD, List.getElem?_eq_getElem h]
  rfl
end
end Mine
end

section
set_option maxRecDepth 100000
set_option linter.unusedVariables false
set_option tactic.hygienic false
namespace Mine
open PySem PySem.Calls PyProof.Rows PySem.W PySem.SeqAt
section
variable {C : Cx} {n : Nat}
theorem buffer_spec (T : Top C) {b : Array UInt8} : Fn C (n + 1) (.ref T.buffer.a) [.bytes b] (.bytes b) := by
  refine Fn.of1 (body := bodyOf PB 6) (x := "data") T.st T.hBuffer.fk rfl rfl (fun _ => rfl) (.inl rfl) rfl fun L O => ?_
  have ge : GE (callEnvC (T.buffer.fd 6) L T.buffer.a) := ⟨rfl, rfl, rfl⟩
  refine Ex.setR (.type ge T.type (.name rfl)) (Ex.ifRet (Tr.is (.name rfl) (.glob ge T.bytes)) (fun _ => .ret (.name rfl) rfl) fun h => absurd h (by decide))
theorem truth_spec (T : Top C) {b : Bool} : Fn C (n + 1) (.ref T.truth.a) [.bool b] (.bool b) := by
  refine Fn.of1 (body := bodyOf PB 7) (x := "x") T.st T.hTruth.fk rfl rfl (fun _ => rfl) (.inl rfl) rfl fun L O => ?_
  have ge : GE (callEnvC (T.truth.fd 7) L T.truth.a) := ⟨rfl, rfl, rfl⟩
  refine Ex.setR (.typeB ge T.type (.name rfl)) (Ex.ifRet (b := true) ?_ (fun _ => .ret (.ifExp (b := b) (.plain (.name rfl)) (fun h => .eq .boolc (by rw [h])) fun h => .eq .boolc (by rw [h])) rfl) fun h => by cases h)
  refine Tr.eq (.boolOp (.or (Tr.is (.bool (.name rfl)) .none) fun _ => .or (c := true) (Tr.is (.name rfl) (.glob ge T.bool)) fun h => absurd h (by decide))) ?_
  simp
end
end Mine
end

section
set_option genInjectivity false
set_option genSizeOf false
set_option genSizeOfSpec false
set_option maxRecDepth 100000
set_option linter.unusedVariables false
set_option tactic.hygienic false
namespace Mine
open PySem PySem.Calls PyProof.Rows PySem.W PySem.SeqAt
/-! the generator of signs -/
/-- what a generator may turn: no list, no tuple, no generator -/
noncomputable def Turn (d : Data) : Prop := (∀ xs n, d ≠ .seq xs n) ∧ ∀ vs, d = .fields vs → vs.size ≠ 3
/-- objects that a generator may turn: none of the caller's -/
noncomputable def FpW (h₀ h : Heap) (W : List Addr) : Prop := ∀ b ∈ W, h₀.get? b = none ∧ ∀ o, h.get? b = some o → Turn o.data
noncomputable def FpS (h₀ h : Heap) (W : List Addr) : Prop := ∀ b ∈ W, h₀.get? b = none ∧ ∃ o, h.get? b = some o ∧ Turn o.data
theorem FpS.w {h₀ h : Heap} {W : List Addr} (x : FpS h₀ h W) : FpW h₀ h W := fun b hb => by
  refine Classical.byContradiction fun hN => ?_
  obtain ⟨h1, o, e, hn⟩ := x b hb
  refine hN ?_
  clear hN
  exact ⟨h1, fun o' e' => by rw [e] at e'; cases e'; exact hn⟩
structure SinceK (W : List Addr) (s₀ s : Shared) : Prop where
  eq : ∃ h' tk, s = { s₀ with heap := h', toks := tk }
  keep : ∀ b o, b ∉ W → s₀.heap.get? b = some o → s.heap.get? b = some o
structure Since (W : List Addr) (s₀ s : Shared) : Prop extends SinceK W s₀ s where
  there : ∀ b, s.heap.get? b = none → s₀.heap.get? b = none
theorem SinceK.step {W : List Addr} {s₀ s : Shared} {h' : Heap} {tk : Nat} (x : SinceK W s₀ s) (k : ∀ b o, b ∉ W → s.heap.get? b = some o → h'.get? b = some o) : SinceK W s₀ { s with heap := h', toks := tk } := by
  refine Classical.byContradiction fun hN => ?_
  obtain ⟨⟨h₁, t₁, rfl⟩, k₁⟩ := x
  refine hN ?_
  clear hN
  exact ⟨⟨_, _, rfl⟩, fun b o hb e => k b o hb (k₁ b o hb e)⟩
theorem Since.refl (W : List Addr) (s : Shared) : Since W s s := ⟨⟨⟨_, _, rfl⟩, fun _ _ _ e => e⟩, fun _ e => e⟩
theorem Since.step {W : List Addr} {s₀ s : Shared} {h' : Heap} {tk : Nat} (x : Since W s₀ s) (k : ∀ b o, b ∉ W → s.heap.get? b = some o → h'.get? b = some o) (t : ∀ b ∈ W, (∃ o, s.heap.get? b = some o) → ∃ o, h'.get? b = some o) : Since W s₀ { s with heap := h', toks := tk } := by
  refine Classical.byContradiction fun hN => ?_
  obtain ⟨⟨⟨h₁, t₁, rfl⟩, k₁⟩, t₁'⟩ := x
  refine hN ?_
  clear hN
  refine ⟨⟨⟨_, _, rfl⟩, fun b o hb e => k b o hb (k₁ b o hb e)⟩, fun b hb => t₁' b ?_⟩
  cases e : (Shared.heap { s₀ with heap := h₁, toks := t₁ }).get? b with
  | none => rfl
  | some o =>
    by_cases hW : b ∈ W
    · obtain ⟨o', e'⟩ := t b hW ⟨o, e⟩
      dsimp only at hb; rw [e'] at hb; cases hb
    · have := k b o hW e
      dsimp only at hb; rw [this] at hb; cases hb
noncomputable def escY (h₀ : Heap) (x : Str) : Protocol := fun m s₀ v s kap =>
  ∃ i c T t u W fp, i + m + 1 = x.cps.size ∧ x.cps[i]? = some c ∧ v = .ref T ∧ s₀.heap.get? T = none ∧ s.heap.get? T = some { cls := .type "tuple", data := .seq #[.int (i : Nat) t, .str ⟨#[c]⟩ u] } ∧
    FpW h₀ s₀.heap W ∧ Since W s₀ s ∧ FpS h₀ s.heap fp ∧ ∀ s'' : Shared, (∀ b ∈ fp, ∀ o, s.heap.get? b = some o → s''.heap.get? b = some o) → kap (.send .none) s''
noncomputable def escP (h₀ : Heap) : Nat → Shared → Shared → Prop := fun n s₀ s₁ => n = 0 ∧ ∃ W, FpW h₀ s₀.heap W ∧ SinceK W s₀ s₁
noncomputable def escR (h₀ : Heap) : GenEnd := fun n s₀ r s₁ => r = .ok (.ret .none) ∧ escP h₀ n s₀ s₁
noncomputable def escFor : Expr × List Stmt := match (bodyOf PB 2)[2]? with | some (Stmt.For t _ b _ _) => (t, b) | _ => (.Constant .none 0 ⟨0, 0, 0, 0⟩, [])
section
variable {prog : Program} {w : World} {A : Around}
structure EscIt (prog : Program) (w : World) (it : Addr) (x : Str) (St : Nat → Heap → Prop) : Prop where
  D : ∀ A' : Around, A'.handled = none → Draws prog w A' it [it] x.cps.size (fun i v => ∃ c u, x.cps[i]? = some c ∧ v = .str ⟨#[c]⟩ u) St
  ns : ∀ i h, St i h → ∃ o, h.get? it = some o ∧ Turn o.data
theorem ns_obj {h : Heap} {a : Addr} {m : Str → Option Value} (n : h.Ns a m) : ∃ o, h.get? a = some o ∧ Turn o.data := by
  refine Classical.byContradiction fun hN => ?_
  obtain ⟨o, es, ep, e, hd, _⟩ := n
  refine hN ?_
  clear hN
  exact ⟨o, e, by rw [hd]; exact ⟨fun _ _ z => (by cases z), fun _ z => by cases z⟩⟩
theorem spliced_two {M : Model} {A : Around} {E : Value → Shared → Prop} {s : Shared} {x y : Sem Value} {Q : List Value → Shared → Prop} (h : wpAny M A x (fun v s₁ => wpAny M A y (fun u s₂ => Q [v, u] s₂) E s₁) E s) : wpAny M A (spliced [(false, x), (false, y)]) Q E s :=
  spliced_cons (wpAny_mono h (fun v s₁ h₁ => spliced_cons (wpAny_mono h₁ (fun u s₂ h₂ => spliced_nil h₂) fun _ _ e => e)) fun _ _ e => e)
set_option maxHeartbeats 1000000 in
theorem esc_loop {fd : FuncData} {L a : Addr} {x : Str} {h₀ : Heap} {it e : Addr} {St : Nat → Heap → Prop} {kk : Result → Sem Fin} {g : Bool} {l : List Value} {cc : Code} {p : Pos}
    (hfd : fd.scope = (fdOf PB 2 .none 0 .none .none).scope) (hx : ∀ c ∈ x.cps.toList, c ≠ 92) (hh : A.handled = none) (hg : g = false) (I : EscIt prog w it x St) (hei : e ≠ it) (heL : e ≠ L) (hiL : it ≠ L)
    (hf₀ : h₀.get? L = none ∧ h₀.get? e = none ∧ h₀.get? it = none)
    (hend : ∀ s₀ s m W, s.heap.Ns L m → m "escape" = some (.bool false) → FpW h₀ s₀.heap W → SinceK W s₀ s → Seg (model prog w) A (escR h₀) (escY h₀ x) 0 s₀ cc (kk (.ok .next)) [] s) :
    ∀ (k i : Nat) (s₀ s : Shared) (m : Str → Option Value) (old : Value), x.cps.size - i = k → i ≤ x.cps.size → IsEnum s.heap e it (i : Nat) old → St i s.heap → s.heap.Ns L m → m "escape" = some (.bool false) → FpW h₀ s₀.heap [L, e, it] → Since [L, e, it] s₀ s →
      Seg (model prog w) A (escR h₀) (escY h₀ x) k s₀ (.forLoop escFor.1 (.ref e) escFor.2 [] (callEnv fd L a)) ((model prog w).den (.forLoop escFor.1 (.ref e) escFor.2 [] (callEnv fd L a))) [.ret kk none g l cc p []] s := by
  have hh' : (A.over (.forLoop escFor.1 (.ref e) escFor.2 [] (callEnv fd L a)) [.ret kk none g l cc p []]).handled = none := by
    show (A.over _ _).handled = none
    simp only [Around.over, marksOver, Frame.marks, hh]; rfl
  intro k
  induction k with
  | zero =>
    intro i s₀ s m old hk hi he hst hn hm hW hs
    have hin : i = x.cps.size := by omega
    subst hin
    refine seg_forLoop ?_
    refine wpAny_pyNext_enum_endD (I.D _ hh') he hst fun h' hx' => ?_
    have hnLi : L ≠ it := fun q => hiL q.symm
    exact seg_leaf (.ok .next) (hend _ _ m [L, e, it] (hn.extBut hx' hnLi) hm hW (hs.toSinceK.step (tk := s.toks) fun b o hb e => hx' b o (fun q => hb (by simp [q])) e))
  | succ k ih =>
    intro i s₀ s m old hk hi he hst hn hm hW hs
    have hlt : i < x.cps.size := by omega
    refine seg_forLoop ?_
    refine wpAny_pyNext_enum_itemD (I.D _ hh') he hst hlt hei (by simpa using hei) fun v h₁ tk₁ hv ho hst₁ hT hsz hk₁ => ?_
    refine Classical.byContradiction fun hN => ?_
    obtain ⟨c, u, hc, rfl⟩ := hv
    refine hN ?_
    clear hN
    have hnT : s.heap.get? s.heap.objs.size = none := by
      cases q : s.heap.get? s.heap.objs.size with
      | none => rfl
      | some o => exact absurd (Heap.lt_size q) (Nat.lt_irrefl _)
    have heT : e ≠ s.heap.objs.size := Nat.ne_of_lt (Heap.lt_size he)
    have hiT : it ≠ s.heap.objs.size := by obtain ⟨o, q, _⟩ := I.ns _ _ hst; exact Nat.ne_of_lt (Heap.lt_size q)
    have hLT : L ≠ s.heap.objs.size := Nat.ne_of_lt hn.lt
    refine wpAny_letOwnedTupleGo_enum ho fun h₂ he₂ hs₂ => ?_
    have hn₂ : h₂.Ns L m := (hn.at' fun o q => hk₁ _ o (Ne.symm heL) (Ne.symm hiL) q).sameBut hs₂ (Ne.symm heL)
    have hT₂ : h₂.IsTuple s.heap.objs.size #[.int i tk₁, .str ⟨#[c]⟩ u] := ⟨_, (hs₂.2 _ (Ne.symm heT)).trans hT, rfl, _, rfl⟩
    refine wpAny_assign_Tuple hh' hT₂ rfl rfl fun h₃ hx₃ => ?_
    have k₃ := extBut_of hx₃
    have hn₃ := hn₂.keeps k₃
    have hkp : (callEnv fd L a).kindOf "pos" = some .local := by show fd.scope.names.lookup _ = _; rw [hfd]; rfl
    have hkc : (callEnv fd L a).kindOf "ch" = some .local := by show fd.scope.names.lookup _ = _; rw [hfd]; rfl
    have hke : (callEnv fd L a).kindOf "escape" = some .local := by show fd.scope.names.lookup _ = _; rw [hfd]; rfl
    have hsk : (callEnv fd L a).scope.kind = .function := by show fd.scope.kind = _; rw [hfd]; rfl
    have hpl : ((callEnv fd L a).scope.kind == .class || ((callEnv fd L a).scope.kind == .module && (callEnv fd L a).locals != (callEnv fd L a).globals)) = false := by rw [hsk]; rfl
    have hco : (callEnv fd L a).scope.isCoroutine = false := by show fd.scope.isCoroutine = _; rw [hfd]; rfl
    have hint : interactive (callEnv fd L a) = false := by unfold interactive; rw [hsk]; rfl
    refine wpAny_bind (wpAny_holding (wpAny_assign_Name (wpAny_storeName_local (env := callEnv fd L a) hkp hn₃ (fun h₄ hn₄ hs₄ => ?_) hpl)))
    refine wpAny_bind (wpAny_holding (wpAny_assign_Name (wpAny_storeName_local (env := callEnv fd L a) hkc hn₄ (fun h₅ hn₅ hs₅ => wpAny_pure ?_) hpl)))
    dsimp only at hs₄ hs₅
    have up : ∀ b o, b ≠ L → h₂.get? b = some o → h₅.get? b = some o := fun b o hb q => (hs₅.2 b hb).trans ((hs₄.2 b hb).trans (k₃ b o q))
    have s₅ : Since [L, e, it] s₀ { s with heap := h₅, toks := tk₁ + 1 + 1 + 1 } := by
      refine hs.step (fun b o hb q => ?_) fun b hb ⟨o, q⟩ => ?_
      · simp only [List.mem_cons, List.not_mem_nil, or_false, not_or] at hb
        exact up b o hb.1 ((hs₂.2 b hb.2.1).trans (hk₁ b o hb.2.1 hb.2.2 q))
      · simp only [List.mem_cons, List.not_mem_nil, or_false] at hb
        rcases hb with rfl | rfl | rfl
        · obtain ⟨o', es, ep, q', _⟩ := hn₅; exact ⟨o', q'⟩
        · exact ⟨_, up _ _ heL he₂⟩
        · refine Classical.byContradiction fun hN => ?_
          obtain ⟨o', q', _⟩ := I.ns _ _ hst₁
          refine hN ?_
          clear hN
          exact ⟨_, up _ _ hiL ((hs₂.2 _ hei.symm).trans q')⟩
    refine seg_execs_cons (seg_If (b := false) ?_)
    refine wpAny_bind (wpAny_Name (wpAny_loadName_local hsk hke hn₅ (v := .bool false) ?_ (wpAny_bind (wpAny_standAt (wpAny_holding (wpAny_truthy_bool ⟨rfl, ?_⟩))))))
    · rw [if_neg (by decide), if_neg (by decide)]; exact hm
    refine seg_execs_cons (seg_If (b := false) ?_)
    refine wpAny_isTrue_Compare1 (wpAny_Name (wpAny_loadName_local hsk hkc hn₅ (v := .str ⟨#[c]⟩ u) ?_ ?_))
    · rw [if_pos rfl]
    rw [eval_Constant]
    refine wpAny_mkText (PyProof.Rows.eq_str ?_)
    have hc92 : c ≠ 92 := hx c (by simpa using Array.mem_of_getElem? hc)
    have hne : (((⟨#[c]⟩ : Str) == "\\") : Bool) = false := by
      rw [beq_eq_false_iff_ne]
      intro q
      have h0 : (#[c] : Array Nat)[0]? = some 92 := congrArg (fun z : Str => z.cps[0]?) q
      exact hc92 (by simpa using h0)
    rw [hne]
    refine wpAny_truthy_bool ⟨rfl, ?_⟩
    refine seg_execs_cons (seg_Expr_Yield rfl rfl (by simp [Frame.guarded, hg]) ?_ hco hint)
    refine Tuple_ (spliced_two (wpAny_Name (wpAny_loadName_local hsk hkp hn₅ (v := .int i tk₁) ?_ (wpAny_Name (wpAny_loadName_local hsk hkc hn₅ (v := .str ⟨#[c]⟩ u) ?_ (wpAny_newTuple ?_ (by rw [sizeLine_eq]; exact Nat.le_add_left 2 _)))))))
    · rw [if_neg (by decide), if_pos rfl]
    · rw [if_pos rfl]
    intro kap hkap
    have up₁ : ∀ b o, b ≠ L → b ≠ e → h₁.get? b = some o → (h₅.push { cls := .type "tuple", data := .seq #[.int (i : Nat) tk₁, .str ⟨#[c]⟩ u] }).get? b = some o := fun b o h1 h2 q => Heap.get?_push_of_some _ (up b o h1 ((hs₂.2 b h2).trans q))
    have heE : (h₅.push { cls := .type "tuple", data := .seq #[.int (i : Nat) tk₁, .str ⟨#[c]⟩ u] }).get? e = _ := Heap.get?_push_of_some _ (up _ _ heL he₂)
    have hst₅ : St (i + 1) (h₅.push { cls := .type "tuple", data := .seq #[.int (i : Nat) tk₁, .str ⟨#[c]⟩ u] }) := (I.D A hh).frame _ _ _ hst₁ fun b hb o q => by
      rw [List.mem_singleton] at hb; subst hb
      exact up₁ _ _ hiL hei.symm q
    have hn₆ := hn₅.push (o := { cls := .type "tuple", data := .seq #[.int (i : Nat) tk₁, .str ⟨#[c]⟩ u] })
    have fpS : ∀ h : Heap, (∀ b ∈ [L, e, it], ∀ o, (h₅.push { cls := .type "tuple", data := .seq #[.int (i : Nat) tk₁, .str ⟨#[c]⟩ u] }).get? b = some o → h.get? b = some o) → FpS h₀ h [L, e, it] := fun h hal b hb => by
      have hb' := hb
      simp only [List.mem_cons, List.not_mem_nil, or_false] at hb'
      rcases hb' with rfl | rfl | rfl
      · refine Classical.byContradiction fun hN => ?_
        obtain ⟨o, q, hq⟩ := ns_obj hn₆
        refine hN ?_
        clear hN
        exact ⟨hf₀.1, o, hal _ hb _ q, hq⟩
      · exact ⟨hf₀.2.1, _, hal _ hb _ heE, fun _ _ z => (by cases z), fun _ z => by cases z; exact fun q => nomatch (show (6 : Nat) = 3 from q)⟩
      · refine Classical.byContradiction fun hN => ?_
        obtain ⟨o, q, hq⟩ := I.ns _ _ hst₅
        refine hN ?_
        clear hN
        exact ⟨hf₀.2.2, o, hal _ hb _ q, hq⟩
    refine ⟨i, c, h₅.objs.size, tk₁, u, [L, e, it], [L, e, it], by omega, hc, rfl, ?_, Heap.get?_push_size _ rfl, hW, ?_, fpS _ fun _ _ _ q => q, fun s'' hal => hkap .none s'' ?_⟩
    · refine s₅.there _ ?_
      dsimp only
      cases q : h₅.get? h₅.objs.size with
      | none => rfl
      | some o => exact absurd (Heap.lt_size q) (Nat.lt_irrefl _)
    · exact s₅.step (fun b o _ q => Heap.get?_push_of_some _ q) fun b _ ⟨o, q⟩ => ⟨o, Heap.get?_push_of_some _ q⟩
    · refine seg_again rfl (ih (i + 1) s'' s'' (fun z => if z = "ch" then some (.str ⟨#[c]⟩ u) else if z = "pos" then some (.int (i : Nat) tk₁) else m z) (.str ⟨#[c]⟩ u) (by omega) (by omega) ?_ ?_ ?_ ?_ (fpS _ hal).w (.refl _ _))
      · have := hal e (by simp) _ heE
        push_cast
        exact this
      · exact (I.D A hh).frame _ _ _ hst₅ fun b hb o q => by
          rw [List.mem_singleton] at hb; subst hb
          exact hal _ (by simp) _ q
      · exact hn₆.at' fun o q => hal L (by simp) o q
      · rw [if_neg (by decide), if_neg (by decide)]; exact hm
end
end Mine
end

section
set_option maxRecDepth 100000
set_option linter.unusedVariables false
set_option tactic.hygienic false
namespace Mine
open PySem PySem.Calls PyProof.Rows PySem.W PySem.SeqAt
section
variable {C : Cx} {A : Around}
theorem esc_it (prog : Program) (w : World) (it : Addr) (x : Str) (t : Tok) : EscIt prog w it x (fun i h => h.IsStrIter it (strIterType x) x t i) := by
  refine ⟨fun A' hA => ?_, fun i h ⟨o, e, _, hd⟩ => ⟨o, e, by rw [hd]; exact ⟨fun _ _ z => (by cases z), fun _ z => by cases z; exact fun q => nomatch (show (2 : Nat) = 3 from q)⟩⟩⟩
  unfold strIterType
  cases x.cps.all (· < 128) with
  | true => exact Draws.strAscii hA it x t
  | false => exact Draws.strWide hA it x t
set_option maxHeartbeats 1000000 in
theorem esc_start {fd : FuncData} {L a : Addr} {x : Str} {t : Tok} {h₀ : Heap} (hfd : fd.scope = (fdOf PB 2 .none 0 .none .none).scope) (hgl : fd.globals = mainGlobals) (hbi : fd.builtins = builtinsNs) (gv : GV C "enumerate" (.type "enumerate")) (hx : ∀ c ∈ x.cps.toList, c ≠ 92) (hh : A.handled = none)
    {s : Shared} {m : Str → Option Value} (w : Wd C.K C.TB s.heap) (hn : s.heap.Ns L m) (hm : m "addr" = some (.str x t)) (hL : h₀.get? L = none) (hs₀ : ∀ b o, h₀.get? b = some o → ∃ o', s.heap.get? b = some o') (hLK : C.K.lookup L = none) :
    Seg C.M A (escR h₀) (escY h₀ x) x.cps.size s (.func (bodyOf PB 2) (callEnv fd L a)) (C.M.den (.func (bodyOf PB 2) (callEnv fd L a))) [] s := by
  have hh' : (A.over (.func (bodyOf PB 2) (callEnv fd L a)) []).handled = none := hh
  have hkp : (callEnv fd L a).kindOf "pos" = some .local := by show fd.scope.names.lookup _ = _; rw [hfd]; rfl
  have hka : (callEnv fd L a).kindOf "addr" = some .local := by show fd.scope.names.lookup _ = _; rw [hfd]; rfl
  have hke : (callEnv fd L a).kindOf "escape" = some .local := by show fd.scope.names.lookup _ = _; rw [hfd]; rfl
  have hkE : (callEnv fd L a).kindOf "enumerate" = some .globalImplicit := by show fd.scope.names.lookup _ = _; rw [hfd]; rfl
  have hsk : (callEnv fd L a).scope.kind = .function := by show fd.scope.kind = _; rw [hfd]; rfl
  have hpl : ((callEnv fd L a).scope.kind == .class || ((callEnv fd L a).scope.kind == .module && (callEnv fd L a).locals != (callEnv fd L a).globals)) = false := by rw [hsk]; rfl
  refine seg_func ?_
  refine seg_stmt (wpAny_Assign_Name (wpAny_Constant_int (wpAny_storeName_local (env := callEnv fd L a) hkp hn (fun h₁ hn₁ hs₁ => ⟨rfl, ?_⟩) hpl)))
  refine seg_stmt (wpAny_Assign_Name (x := "escape") (Q := fun f s' => f = .next ∧ _) ?_)
  rw [eval_Constant]
  refine wpAny_pure (wpAny_storeName_local (env := callEnv fd L a) hke hn₁ (fun h₂ hn₂ hs₂ => ⟨rfl, ?_⟩) hpl)
  have ge : GE (callEnv fd L a) := ⟨hsk, hgl, hbi⟩
  have kb : ∀ b o, b ≠ L → s.heap.get? b = some o → h₂.get? b = some o := fun b o hb e => (hs₂.2 b hb).trans ((hs₁.2 b hb).trans e)
  have w₂ : Wd C.K C.TB h₂ := by
    have hT : L ∉ C.TB := by
      refine Classical.byContradiction fun hN => ?_
      obtain ⟨o, es, ep, e, hd, _⟩ := hn
      refine hN ?_
      clear hN
      exact w.tb.apart e fun ⟨ps, q⟩ => by rw [q] at hd; cases hd
    refine ⟨fun b o e => kb b o (fun q => ?_) (w.k b o e), fun b hb => ?_, w.ap⟩
    · rw [q, hLK] at e; cases e
    · obtain ⟨ps, e⟩ := w.tb b hb
      exact ⟨ps, kb b _ (fun q => hT (q ▸ hb)) e⟩
  refine seg_execs_cons (seg_For ?_)
  refine Call_Name rfl (Mine.glob ge hkE gv w₂ ?_)
  refine PySem.callWith_type rfl (evalArgs_plain (spliced_cons (wpAny_Name (wpAny_loadName_local hsk hka hn₂ (v := .str x t) ?_ (spliced_nil ?_)))))
  · rw [if_neg (by decide), if_neg (by decide)]; exact hm
  dsimp only
  refine call_enumerate_str fun h₃ he hit hz hk => ?_
  dsimp only at he hit hz hk
  refine wpAny_pyIter_enum he fun p => ?_
  have hsz : h₂.objs.size = s.heap.objs.size := by rw [hs₂.1]; exact hs₁.1
  have fresh : ∀ k, s.heap.get? (h₂.objs.size + k) = none := fun k => by
    cases q : s.heap.get? (h₂.objs.size + k) with
    | none => rfl
    | some o => have := Heap.lt_size q; rw [← hsz] at this; exact absurd this (Nat.not_lt.mpr (Nat.le_add_right _ _))
  have fresh₀ : ∀ k, h₀.get? (h₂.objs.size + k) = none := fun k => by
    cases q : h₀.get? (h₂.objs.size + k) with
    | none => rfl
    | some o => obtain ⟨o', e'⟩ := hs₀ _ _ q; rw [fresh k] at e'; cases e'
  have hLlt : L < h₂.objs.size := hn₂.lt
  have hn₃ := hn₂.keeps hk
  refine esc_loop (St := fun i h => h.IsStrIter h₂.objs.size (strIterType x) x t i) hfd hx hh rfl (esc_it _ _ _ x t) (Nat.succ_ne_self _) (Nat.ne_of_gt (Nat.lt_succ_of_lt hLlt)) (Nat.ne_of_gt hLlt) ⟨hL, fresh₀ 1, fresh₀ 0⟩ ?_ x.cps.size 0 s _ (fun z => if z = "escape" then some (.bool false) else if z = "pos" then some (.int 0 s.toks) else m z) .none (Nat.sub_zero _) (Nat.zero_le _) he hit hn₃ (if_pos rfl) ?_ ?_
  · intro s₀ s₁ m₁ W hn₁ hm₁ hW hs
    show Seg _ _ _ _ _ _ _ ((execs _ (callEnv fd L a)).wrap _ _ _ _) [] s₁
    refine seg_execs_cons (seg_If (b := false) ?_)
    refine wpAny_bind (wpAny_Name (wpAny_loadName_local (env := callEnv fd L a) hsk hke hn₁ hm₁ (wpAny_bind (wpAny_standAt (wpAny_holding (wpAny_truthy_bool ⟨rfl, ?_⟩))))))
    exact seg_end (.ok (.ret .none)) ⟨rfl, rfl, W, hW, hs⟩
  · intro b hb
    simp only [List.mem_cons, List.not_mem_nil, or_false] at hb
    rcases hb with rfl | rfl | rfl
    · refine ⟨hL, fun o e => ?_⟩
      obtain ⟨o', e', hd⟩ := ns_obj hn
      rw [e] at e'; cases e'; exact hd
    · exact ⟨fresh₀ 1, fun o e => by rw [fresh 1] at e; cases e⟩
    · exact ⟨fresh₀ 0, fun o e => by have := fresh 0; rw [Nat.add_zero] at this; rw [this] at e; cases e⟩
  · refine ⟨⟨⟨_, _, rfl⟩, fun b o hb e => ?_⟩, fun b hb => ?_⟩
    · simp only [List.mem_cons, List.not_mem_nil, or_false, not_or] at hb
      exact hk b o (kb b o hb.1 e)
    · dsimp only at hb
      cases e : s.heap.get? b with
      | none => rfl
      | some o =>
        by_cases q : b = L
        · subst q; obtain ⟨o', es, ep, e', _⟩ := hn₃; exact absurd (hb.symm.trans e') (fun z => nomatch z)
        · rw [hk b o (kb b o q e)] at hb; cases hb
end
end Mine
end

section
set_option maxRecDepth 100000
set_option linter.unusedVariables false
set_option tactic.hygienic false
namespace Mine
open PySem PySem.Calls PyProof.Rows PySem.W PySem.SeqAt
/-- the next sign of a def that yields -/
theorem pyNext_def {prog : Program} {w : World} {A : Around} {E : Value → Shared → Prop} {s : Shared} {a : Addr} {g n : Nat} {gs : GenState} {P : Nat → Shared → Shared → Prop} {Y : Protocol} {Q : Option Value → Shared → Prop} (hh : A.handled = none)
    (hl : s.heap.NoLimit) (hroom : A.depth < recursionLimit) (hg : s.heap.IsGen a g) (hgs : s.gens[g]? = some gs)
    (hgo : gs.Goes (model prog w) A.in1 (fun n s₀ r s₁ => r = .ok (.ret .none) ∧ P n s₀ s₁) Y n (.send .none) (s.setGen g .running))
    (hY : ∀ v s₁ gs', gs'.bare = true → Y (n - 1) (s.setGen g .running) v s₁ (fun r' s'' => match n with
        | 0 => False
        | m + 1 => gs'.Goes (model prog w) A.in1 (fun n s₀ r s₁ => r = .ok (.ret .none) ∧ P n s₀ s₁) Y m r' s'') → Q (some v) (s₁.setGen g gs'))
    (hP : ∀ s₁, P n (s.setGen g .running) s₁ → ∀ h', (∀ b o, s₁.heap.get? b = some o → h'.get? b = some o) → Q none { s₁.setGen g .finished with heap := h' }) :
    wpAny (model prog w) A (pyNext (.ref a)) Q E s := by
  have asleep : gs.status = .fresh ∨ gs.status = .suspended := by
    cases gs with
    | fresh c => exact .inl rfl
    | suspended => exact .inr rfl
    | running => exact hgo.elim
    | finished => exact hgo.elim
  unfold pyNext
  refine wpAny_bind (wpAny_attempt (wpAny_callSpecial?_slot (name := Str.ofString "__next__") hg.typeIs slot_gen_next (wpAny_call_entry slot_gen_next hg.typeIs entry_gen_next ?_ (args_gen_next _))))
  show wpAny _ A.in1 (Builtin.Generator.genWake (.ref a) (.send .none)) _ _ s
  unfold Builtin.Generator.genWake
  refine wpAny_bind (wpAny_holding (wpAny_genNumber hg (wpAny_bind (wpAny_genState hgs ?_))))
  rcases asleep with e | e
  all_goals
    rw [e]
    refine wpAny_bind (wpAny_roomToWake hl hroom ?_)
    show wpAny _ A.in1 (.resume g (.send .none) [] _) _ _ s
    refine wpAny_resumeQ hgs hgo (fun x s₁ hx => ?_) (fun v s₁ gs' hb hv => wpAny_pure ⟨v, rfl, wpAny_pure (hY v s₁ gs' hb hv)⟩)
    obtain ⟨rfl, hp⟩ := hx
    show wpAny _ A.in1 (newExc (.type "StopIteration") [] >>= _) _ _ _
    refine wpAny_bind ?_
    simp only [newExc, newTuple]
    refine wpAny_bind (wpAny_newObj_type (wpAny_bind (m := firstArgMember _ _) (wpAny_of_eq (a := Value.none) (by simp only [firstArgMember]; rfl) (wpAny_newObj_type ?_ (by size_fits)))) (by size_fits))
    simp only [raiseNew]
    refine wpAny_bind (wpAny_bind (wpAny_handled ?_))
    rw [show A.in1.handled = none from hh]
    refine wpAny_throw (wpAny_bind (wpAny_isInstance (T := "StopIteration") (b := true) ⟨_, Heap.get?_push_size _ rfl, rfl⟩ isSubtype_stop ?_))
    exact wpAny_pure (hP s₁ hp _ fun b o hb => Heap.get?_push_of_some _ (Heap.get?_push_of_some _ hb))
end Mine
end

section
set_option genInjectivity false
set_option genSizeOf false
set_option genSizeOfSpec false
set_option maxRecDepth 100000
set_option linter.unusedVariables false
set_option tactic.hygienic false
namespace Mine
open PySem PySem.Calls PyProof.Rows PySem.W PySem.SeqAt
noncomputable def Has (h₀ h : Heap) : Prop := ∀ b o, h₀.get? b = some o → ∃ o', h.get? b = some o'
structure EscAt (C : Cx) (A : Around) (h₀ : Heap) (x : Str) (I : Addr) (g j : Nat) (fp : List Addr) (s : Shared) : Prop where
  gen : s.heap.IsGen I g
  ok : FpS h₀ s.heap fp
  go : ∃ gs, s.gens[g]? = some gs ∧ ∀ s'' : Shared, Wd C.K C.TB s''.heap → Has h₀ s''.heap → (∀ b ∈ fp, ∀ o, s.heap.get? b = some o → s''.heap.get? b = some o) → gs.Goes C.M A.in1 (escR h₀) (escY h₀ x) (x.cps.size - j) (.send .none) s''
section
variable {C : Cx} {A : Around} {h₀ : Heap} {x : Str} {I : Addr} {g j : Nat} {fp : List Addr} {s s' : Shared}
theorem EscAt.keep (e : EscAt C A h₀ x I g j fp s) (hg : s'.gens[g]? = s.gens[g]?) (hI : ∀ o, s.heap.get? I = some o → s'.heap.get? I = some o) (hf : ∀ b ∈ fp, ∀ o, s.heap.get? b = some o → s'.heap.get? b = some o) : EscAt C A h₀ x I g j fp s' := by
  refine Classical.byContradiction fun hN => ?_
  obtain ⟨⟨o, nm, qn, ho, r⟩, f, gs, hgs, go⟩ := e
  refine hN ?_
  clear hN
  refine ⟨⟨o, nm, qn, hI _ ho, r⟩, fun b hb => ?_, gs, hg.trans hgs, fun s'' w hs k => go s'' w hs fun b hb o e => k b hb o (hf b hb o e)⟩
  refine Classical.byContradiction fun hN => ?_
  obtain ⟨h1, o, e, t⟩ := f b hb
  refine hN ?_
  clear hN
  exact ⟨h1, o, hf b hb o e, t⟩
theorem EscAt.next {Q : Option Value → Shared → Prop} (hh : A.handled = none) (hroom : A.depth < recursionLimit) (hl : s.heap.NoLimit) (w : Wd C.K C.TB s.heap) (hs : Has h₀ s.heap) (e : EscAt C A h₀ x I g j fp s) (hj : j < x.cps.size)
    (hQ : ∀ T c t u fp' W s', x.cps[j]? = some c → s.heap.get? T = none → s'.heap.get? T = some { cls := .type "tuple", data := .seq #[.int (j : Nat) t, .str ⟨#[c]⟩ u] } → FpW h₀ s.heap W → (∀ b o, b ∉ W → s.heap.get? b = some o → s'.heap.get? b = some o) → s'.os = s.os →
      (∃ gs', gs'.bare = true ∧ s'.gens = s.gens.setIfInBounds g gs') → EscAt C A h₀ x I g (j + 1) fp' s' → Q (some (.ref T)) s') : wpAny C.M A (pyNext (.ref I)) Q NoE s := by
  refine Classical.byContradiction fun hN => ?_
  obtain ⟨hg, f, gs, hgs, go⟩ := e
  refine hN ?_
  clear hN
  obtain ⟨m, hm⟩ : ∃ m, x.cps.size - j = m + 1 := ⟨x.cps.size - j - 1, by (first | lia | omega)⟩
  rw [hm] at go
  refine pyNext_def (P := escP h₀) (Y := escY h₀ x) hh hl hroom hg hgs (go (s.setGen g .running) w hs fun _ _ _ q => q) (fun v s₁ gs' hb hv => ?_) fun s₁ hp => absurd hp.1 (Nat.succ_ne_zero m)
  refine Classical.byContradiction fun hN => ?_
  obtain ⟨i, c, T, t, u, W, fp', hi, hc, rfl, hT, hT', hW, hSi, hfp, hkap⟩ := hv
  refine hN ?_
  clear hN
  have : i = j := by (first | lia | omega)
  subst this
  refine Classical.byContradiction fun hN => ?_
  obtain ⟨⟨⟨h₁, tk₁, rfl⟩, hk⟩, _⟩ := hSi
  refine hN ?_
  clear hN
  have hIW : I ∉ W := fun hm => by
    refine Classical.byContradiction fun hN => ?_
    obtain ⟨o, nm, qn, ho, _, hd, _⟩ := hg
    refine hN ?_
    clear hN
    exact ((hW I hm).2 o ho).2 _ hd rfl
  refine hQ T c t u fp' W _ hc hT hT' hW hk rfl ⟨gs', hb, by simp [Shared.setGen]⟩ ⟨?_, hfp, gs', setGen_self (gs := .running) (setGen_self hgs), fun s'' _ _ hal => ?_⟩
  · refine Classical.byContradiction fun hN => ?_
    obtain ⟨o, nm, qn, ho, r⟩ := hg
    refine hN ?_
    clear hN
    exact ⟨o, nm, qn, hk I o hIW ho, r⟩
  · have e : x.cps.size - (i + 1) = m := by (first | lia | omega)
    rw [e]
    exact hkap s'' hal
theorem EscAt.done {Q : Option Value → Shared → Prop} (hh : A.handled = none) (hroom : A.depth < recursionLimit) (hl : s.heap.NoLimit) (w : Wd C.K C.TB s.heap) (hs : Has h₀ s.heap) (e : EscAt C A h₀ x I g x.cps.size fp s)
    (hQ : ∀ W s', FpW h₀ s.heap W → (∀ b o, b ∉ W → s.heap.get? b = some o → s'.heap.get? b = some o) → s'.os = s.os → (∃ gs', gs'.bare = true ∧ s'.gens = s.gens.setIfInBounds g gs') → Q none s') : wpAny C.M A (pyNext (.ref I)) Q NoE s := by
  refine Classical.byContradiction fun hN => ?_
  obtain ⟨hg, f, gs, hgs, go⟩ := e
  refine hN ?_
  clear hN
  rw [Nat.sub_self] at go
  refine pyNext_def (P := escP h₀) (Y := escY h₀ x) hh hl hroom hg hgs (go (s.setGen g .running) w hs fun _ _ _ q => q) (fun v s₁ gs' hb hv => ?_) fun s₁ hp h' hk' => ?_
  · refine Classical.byContradiction fun hN => ?_
    obtain ⟨i, c, T, t, u, W, fp', hi, hc, rfl, hT, hT', hW, hSi, hfp, hkap⟩ := hv
    refine hN ?_
    clear hN
    exact (hkap s₁ fun _ _ _ q => q).elim
  · refine Classical.byContradiction fun hN => ?_
    obtain ⟨_, W, hW, ⟨h₁, tk₁, rfl⟩, hk⟩ := hp
    refine hN ?_
    clear hN
    exact hQ W _ hW (fun b o hb e => hk' b o (hk b o hb e)) rfl ⟨.finished, rfl, by simp [Shared.setGen]⟩
end
/-- the later generators -/
noncomputable def GensB (base gens : Array GenState) : Prop := ∃ more : Array GenState, gens = base ++ more ∧ AllBare more
theorem GensB.set {base gens : Array GenState} {g : Nat} {gs : GenState} (x : GensB base gens) (hg : base.size ≤ g) (hb : gs.bare = true) : GensB base (gens.setIfInBounds g gs) := by
  refine Classical.byContradiction fun hN => ?_
  obtain ⟨more, rfl, h⟩ := x
  refine hN ?_
  clear hN
  refine ⟨more.setIfInBounds (g - base.size) gs, ?_, fun y hy => ?_⟩
  · apply Array.ext_getElem?
    intro i
    rw [Array.getElem?_setIfInBounds]
    by_cases hi : g = i
    · subst hi
      rw [if_pos rfl, Array.getElem?_append_right hg, Array.getElem?_setIfInBounds, if_pos rfl, Array.size_append]
      have : (g < base.size + more.size) = (g - base.size < more.size) := by apply propext; (first | lia | omega)
      simp only [this]
    · rw [if_neg hi]
      by_cases hlt : i < base.size
      · rw [Array.getElem?_append_left hlt, Array.getElem?_append_left hlt]
      · rw [Array.getElem?_append_right (by (exact Nat.not_lt.mp (by assumption))), Array.getElem?_append_right (by (exact Nat.not_lt.mp (by assumption))), Array.getElem?_setIfInBounds, if_neg (by (first | lia | omega))]
  · refine Classical.byContradiction fun hN => ?_
    obtain ⟨i, hi, rfl⟩ := Array.mem_iff_getElem.mp hy
    refine hN ?_
    clear hN
    rw [Array.getElem_setIfInBounds]
    split
    · exact hb
    · exact h _ (Array.getElem_mem _)
    · simpa using hi
end Mine
end

section
set_option maxRecDepth 100000
set_option linter.unusedVariables false
set_option tactic.hygienic false
namespace Mine
open PySem PySem.Calls PyProof.Rows PySem.W PySem.SeqAt
theorem own_gen {prog : Program} {w : World} {A : Around} {es : List Expr} {m : Nat} {p : Pos} {I a : Addr} {g : Nat} {s : Shared} {Q : Unit → Shared → Prop} (hI : s.heap.IsGen I g) (q : Q () s) : wpAny (model prog w) A (letOwnedTupleGo (.Tuple es m p) (.ref I) (.ref a)) Q NoE s := by
  refine Classical.byContradiction fun hN => ?_
  obtain ⟨o, nm, qn, e, hc, hd, _⟩ := hI
  refine hN ?_
  clear hN
  unfold letOwnedTupleGo
  refine wpAny_bind (wpAny_load e ?_)
  rw [hc, hd]
  dsimp only
  rw [show (["enumerate", "zip", "dict_itemiterator", "dict_reverseitemiterator", "odict_iterator", "itertools.zip_longest", "itertools.pairwise"].contains "generator") = false from by decide, Bool.false_and, if_neg (by decide)]
  exact wpAny_pure q
section
variable {C : Cx} {n : Nat} {env : Env} {O₀ Ow : List Addr} {σ : Sto} {N : List Addr → Sto → Prop} {R : D → Prop}
/-- over a step of the generator -/
theorem Rel.gen {O Ow' : List Addr} {σ' : Sto} {h₁ h h' : Heap} {W : List Addr} (e₁ : EnvOk env h₁) (r : Rel O Ow' env σ' h) (hW : FpW h₁ h W) (hk : ∀ b o, b ∉ W → h.get? b = some o → h'.get? b = some o) : Rel O Ow' env σ' h' := by
  have old : ∀ b, (∃ o, h₁.get? b = some o) → b ∉ W := fun b ⟨o, e⟩ hm => by rw [(hW b hm).1] at e; cases e
  have hL : env.locals ∉ W := old _ (e₁.loc)
  have hC : ∀ x c, env.cells.lookup x = some c → c ∉ W := fun x c e => old _ (e₁.cell e)
  have sq : ∀ b o, h.get? b = some o → (∃ xs n, o.data = .seq xs n) → h'.get? b = some o := fun b o e ⟨xs, n, hd⟩ => hk b o (fun hm => ((hW b hm).2 o e).1 _ _ hd) e
  refine ⟨⟨r.ok.fn, let ⟨m, n⟩ := r.ok.ns; ⟨m, ns_keep n fun o e _ => hk _ o hL e⟩, fun y c e => let ⟨v, n⟩ := r.ok.cells y c e; ⟨v, cell_keep n fun o e' _ => hk _ o (hC y c e) e'⟩⟩, fun y en q => ?_, r.sub, fun a ha => ?_⟩
  · refine Classical.byContradiction fun hN => ?_
    obtain ⟨v, lv, i⟩ := r.ent y en q
    refine hN ?_
    clear hN
    refine ⟨v, ?_, i.move (fun b o e d _ => sq b o e d) fun a _ vs ⟨kk, e⟩ => ⟨kk, sq a _ e ⟨_, _, rfl⟩⟩⟩
    rcases lv with ⟨k, m, n, e⟩ | ⟨k, c, e, n⟩
    · exact .inl ⟨k, m, ns_keep n fun o e _ => hk _ o hL e, e⟩
    · exact .inr ⟨k, c, e, cell_keep n fun o e' _ => hk _ o (hC y c e) e'⟩
  · refine Classical.byContradiction fun hN => ?_
    obtain ⟨o, e, d⟩ := r.ex a ha
    refine hN ?_
    clear hN
    exact ⟨o, sq a o e d, d⟩
theorem SS.gen {s₁ s s' : Shared} {W : List Addr} {g : Nat} {gs : GenState} (t : TbOk C.TB s₁.heap) (x : SS C env Ow s₁ s) (hW : FpW s₁.heap s.heap W) (hk : ∀ b o, b ∉ W → s.heap.get? b = some o → s'.heap.get? b = some o) (ho : s'.os = s.os) (hg : s₁.gens.size ≤ g) (hb : gs.bare = true) (e : s'.gens = s.gens.setIfInBounds g gs) : SS C env Ow s₁ s' := by
  have old : ∀ b, (∃ o, s₁.heap.get? b = some o) → b ∉ W := fun b ⟨o, e⟩ hm => by rw [(hW b hm).1] at e; cases e
  refine ⟨⟨fun b o e hT hM => hk b o (old b ⟨o, e⟩) (x.ks.keep b o e hT hM), fun b hb ps e => ?_⟩, ho.trans x.os, ?_, fun b hb => ?_⟩
  · obtain ⟨m, e'⟩ := x.ks.tab b hb ps e
    exact ⟨m, hk b _ (old b ⟨_, e⟩) e'⟩
  · rw [e]
    exact GensB.set x.gens hg hb
  · cases q : s₁.heap.get? b with
    | none => rfl
    | some o =>
      cases q' : s.heap.get? b with
      | none => rw [x.there b q'] at q; cases q
      | some o' => rw [hk b o' (old b ⟨o, q⟩) q'] at hb; cases hb
theorem SS.has {s₁ s : Shared} (x : SS C env Ow s₁ s) : Has s₁.heap s.heap := fun b o e => by
  cases q : s.heap.get? b with
  | none => rw [x.there b q] at e; cases e
  | some o' => exact ⟨o', rfl⟩
set_option maxHeartbeats 2000000 in
theorem Ex1.forEsc (T : Top C) {e : Expr} {x : Str} {p1 p2 p3 p4 pt pos : Pos} {mm : Nat} {body : List Stmt} (ge : GE env) (h : Ev C (n + 1) env σ e (.str x)) (hx : ∀ c ∈ x.cps.toList, c ≠ 92) (J : Nat → List Addr → Sto → Prop) (j0 : J 0 Ow σ)
    (hB : ∀ i c Ow' σ', x.cps[i]? = some c → J i Ow' σ' → Ex C (n + 1) env O₀ Ow' (("ch", .val (.str ⟨#[c]⟩)) :: ("pos", .val (.int (i : Nat))) :: σ') body (J (i + 1)) R) (hN : ∀ Ow' σ', J x.cps.size Ow' σ' → N Ow' σ')
    (hkx : env.kindOf "_iter_escaped_chars" = some .globalImplicit := by rfl) (hkp : env.kindOf "pos" = some .local := by rfl) (hkc : env.kindOf "ch" = some .local := by rfl) (he : starEach [e] env = (false, eval e env) :: starEach [] env := by rfl) :
    Ex1 C (n + 1) env O₀ Ow σ (.For (.Tuple [.Name "pos" p1, .Name "ch" p2] mm pt) (.Call (.Name "_iter_escaped_chars" p3) [e] [] p4) body [] pos) N R := fun A s Q g qn qr => by
  refine wpAny_For ?_
  refine Call_Name rfl (glob ge hkx T.hEsc.gv g.g.w ?_)
  refine Classical.byContradiction fun hN => ?_
  obtain ⟨o, ho, hfd⟩ := T.hEsc.fk.ob
  refine hN ?_
  clear hN
  refine callWith_function (o := o) (fd := T.esc.fd 2) (evalArgs_of (Evs.cons h Evs.nil he) he g.g fun vs s₁ k is => ⟨⟨(g.sk k).g.w.k _ o ho, hfd⟩, ?_⟩)
  cases is with
  | cons i is =>
  cases is
  cases i with
  | str _ t =>
  have g₁ := g.sk k
  have hh := g.g.a.hd
  have hdp : A.depth < recursionLimit := g.g.a.depth
  have FA := T.hEsc.fk.at g₁.g.w
  refine wpAny_call ?_
  refine codeAny_call_generator (body := bodyOf PB 2) hdp (g₁.g.w.k _ o ho) hfd rfl rfl rfl FA.code ?_
  refine wpAny_of_eq (a := [(("addr" : Str), Value.str x t)]) rfl ?_
  refine wpAny_newFunctionEnv ?_ ?_ (fun h' hn' hs' => ⟨?_, ?_⟩)
  · show ∀ y ∈ (fdOf PB 2 .none 0 .none .none).scope.names, y.2 ≠ .cell
    decide +kernel
  · intro y hy; rw [List.mem_singleton] at hy; subst hy; rfl
  · exact (g₁.g.w.noLimit T.st).keeps fun b o e => hs'.extBut b o (Nat.ne_of_lt (Heap.lt_size e)) (Heap.get?_push_of_some _ e)
  have hs₁ : ∀ b o, s₁.heap.get? b = some o → h'.get? b = some o := fun b o e => hs'.extBut b o (Nat.ne_of_lt (Heap.lt_size e)) (Heap.get?_push_of_some _ e)
  have hsz : h'.objs.size = s₁.heap.objs.size + 1 := by rw [hs'.1, Heap.size_push]
  dsimp only at hn' ⊢
  have fresh : ∀ k, s₁.heap.get? (s₁.heap.objs.size + k) = none := fun k => by
    cases q : s₁.heap.get? (s₁.heap.objs.size + k) with
    | none => rfl
    | some o => exact absurd (Heap.lt_size q) (Nat.not_lt.mpr (Nat.le_add_right _ _))
  have hI₀ : s₁.heap.get? h'.objs.size = none := by rw [hsz]; exact fresh 1
  have gI : ∀ k u, (h'.push { cls := .type "generator", data := .fields #[.int s₁.gens.size 0, .str (T.esc.fd 2).name k, .str (T.esc.fd 2).qualname u] }).IsGen h'.objs.size s₁.gens.size := fun k u => ⟨_, _, _, Heap.get?_push_size _ rfl, rfl, rfl, rfl⟩
  refine wpAny_pyIter_gen (gI _ _) ?_
  have hLK : C.K.lookup s₁.heap.objs.size = none := by
    cases q : C.K.lookup s₁.heap.objs.size with
    | none => rfl
    | some o => have := g₁.g.w.k _ o q; rw [show s₁.heap.get? s₁.heap.objs.size = none from fresh 0] at this; cases this
  have main : ∀ s₂ : Shared, s₂.heap.IsGen h'.objs.size s₁.gens.size → (∀ b o, h'.get? b = some o → s₂.heap.get? b = some o) → s₂.os = s₁.os → s₂.gens = s₁.gens.push (.fresh (.func (bodyOf PB 2) (callEnv (T.esc.fd 2) s₁.heap.objs.size T.esc.a))) →
      codeAny C.M A (.forLoop (.Tuple [.Name "pos" p1, .Name "ch" p2] mm pt) (.ref h'.objs.size) body [] env) (fun r s' => match r with | .ok f => Q f s' | .error e => cameBackBy C.M A env NoE e s') s₂ := by
    intro s₂ hg₂ hk₂ ho₂ hge₂
    have k12 : ∀ b o, s₁.heap.get? b = some o → s₂.heap.get? b = some o := fun b o e => hk₂ b o (hs₁ b o e)
    have kp₁ : Kp C.TB s₁.heap s₂.heap := .of k12
    have ss₂ : SS C env Ow s₁ s₂ := ⟨kp₁.ks _, ho₂, ⟨#[.fresh (.func (bodyOf PB 2) (callEnv (T.esc.fd 2) s₁.heap.objs.size T.esc.a))], by rw [hge₂]; simp, fun y hy => by rw [Array.mem_singleton.mp hy]; rfl⟩, fun b hb => by
      cases q : s₁.heap.get? b with
      | none => rfl
      | some o => rw [k12 b o q] at hb; cases hb⟩
    have r₂ := g₁.g.r.kp kp₁ g₁.g.w.tb
    have locOld : ∃ o, s₁.heap.get? env.locals = some o := g₁.g.r.ok.loc
    have notOld : ∀ b, s₁.heap.get? b = none → b ≠ env.locals ∧ b ∉ C.TB ∧ b ∉ ownCells env := fun b hb => by
      refine ⟨fun q => ?_, fun q => ?_, fun q => ?_⟩
      · obtain ⟨o, e⟩ := locOld; rw [← q, hb] at e; cases e
      · obtain ⟨ps, e⟩ := g₁.g.w.tb b q; rw [hb] at e; cases e
      · refine Classical.byContradiction fun hN => ?_
        obtain ⟨y, hm⟩ := mem_ownCells q
        obtain ⟨v, o', e', _⟩ := g₁.g.r.ok.cells y b (lookup_of_mem_nodup g₁.nd hm)
        refine hN ?_
        clear hN
        rw [hb] at e'; cases e'
    have at₀ : EscAt C A s₁.heap x h'.objs.size s₁.gens.size 0 [s₁.heap.objs.size] s₂ := by
      refine ⟨hg₂, fun b hb => ?_, .fresh (.func (bodyOf PB 2) (callEnv (T.esc.fd 2) s₁.heap.objs.size T.esc.a)), by rw [hge₂]; exact Array.getElem?_push_size .., fun s'' w'' has'' hal => ⟨rfl, ?_⟩⟩
      · rw [List.mem_singleton] at hb; subst hb
        refine Classical.byContradiction fun hN => ?_
        obtain ⟨o, e, ht⟩ := ns_obj hn'
        refine hN ?_
        clear hN
        exact ⟨fresh 0, o, hk₂ _ _ e, ht⟩
      · exact esc_start (C := C) (A := A.in1) (fd := T.esc.fd 2) (L := s₁.heap.objs.size) (a := T.esc.a) (x := x) (t := t) (h₀ := s₁.heap) rfl rfl rfl T.enumerate hx hh w'' ((hn'.keeps hk₂).at' fun o e => hal _ (by simp) o e) rfl (fresh 0) has'' hLK
    let Inv : Nat → Shared → Prop := fun k s' => ∃ i Ow' σ' fp, i ≤ x.cps.size ∧ k = x.cps.size + 1 - i ∧ J i Ow' σ' ∧ SS C env Ow s₁ s' ∧ NewO Ow Ow' s₁.heap ∧ Rel (Ow' ++ O₀) Ow' env σ' s'.heap ∧ EscAt C A s₁.heap x h'.objs.size s₁.gens.size i fp s'
    refine codeAny_forLoop_any Inv (fun kn s' hJ => noE ?_) (x.cps.size + 1) ⟨0, Ow, σ, _, Nat.zero_le _, rfl, j0, ss₂, .refl, r₂, at₀⟩
    refine Classical.byContradiction fun hN => ?_
    obtain ⟨i, Ow', σ', fp, hi, hkk, hj, ss, hn, rel, esc⟩ := hJ
    refine hN ?_
    clear hN
    have w' : Wd C.K C.TB s'.heap := ss.ks.wd g₁.g.w g₁.f
    by_cases hlt : i < x.cps.size
    · refine EscAt.next hh hdp (w'.noLimit T.st) w' ss.has esc hlt fun Ta c tt u fp' W s₂' hc hT hT' hW hk hos ⟨gs', hb', hgs'⟩ esc' => ?_
      have ss' := SS.gen g₁.g.w.tb ss hW hk hos (Nat.le_refl _) hb' hgs'
      have rel' := Rel.gen g₁.g.r.ok rel hW hk
      have w₂ : Wd C.K C.TB s₂'.heap := ss'.ks.wd g₁.g.w g₁.f
      refine noE (own_gen esc'.gen ?_)
      have hTO : Ta ∉ Ow' ++ O₀ := fun hm => by
        refine Classical.byContradiction fun hN => ?_
        obtain ⟨o, e, _⟩ := rel.ex _ hm
        refine hN ?_
        clear hN
        rw [hT] at e; cases e
      have iv : Is (Ow' ++ O₀) s₂'.heap (.ref Ta) (.tup [.int (i : Nat), .str ⟨#[c]⟩]) := .tup ⟨0, hT'⟩ hTO (.cons (.int _ _) (.cons (.str _ _) .nil))
      refine noE ((Asg.tup (C := C) (n := n + 1) (m := mm) (p := pt) (.cons hkp (.cons hkc .nil))) A (Ow' ++ O₀) Ow' σ' s₂' (.ref Ta) _ ⟨g.g.a, w₂, rel'⟩ iv fun s₃ ks₃ os₃ gs₃ rel₃ => ?_)
      have w₃ : Wd C.K C.TB s₃.heap := ks₃.wd w₂ fun b hb => by rw [List.mem_singleton] at hb; exact hb ▸ g.f _ Mu.loc
      have ss₂₃ : SS C env Ow' s₂' s₃ := by
        have := ss_store (C := C) (env := env) (Ow := Ow') (s := s₂') (h' := s₃.heap) (tk := s₃.toks) w₂.tb ks₃ Mu.loc rel₃.ok.loc
        exact ⟨this.ks, os₃, ⟨#[], by rw [gs₃]; simp, .empty⟩, this.there⟩
      have fOw : ∀ b ∈ Mu env Ow', C.K.lookup b = none := fun b hb => by
        unfold Mu at hb
        rcases List.mem_cons.mp hb with h | h
        · exact g.f b (h ▸ List.mem_cons_self)
        · rcases List.mem_append.mp h with h | h
          · exact g.f b (List.mem_cons_of_mem _ (List.mem_append_left _ h))
          · rcases hn b h with h | h
            · exact g.f b (List.mem_cons_of_mem _ (List.mem_append_right _ h))
            · cases q : C.K.lookup b with
              | none => rfl
              | some o => rw [g₁.g.w.k b o q] at h; cases h
      have esc₃ : EscAt C A s₁.heap x h'.objs.size s₁.gens.size (i + 1) fp' s₃ := by
        refine esc'.keep (by rw [gs₃]) (fun o e => ks₃.keep _ o e (notOld _ hI₀).2.1 (by simpa using (notOld _ hI₀).1)) fun b hb o e => ?_
        have := notOld b (esc'.ok b hb).1
        exact ks₃.keep b o e this.2.1 (by simpa using this.1)
      refine noE (hB i c Ow' σ' hc hj A s₃ _ ⟨⟨g.g.a, w₃, rel₃⟩, fOw, g.ap, g.nd⟩ (fun Ow'' σ'' s₄ hj' ss₄ hn' rel₄ => ?_) fun d v s₄ hR ss₄ i => qr d v s₄ hR ((k.ss g.g.w.tb).trans ((ss'.trans ss₂₃ hn).trans ss₄ hn) .refl) i)
      have mu : ∀ b, s₁.heap.get? b = none → (∃ o, s₃.heap.get? b = some o ∧ ∀ xs n, o.data ≠ .seq xs n) → b ∉ Mu env Ow' := fun b h1 ⟨o, e, ht⟩ hm => by
        refine Classical.byContradiction fun hN => ?_
        obtain ⟨n1, n2, n3⟩ := notOld b h1
        refine hN ?_
        clear hN
        unfold Mu at hm
        rcases List.mem_cons.mp hm with h | h
        · exact n1 h
        · rcases List.mem_append.mp h with h | h
          · exact n3 h
          · refine Classical.byContradiction fun hN => ?_
            obtain ⟨o', e', xs, nn, hd⟩ := rel₃.ex b (List.mem_append_left _ h)
            refine hN ?_
            clear hN
            rw [e] at e'; cases e'; exact ht _ _ hd
      have esc₄ : EscAt C A s₁.heap x h'.objs.size s₁.gens.size (i + 1) fp' s₄ := by
        refine esc₃.keep ?_ (fun o e => ss₄.ks.keep _ o e (notOld _ hI₀).2.1 (mu _ hI₀ ?_)) fun b hb o e => ?_
        · refine Classical.byContradiction fun hN => ?_
          obtain ⟨more, em, _⟩ := ss₄.gens
          obtain ⟨gs, hgs, _⟩ := esc₃.go
          refine hN ?_
          clear hN
          rw [em, Array.getElem?_append_left (Array.getElem?_eq_some_iff.mp hgs).1]
        · refine Classical.byContradiction fun hN => ?_
          obtain ⟨o', nm, qn', e', _, hd, _⟩ := esc₃.gen
          refine hN ?_
          clear hN
          exact ⟨o', e', fun _ _ z => by rw [hd] at z; cases z⟩
        · refine Classical.byContradiction fun hN => ?_
          obtain ⟨h1, o', e', ht⟩ := esc₃.ok b hb
          refine hN ?_
          clear hN
          exact ss₄.ks.keep b o e (notOld b h1).2.1 (mu b h1 ⟨o', e', ht.1⟩)
      refine ⟨x.cps.size + 1 - (i + 1), by (clear esc₄ mu rel₄ hn' ss₄ hj' esc₃ fOw ss₂₃ w₃ rel₃ gs₃ os₃ ks₃ iv hTO w₂ rel' ss' hgs' hb' esc' hos hk hW hT' hT hc hlt w' esc rel hn ss hj at₀ notOld locOld r₂ ss₂ kp₁ k12 hge₂ ho₂ hk₂ hg₂ hLK gI hI₀ fresh hsz hs₁ hs' FA hdp hh g₁ k hfd ho qr qn g he hkc hkp hkx hN hB j0 hx h ge; lia), i + 1, Ow'', σ'', fp', hlt, rfl, hj', (ss'.trans ss₂₃ hn).trans ss₄ hn, fun a ha => ?_, rel₄, esc₄⟩
      rcases hn' a ha with h | h
      · exact hn a h
      · exact .inr (ss'.there a (ss₂₃.there a h))
    · have hin : i = x.cps.size := by (first | lia | omega)
      subst hin
      refine EscAt.done hh hdp (w'.noLimit T.st) w' ss.has esc fun W s₂' hW hk hos ⟨gs', hb', hgs'⟩ => ?_
      have ss' := SS.gen g₁.g.w.tb ss hW hk hos (Nat.le_refl _) hb' hgs'
      have rel' := Rel.gen g₁.g.r.ok rel hW hk
      exact wpAny_execs_nil (qn Ow' σ' _ (hN _ _ hj) ((k.ss g.g.w.tb).trans ss' .refl) (fun a ha => (hn a ha).imp id fun q => k.gone g.g.w.tb a q) rel')
  exact main _ (gI _ _) (fun b o e => Heap.get?_push_of_some _ e) rfl rfl
end
end Mine
end

section
set_option maxRecDepth 100000
set_option linter.unusedVariables false
set_option tactic.hygienic false
namespace Mine
open PySem PySem.Calls PyProof.Rows PySem.W PySem.SeqAt
section
variable {C : Cx} {n : Nat}
theorem Cmp.eqStr {x y : Str} : Cmp C n .Eq (.str x) (.str y) (x == y) := fun A O s v₁ v₂ Q ha i₁ i₂ q => by cases i₁; cases i₂; exact PyProof.Rows.eq_str (q _ (.refl _ _))
theorem Cmp.notInStr1 {x : Str} {c : Nat} {y : Str} (hy : y = ⟨#[c]⟩) (hc : c ∉ x.cps.toList) : Cmp C n .NotIn (.str y) (.str x) true := fun A O s v₁ v₂ Q ha i₁ i₂ q => by
  subst hy
  cases i₁; cases i₂
  refine PyProof.Rows.notIn_str ?_
  rw [StrLaws.found_one, decide_eq_false hc]
  exact q _ (.refl _ _)
theorem iadd_ok {a b : Int} (A : Around) (O Ow : List Addr) (env : Env) (σ : Sto) (s : Shared) (v₁ v₂ : Value) (Q : Value → Shared → Prop) (g : Good C n A O Ow env σ s) (i₁ : Is O s.heap v₁ (.int a)) (i₂ : Is O s.heap v₂ (.int b)) (q : ∀ v s', SK C.TB s s' → Is O s'.heap v (.int (a + b)) → Q v s') : wpAny C.M A (inplaceOp .Add v₁ v₂) Q NoE s := by
  cases i₁; cases i₂
  exact AutoIntOps.iadd_0 (q _ _ (.toks _) (.int _ _))
theorem isub_ok {a b : Int} (A : Around) (O Ow : List Addr) (env : Env) (σ : Sto) (s : Shared) (v₁ v₂ : Value) (Q : Value → Shared → Prop) (g : Good C n A O Ow env σ s) (i₁ : Is O s.heap v₁ (.int a)) (i₂ : Is O s.heap v₂ (.int b)) (q : ∀ v s', SK C.TB s s' → Is O s'.heap v (.int (a - b)) → Q v s') : wpAny C.M A (inplaceOp .Sub v₁ v₂) Q NoE s := by
  cases i₁; cases i₂
  exact AutoIntOps.isub_0 (q _ _ (.toks _) (.int _ _))
theorem strip_spec (T : Top C) {x : Str} (hx : 34 ∉ x.cps.toList) : Fn C (n + 1) (.ref T.strip.a) [.str x] (.str x) := by
  refine Fn.of1 (body := bodyOf PB 3) (x := "addr") T.st T.hStrip.fk rfl rfl (fun _ => rfl) (.inl rfl) rfl fun L O => ?_
  exact Ex.ifRet (b := true) (.cmp .strc (.name rfl) (.notInStr1 rfl hx)) (fun _ => .ret (.name rfl) rfl) fun h => by cases h
/-- the heights of brackets -/
noncomputable def parB : Int → List Nat → Bool
  | h, [] => h == 0
  | h, c :: r => if c = 40 then parB (h + 1) r else if c = 41 then (if h - 1 < 0 then false else parB (h - 1) r) else parB h r
noncomputable def chkS (x : Str) (h : Int) : Sto := [("opens", .val (.int h)), ("addr", .val (.str x))]
theorem sign_eq (c d : Nat) (y : Str) (hy : y = ⟨#[d]⟩) : ((⟨#[c]⟩ : Str) == y) = decide (c = d) := by
  subst hy
  rw [Bool.eq_iff_iff, beq_iff_eq, decide_eq_true_iff]
  constructor
  · intro h
    have := congrArg (fun z : Str => z.cps[0]?) h
    simpa using this
  · rintro rfl; rfl
noncomputable def chkP (x : Str) (i : Nat) (Ow : List Addr) (σ : Sto) : Prop := Ow = [] ∧ ∃ h, parB 0 x.cps.toList = parB h (x.cps.toList.drop (i + 1)) ∧ σ.lookup ("opens" : Str) = some (.val (.int h)) ∧ σ.lookup ("addr" : Str) = some (.val (.str x))
set_option maxHeartbeats 2000000 in
theorem check_spec (T : Top C) {x : Str} (hx : 34 ∉ x.cps.toList) (hx2 : ∀ c ∈ x.cps.toList, c ≠ 92) : Fn C (n + 2) (.ref T.check.a) [.str x] (.bool (parB 0 x.cps.toList)) := by
  refine Fn.of1 (body := bodyOf PB 4) (x := "addr") T.st T.hCheck.fk rfl rfl (fun _ => rfl) (.inl rfl) rfl fun L O => ?_
  have ge : GE (callEnvC (T.check.fd 4) L T.check.a) := ⟨rfl, rfl, rfl⟩
  refine Ex.set (.callF ge T.hStrip.gv T.hStrip.fk.obj (.cons (.name rfl) .nil) (strip_spec T hx)) (Ex.set .int ?_)
  refine Fl.weak (σ' := chkS x 0) ?_ ⟨rfl, rfl, trivial⟩
  refine Ex.cons (N₁ := fun Ow σ => Ow = [] ∧ ∃ h, parB 0 x.cps.toList = (h == 0) ∧ σ = chkS x h) (Ex1.forEsc T ge (.name rfl) hx2 (fun i Ow σ => Ow = [] ∧ ∃ h, parB 0 x.cps.toList = parB h (x.cps.toList.drop i) ∧ σ = chkS x h) ⟨rfl, 0, rfl, rfl⟩ ?_ ?_) ?_
  · rintro i c _ _ hc ⟨rfl, h, hp, rfl⟩
    have hd : x.cps.toList.drop i = c :: x.cps.toList.drop (i + 1) := by
      obtain ⟨hlt, e⟩ := Array.getElem?_eq_some_iff.mp hc
      rw [List.drop_eq_getElem_cons (by simpa using hlt)]
      simp [e]
    rw [hd, parB] at hp
    refine Ex.cons (N₁ := chkP x i) ?_ (by
      rintro _ σ ⟨rfl, h', hp', h1, h2⟩
      exact Ex.nilW (chkS x h') ⟨rfl, h', hp', rfl⟩ ⟨h1, h2, trivial⟩)
    refine .if_ (b := decide (c = 40)) (.eq (.cmp (.name rfl) .strc .eqStr) (sign_eq c 40 _ rfl)) (fun hb => ?_) fun hb => ?_
    · have hc40 : c = 40 := by simpa using hb
      rw [if_pos hc40] at hp
      exact .one (.aug rfl .int (fun A O Ow s v₁ v₂ Q g i₁ i₂ q => iadd_ok A O Ow _ _ s v₁ v₂ Q g i₁ i₂ q) ⟨rfl, rfl⟩) (.nil ⟨rfl, _, hp, rfl, rfl⟩)
    · have hc40 : c ≠ 40 := by simpa using hb
      rw [if_neg hc40] at hp
      refine .cons (N₁ := chkP x i) (.if_ (b := decide (c = 41)) (.eq (.cmp (.name rfl) .strc .eqStr) (sign_eq c 41 _ rfl)) (fun hb => ?_) fun hb => ?_) fun _ _ hP => .nil hP
      · have hc41 : c = 41 := by simpa using hb
        rw [if_pos hc41] at hp
        refine .one (.aug rfl .int (fun A O Ow s v₁ v₂ Q g i₁ i₂ q => isub_ok A O Ow _ _ s v₁ v₂ Q g i₁ i₂ q) ⟨rfl, rfl⟩) ?_
        refine Ex.ifRet (b := decide (h - 1 < 0)) (.cmp (.name rfl) .int .ltInt) (fun hb => ?_) fun hb => ?_
        · rw [if_pos (by simpa using hb)] at hp
          exact .ret .boolc (by rw [hp])
        · rw [if_neg (by simpa using hb)] at hp
          exact .nil ⟨rfl, _, hp, rfl, rfl⟩
      · have hc41 : c ≠ 41 := by simpa using hb
        rw [if_neg hc41] at hp
        exact .nil ⟨rfl, _, hp, rfl, rfl⟩
  · rintro _ _ ⟨rfl, h, hp, rfl⟩
    refine ⟨rfl, h, ?_, rfl⟩
    rw [hp, List.drop_of_length_le (by simp)]
    rfl
  · rintro _ _ ⟨rfl, h, hp, rfl⟩
    exact Ex.ret (.cmp (.name rfl) .int .eqInt) (by rw [hp])
end
end Mine
end

section
set_option maxRecDepth 100000
set_option linter.unusedVariables false
set_option tactic.hygienic false
namespace Mine
open PySem PySem.Calls PyProof.Rows PySem.W PySem.SeqAt
section
variable {C : Cx} {n : Nat}
theorem look_app {σ σf : Sto} {y : Str} {e : Ent} (h : (σ ++ σf).lookup y = some e) : σ.lookup y = some e ∨ σf.lookup y = some e := by
  induction σ with
  | nil => exact .inr h
  | cons z r ih =>
    obtain ⟨z, ez⟩ := z
    by_cases hm : y = z
    · subst hm; rw [List.cons_append, List.lookup_cons_self] at h; exact .inl (by rw [List.lookup_cons_self]; exact h)
    · rw [List.cons_append, lookup_ne hm] at h
      rw [lookup_ne hm]
      exact ih h
theorem rev_lookup {bs : List (Str × Value)} {y : Str} {v : Value} (hnd : (bs.map (·.1)).Nodup) (hm : (y, v) ∈ bs) : bs.reverse.lookup y = some v := by
  have nd' : (bs.reverse.map (·.1)).Nodup := by rw [List.map_reverse]; exact (List.pairwise_reverse.mpr (hnd.imp fun h => Ne.symm h))
  have hm' := List.mem_reverse.mpr hm
  generalize bs.reverse = bs' at nd' hm'
  induction bs' with
  | nil => cases hm'
  | cons z r ih =>
    obtain ⟨z, ez⟩ := z
    rw [List.map_cons, List.nodup_cons] at nd'
    rcases List.mem_cons.mp hm' with h | h
    · cases h; rw [List.lookup_cons_self]
    · have : y ≠ z := fun q => nd'.1 (q ▸ List.mem_map.mpr ⟨_, h, rfl⟩)
      rw [List.lookup_cons, show (y == z) = false from by simpa using this]
      exact ih nd'.2 h
/-- a lambda with cells from around -/
theorem call_lam {A : Around} {O : List Addr} {a : Addr} {fd : FuncData} {vs : List Value} {kw : List (Str × Value)} {binds : List (Str × Value)} {σ σf : Sto} {s : Shared} {Q : Value → Shared → Prop} {e : Expr} {d : D}
    (st : Statics C) (ha : AOk (n + 1) A) (w : Wd C.K C.TB s.heap) (ex : OOk O s.heap) (fa : FnAt s.heap a fd) (hbind : BindsTo s fd ⟨vs, kw⟩ binds) (hb : Binds O s.heap binds σ)
    (hbody : fd.body = .expr e) (hnd : (binds.map (·.1)).Nodup) (hcell : ∀ x ∈ fd.scope.names, x.2 ≠ .cell) (hloc : ∀ x ∈ binds, fd.scope.names.lookup x.1 = some .local)
    (hcl : ∀ y c, fd.closure.lookup y = some c → ∃ v, s.heap.IsCell c v)
    (hfree : ∀ y e, σf.lookup y = some e → fd.scope.names.lookup y = some .free ∧ ∃ c v, fd.closure.lookup y = some c ∧ s.heap.IsCell c (some v) ∧ EntOk O [] s.heap v e)
    (hEv : Ev C n (callEnv fd s.heap.objs.size a) (σ ++ σf) e d)
    (q : ∀ v s', SK C.TB s s' → Is O s'.heap v d → Q v s')
    (hco : fd.scope.isCoroutine = false := by rfl) (hgen : fd.scope.isGenerator = false := by rfl) (hk : fd.scope.kind = .function := by rfl) :
    wpAny C.M A (call (.ref a) vs kw) Q NoE s := by
  refine wpAny_call ?_
  obtain ⟨o, ho, hdata⟩ := fa.ob
  refine kla_callFunE ha.depth ho hdata hco hgen hbody fa.code (hbind _ _ _ _ ?_)
  refine wpAny_newFunctionEnv hcell hloc (fun h₁ hns hs₁ => ⟨(w.noLimit st).fresh _ hs₁, kla_codeExpr (noE ?_)⟩) hk
  have keep : ∀ b o, s.heap.get? b = some o → h₁.get? b = some o := fun b o e => hs₁.extBut b o (Nat.ne_of_lt (Heap.lt_size e)) (Heap.get?_push_of_some _ e)
  have kp' : Kp C.TB s.heap h₁ := .of keep
  have sk' : SK C.TB s { s with heap := h₁, toks := s.toks + binds.length } := .heap kp'
  refine hEv (A.deeper (callEnv fd s.heap.objs.size a)) O [] _ _ ⟨ha.deeper, w.kp kp', ⟨hk, ⟨_, hns⟩, fun y c e => let ⟨v, ic⟩ := hcl y c e; ⟨v, kp'.cell w.tb ic⟩⟩, fun y e he => ?_, (fun a ha => nomatch ha), ex.kp kp' w.tb⟩ fun v s' k i => q v s' (sk'.trans k) i
  rcases look_app he with he | he
  · obtain ⟨v, hv, i⟩ := hb.get he
    exact ⟨v, .inl ⟨hloc _ hv, _, hns, rev_lookup hnd hv⟩, i.move (kp'.seq w.tb O) fun a ha => nomatch ha⟩
  · obtain ⟨hf, c, v, hc, ic, i⟩ := hfree y e he
    exact ⟨v, .inr ⟨.inr hf, c, hc, kp'.cell w.tb ic⟩, i.move (kp'.seq w.tb O) fun a ha => nomatch ha⟩
end
end Mine
end

section
set_option maxRecDepth 100000
set_option maxHeartbeats 0
set_option linter.unusedVariables false
set_option tactic.hygienic false
namespace Mine
open PySem PySem.Calls PyProof.Rows PySem.W PySem.SeqAt
section
variable {C : Cx} {n : Nat} {env : Env} {σ : Sto} {O₀ Ow : List Addr}
theorem call_iter {prog : Program} {w : World} {A : Around} {E : Value → Shared → Prop} {s : Shared} {x : Addr} {Q : Value → Shared → Prop} (h : wpAny (model prog w) A.in1 (pyIter (.ref x)) (fun v s' => ∃ y, v = .ref y ∧ Q (.ref y) s') E s) : wpAny (model prog w) A (call (.builtin "iter") [.ref x]) Q E s := by
  refine call_function_entry (by decide +kernel) (by decide +kernel) kdk_entry_iter (kdk_args_iter _) ?_
  unfold Builtin.«iter»
  refine wpAny_bind (m := someArgs "iter" 1 2 _) (wpAny_of_eq (a := [Value.ref x]) (by first | rfl | kernel_rfl!) ?_)
  show wpAny _ _ (pyIter (.ref x) >>= _) _ _ _
  exact wpAny_bind (wpAny_mono h (fun v s' ⟨y, e, q⟩ => by subst e; exact wpAny_pure ⟨_, rfl, q⟩) fun _ _ e => e)
theorem Mu.nil_data {b : Addr} {h : Heap} (ok : EnvOk env h) (nd : (env.cells.map (·.1)).Nodup) (hb : b ∈ Mu env []) : ∃ o, h.get? b = some o ∧ ((∃ es ep, o.data = .dict es ep) ∨ ∃ v, o.data = .cell v) := by
  unfold Mu at hb
  rcases List.mem_cons.mp hb with e | e
  · refine Classical.byContradiction fun hN => ?_
    obtain ⟨m, o', es, ep, e', hd', _⟩ := ok.ns
    refine hN ?_
    clear hN
    exact ⟨o', by rw [e]; exact e', .inl ⟨_, _, hd'⟩⟩
  · rw [List.append_nil] at e
    refine Classical.byContradiction fun hN => ?_
    obtain ⟨x, hmc⟩ := mem_ownCells e
    obtain ⟨v, o', e', hd'⟩ := ok.cells x b (lookup_of_mem_nodup nd hmc)
    refine hN ?_
    clear hN
    exact ⟨o', e', .inr ⟨_, hd'⟩⟩
theorem IterAt.ss {A : Around} {O : List Addr} {I : Addr} {ds : List D} {h₀ : Heap} {s s' : Shared} (it : IterAt C A O I ds h₀ s.heap) (k : SS C env [] s s') (t : TbOk C.TB s.heap) (ok : EnvOk env s.heap) (nd : (env.cells.map (·.1)).Nodup) : IterAt C A O I ds h₀ s'.heap := by
  refine Classical.byContradiction fun hN => ?_
  obtain ⟨fp, P, St, W, hst, hI0, hfp, hP, hit⟩ := it
  refine hN ?_
  clear hN
  have apart : ∀ b o, s.heap.get? b = some o → (∀ es ep, o.data ≠ .dict es ep) → (∀ v, o.data ≠ .cell v) → b ∉ Mu env [] := fun b o e h1 h2 hm => by
    obtain ⟨o', e', hd⟩ := Mu.nil_data ok nd hm
    rw [e] at e'; cases e'
    rcases hd with ⟨es, ep, hd⟩ | ⟨v, hd⟩
    · exact h1 _ _ hd
    · exact h2 _ hd
  have kfp : ∀ b ∈ fp, ∀ o, s.heap.get? b = some o → s'.heap.get? b = some o := fun b hb o e => by
    refine Classical.byContradiction fun hN => ?_
    obtain ⟨hT, _, o', e', h1, h2⟩ := hfp b hb
    refine hN ?_
    clear hN
    rw [e] at e'; cases e'
    exact k.ks.keep b o e hT (apart b o e h1 h2)
  have dk : DataKeep O s.heap s'.heap := fun b o e ⟨xs, m, hd⟩ _ => k.ks.keep b o e (t.apart e fun ⟨ps, q⟩ => by rw [q] at hd; cases hd) (apart b o e (fun _ _ z => by rw [hd] at z; cases z) fun _ z => by rw [hd] at z; cases z)
  refine ⟨fp, P, St, W, W.frame _ _ _ hst kfp, hI0, fun b hb => ?_, fun h₂ dk₂ i v d hp hd => hP h₂ (fun b o e sq ho => dk₂ b o (dk b o e sq ho) sq ho) i v d hp hd, hit⟩
  refine Classical.byContradiction fun hN => ?_
  obtain ⟨hT, hO, o', e', h1, h2⟩ := hfp b hb
  refine hN ?_
  clear hN
  exact ⟨hT, hO, o', kfp b hb o' e', h1, h2⟩
set_option tactic.hygienic true
/-- a list is no object of the top's -/
theorem Tr.isFar {l r : Expr} {pos : Pos} {ds : List D} {a : Addr} {o : Obj} (h₁ : Ev C n env σ l (.list ds)) (h₂ : EvR C n env σ r (.ref a)) (ho : C.K.lookup a = some o) (hc : o.cls ≠ .type "list") (hm : behindInMarks .Is r = false := by with_unfolding_all rfl) : Tr C n env σ (.Compare l [.Is] [r] pos) false := fun A O Ow s Q g q =>
  wpAny_isTrue_Compare1 (h₁ A O Ow s _ g fun v s₁ k₁ i => by
    cases i with
    | list hl hO xs =>
    rename_i p vs
    obtain ⟨kk, e⟩ := hl
    refine h₂ A O Ow s₁ _ (g.sk k₁) fun s₂ k₂ => ?_
    have hne : p ≠ a := fun z => by
      have := (g.sk k₁).w.k a o ho
      rw [← z, e] at this; cases this
      exact hc rfl
    exact wpAny_is_ref_other hne (k₂.kp.keep _ _ e ((g.sk k₁).w.tb.apart e fun ⟨ps, q⟩ => by cases q)) (((g.sk k₁).sk k₂).w.k a o ho) (by show Value.type "list" ≠ Value.type "tuple"; decide) (wpAny_truthy_bool (q s₂ (k₁.trans k₂)))) hm
set_option tactic.hygienic false
/-- a call with these data gives that datum, by a caller that owns just these lists -/
noncomputable def FnO (C : Cx) (n : Nat) (O : List Addr) (f : Value) (ds : List D) (d : D) : Prop :=
  ∀ (A : Around) (s : Shared) (vs : List Value) (Q : Value → Shared → Prop), AOk n A → Wd C.K C.TB s.heap → OOk O s.heap → IsAll O s.heap vs ds →
    (∀ v s', SK C.TB s s' → Is O s'.heap v d → Q v s') → wpAny C.M A (call f vs) Q NoE s
/-- a call of what a name holds -/
theorem callR_at {f : Str} {p pos : Pos} {e : Expr} {es : List Expr} {a : Addr} {ds : List D} {d : D} {A : Around} {O Ow : List Addr} {s : Shared} {Q : Value → Shared → Prop} (hr : σ.lookup f = some (.raw (.ref a))) (fo : FnObj C a) (h : Evs C n env σ (e :: es) ds) (hf : FnO C n O (.ref a) ds d)
    (g : Good C n A O Ow env σ s) (q : ∀ v s', SK C.TB s s' → Is O s'.heap v d → Q v s')
    (he : starEach (e :: es) env = (false, eval e env) :: starEach es env := by rfl) (hd : (f == ("__debug__" : Str)) = false := by decide) (hc : (f == Str.ofString "__classdict__") = false := by decide) :
    wpAny C.M A (eval (.Call (.Name f p) (e :: es) [] pos) env) Q NoE s := by
  refine Call_Name rfl (EvR.name hr hd hc A O Ow s _ g fun s₁ k₁ => ?_)
  obtain ⟨o, fd, ho, hfd⟩ := fo
  have g₁ := g.sk k₁
  refine callWith_function (o := o) (fd := fd) (evalArgs_of h he g₁ fun vs s' k is => ⟨⟨(g₁.sk k).w.k a o ho, hfd⟩, ?_⟩)
  exact hf A s' vs Q g₁.a (g₁.sk k).w (g₁.sk k).r.ex is fun v s'' k' i => q v s'' (k₁.trans (k.trans k')) i
/-- x = e, for a caller that owns just these lists -/
theorem Ex.setAt {N : List Addr → Sto → Prop} {R : D → Prop} {rest : List Stmt} {x : Str} {e : Expr} {p pos : Pos} {d : D} (h : ∀ (A : Around) (s : Shared) (Q : Value → Shared → Prop), Good C n A (Ow ++ O₀) Ow env σ s → (∀ v s', SK C.TB s s' → Is (Ow ++ O₀) s'.heap v d → Q v s') → wpAny C.M A (eval e env) Q NoE s)
    (k : Ex C n env O₀ Ow ((x, .val d) :: σ) rest N R) (hx : env.kindOf x = some .local := by rfl) (hs : swapsWith e (some (.Name x p)) pos.line env = pure false := by rfl) : Ex C n env O₀ Ow σ (.Assign [.Name x p] e pos :: rest) N R := by
  refine .one (Ow' := Ow) (σ' := (x, .val d) :: σ) (fun A s Q g qn qr => ?_) k
  refine wpAny_Assign_Name (h A s _ g.g fun v s₁ k i => ?_) hs
  have g₁ := g.sk k
  refine storeL (en := .val d) g₁.g.r g₁.g.w.tb hx i fun h' tk ks r => ?_
  exact qn _ _ _ ⟨rfl, rfl⟩ ((k.ss g.g.w.tb).trans (Ow' := Ow) (ss_store g₁.g.w.tb ks Mu.loc r.ok.loc) .refl) .refl r
set_option tactic.hygienic true
set_option tactic.hygienic false
end
end Mine
end

section
set_option maxRecDepth 100000
set_option maxHeartbeats 0
set_option linter.unusedVariables false
namespace Mine
open PySem PySem.Calls PyProof.Rows PySem.W PySem.SeqAt
section
variable {C : Cx} {n : Nat} {env : Env} {σ : Sto} {O₀ Ow : List Addr}
def redG (f I : Addr) (ds : List D) (init cur : D) : Sto := [("value", .val cur), ("it", .raw (.ref I)), ("function", .raw (.ref f)), ("sequence", .val (.list ds)), ("initial", .val init)]
theorem isSame_far {M : Model} {A : Around} {E : Value → Shared → Prop} {s : Shared} {x y : Addr} {ox oy : Obj} {R : Bool → Shared → Prop} (hxy : x ≠ y) (hx : s.heap.get? x = some ox) (hy : s.heap.get? y = some oy) (hnt : oy.cls ≠ .type "tuple")
    (h : R false s) : wpAny M A (isSame (.ref x) (.ref y)) R E s := by
  show wpAny M A (if (x == y) = true then pure true else _) R E s
  rw [if_neg (by simpa using hxy)]
  refine wpAny_bind (wpAny_load hx (wpAny_bind (wpAny_load hy ?_)))
  split
  · rename_i h2 _ _; exact absurd h2 hnt
  · exact wpAny_pure h
/-- a list or a tuple is no object of the top's -/
theorem Tr.isFarG {l r : Expr} {pos : Pos} {d : D} {a : Addr} {o : Obj} (h0 : (∃ l, d = .list l) ∨ ∃ l, d = .tup l) (h₁ : Ev C n env σ l d) (h₂ : EvR C n env σ r (.ref a)) (ho : C.K.lookup a = some o) (hc : o.cls ≠ .type "list") (hc2 : o.cls ≠ .type "tuple") (hm : behindInMarks .Is r = false := by with_unfolding_all rfl) : Tr C n env σ (.Compare l [.Is] [r] pos) false := by
  rcases h0 with ⟨ds, rfl⟩ | ⟨ds, rfl⟩
  · exact .isFar h₁ h₂ ho hc hm
  · exact fun A O Ow s Q g q => wpAny_isTrue_Compare1 (h₁ A O Ow s _ g fun v s₁ k₁ i => by
      cases i with
      | tup hl hO xs =>
      rename_i p vs
      obtain ⟨kk, e⟩ := hl
      refine h₂ A O Ow s₁ _ (g.sk k₁) fun s₂ k₂ => ?_
      have hne : p ≠ a := fun z => by
        have := (g.sk k₁).w.k a o ho
        rw [← z, e] at this; cases this
        exact hc2 rfl
      show wpAny C.M A (isSame (.ref p) (.ref a) >>= fun b => pure (Value.bool b)) _ NoE s₂
      exact wpAny_bind (isSame_far hne (k₂.kp.keep _ _ e ((g.sk k₁).w.tb.apart e fun ⟨ps, q⟩ => by cases q)) (((g.sk k₁).sk k₂).w.k a o ho) hc2 (wpAny_pure (wpAny_truthy_bool (q s₂ (k₁.trans k₂)))))) hm
/-- reduce(f, items, first), the state a list or a tuple -/
theorem reduceG (T : Top C) (hm : ∃ o, C.K.lookup T.miss = some o ∧ o.cls ≠ .type "list" ∧ o.cls ≠ .type "tuple") {f : Addr} {O : List Addr} (fo : FnObj C f) {ds : List D} {stt : Nat → D} (h0 : (∃ l, stt 0 = .list l) ∨ ∃ l, stt 0 = .tup l) (hz : ds.length ≤ 1000000)
    (hfn : ∀ i (hi : i < ds.length), FnO C n O (.ref f) [stt i, ds[i]] (stt (i + 1)))
    {A : Around} {s : Shared} {l v : Value} {Q : Value → Shared → Prop} (ha : AOk (n + 1) A) (w : Wd C.K C.TB s.heap) (ex : OOk O s.heap) (il : Is O s.heap l (.list ds)) (iv : Is O s.heap v (stt 0))
    (q : ∀ u s', SK C.TB s s' → Is O s'.heap u (stt ds.length) → Q u s') : wpAny C.M A (call (.ref T.red.a) [.ref f, l, v]) Q NoE s := by
  obtain ⟨o, m, hto, htd⟩ := T.tRed
  refine call_own (body := bodyOf PB 15) (R := (· = stt ds.length)) (σ := [("function", .raw (.ref f)), ("sequence", .val (.list ds)), ("initial", .val (stt 0))]) (binds := [("function", .ref f), ("sequence", l), ("initial", v)]) T.st ha w ex (T.hRed.fk.at w) (BindsTo.of_defaults rfl (w.k _ _ hto) htd rfl rfl) (.cons (e := .raw _) rfl (.cons (e := .val _) il (.cons (e := .val _) iv .nil))) rfl rfl (by show (["function", "sequence", "initial"] : List Str).Nodup; decide +kernel) ?_ (nodupB_eq rfl) ?_ (fun d' v s' e k i => q v s' k (e ▸ i))
  · intro x hx
    simp only [List.mem_cons, List.not_mem_nil, or_false] at hx
    rcases hx with rfl | rfl | rfl <;> exact .inl (by kernel_rfl)
  · intro A s₀ Q g qn qr
    have ge : GE (callEnvC (T.red.fd 15 (.ref T.dRed)) s.heap.objs.size T.red.a) := ⟨rfl, rfl, rfl⟩
    refine wpAny_execs_cons (wpAny_Assign_Name (Call_Name rfl (glob ge rfl T.iter g.g.w (callWith_builtin rfl (evalArgs_of (.cons (.name rfl) .nil) rfl g.g fun vs s₁ k is => ?_)))) rfl)
    cases is with
    | cons x xs =>
    cases xs
    cases x with
    | list hl hO xs =>
    rename_i a vs
    have hl2 := hl.isList
    refine call_iter (wpAny_pyIter_list hl2 ⟨_, rfl, ?_⟩)
    have hlen := xs.length
    obtain ⟨kk, e⟩ := hl
    have g₁ := g.sk k
    have haI : a ≠ s₁.heap.objs.size := Nat.ne_of_lt (Heap.lt_size e)
    have W := Walks.list (prog := C.prog) (w := C.w) g.g.a.hd s₁.heap.objs.size a haI vs.toArray
    rw [show vs.toArray.size = ds.length from by rw [List.size_toArray, hlen]] at W
    have g₂ := g₁.sk (SK.push (TB := C.TB) (s := s₁) { cls := .type "list_iterator", data := .fields #[.ref a, .int 0 0] })
    have it₀ : IterAt C A ([] ++ O) s₁.heap.objs.size ds s₀.heap (s₁.heap.push { cls := .type "list_iterator", data := .fields #[.ref a, .int 0 0] }) := by
      refine ⟨_, _, _, W, ?_, k.kp.none_of g.g.w.tb, ?_, ?_, ?_⟩
      · exact ⟨⟨_, Heap.get?_push_size _ rfl, rfl, rfl⟩, hl2.push _⟩
      · intro b hb
        simp only [List.mem_cons, List.not_mem_nil, or_false] at hb
        rcases hb with rfl | rfl
        · exact ⟨g₂.g.w.tb.apart (Heap.get?_push_size _ rfl) (fun ⟨ps, q⟩ => by cases q), g₁.g.newO, _, Heap.get?_push_size _ rfl, (fun _ _ q => by cases q), fun _ q => by cases q⟩
        · exact ⟨g₁.g.w.tb.apart e (fun ⟨ps, q⟩ => by cases q), hO, _, Heap.get?_push_of_some _ e, (fun _ _ q => by cases q), fun _ q => by cases q⟩
      · intro h₂ dk i v d hP hd
        obtain ⟨v', e', iv⟩ := (xs.push _).get hd
        have : vs[i]? = some v := by simpa using hP
        rw [this] at e'
        cases e'
        exact iv.keep dk fun _ _ _ q => q
      · rintro i h₂ ⟨⟨o, e, hc, hd⟩, _⟩
        exact ⟨o, _, _, e, hc, hd, .inl rfl⟩
    have k₂ := k.trans (.push { cls := .type "list_iterator", data := .fields #[.ref a, .int 0 0] })
    generalize s₁.heap.objs.size = I at it₀ ⊢
    generalize hs₂ : s₁.heap.push { cls := .type "list_iterator", data := .fields #[.ref a, .int 0 0] } = H₂ at *
    refine storeL (en := .raw (.ref I)) g₂.g.r g₂.g.w.tb (by kernel_rfl) rfl fun h' tk ks r => ?_
    have ss₃ : SS C (callEnvC (T.red.fd 15 (.ref T.dRed)) s.heap.objs.size T.red.a) [] { s₁ with heap := H₂ } { s₁ with heap := h', toks := tk } := ss_store g₂.g.w.tb ks Mu.loc r.ok.loc
    have g₃ := g₂.ss ss₃ r .refl
    have it₃ := IterAt.ss (s := { s₁ with heap := H₂ }) it₀ ss₃ g₂.g.w.tb g₂.g.r.ok g₂.nd
    have k₃ := (k₂.ss g.g.w.tb).trans ss₃ .refl
    obtain ⟨om, hom, hcm, hct⟩ := hm
    refine wpAny_execs_cons (Ex1.if_ (N := fun Ow σ' => Ow = [] ∧ σ' = redG f I ds (stt 0) (stt 0)) (R := fun _ => False) (Tr.isFarG h0 (.name rfl) (.glob ge T.vMiss) hom hcm hct) (fun z => by cases z) (fun _ => Ex.set (.name rfl) (.nil ⟨rfl, rfl⟩)) A _ _ g₃ (fun Ow' σ' s₄ hN ss₄ hn r₄ => ?_) (fun _ _ _ z => z.elim))
    obtain ⟨rfl, rfl⟩ := hN
    have g₄ := g₃.ss ss₄ r₄ hn
    have it₄ := IterAt.ss it₃ ss₄ g₃.g.w.tb g₃.g.r.ok g₃.nd
    have k₄ := k₃.trans ss₄ .refl
    refine wpAny_execs_cons (wpAny_For (EvR.name (σ := redG f I ds (stt 0) (stt 0)) (v := .ref I) rfl rfl rfl A ([] ++ O) [] s₄ _ g₄.g fun s₅ k₅ => ?_) (by intro _; rfl))
    have g₅ := g₄.sk k₅
    have it₅ := IterAt.ss (env := callEnvC (T.red.fd 15 (.ref T.dRed)) s.heap.objs.size T.red.a) it₄ (k₅.ss g₄.g.w.tb) g₄.g.w.tb g₄.g.r.ok g₄.nd
    have k₀₅ := k₄.trans (k₅.ss (Ow := []) g₄.g.w.tb) .refl
    obtain ⟨fp, P, St, W', hst, hI0, hr⟩ := id it₅
    refine W'.self 0 s₅ _ _ hst ?_
    refine for_core (R := fun _ => False) (tgt := fun d => [("element", d |> .val)]) (fun i Ow σ => Ow = [] ∧ σ = redG f I ds (stt 0) (stt i)) g₅ k₀₅ it₅ ?_ ⟨rfl, rfl⟩ (fun d _ => .name (by kernel_rfl)) ?_ (own_name I) (fun Ow' σ' s₆ hj ss₆ hn₆ r₆ => ?_) fun _ _ _ z => z.elim
    · cases q : C.K.lookup I with
      | none => rfl
      | some o => rw [g.g.w.k I o q] at hI0; cases hI0
    · rintro i hi _ _ ⟨rfl, rfl⟩
      exact Ex.setAt (fun A s Q g q => callR_at rfl fo (.cons (.name rfl) (.cons (.name rfl) .nil)) (hfn i hi) g q) (Ex.nilW (redG f I ds (stt 0) (stt (i + 1))) ⟨rfl, rfl⟩ ⟨rfl, rfl, rfl, rfl, rfl, trivial⟩)
    · obtain ⟨rfl, rfl⟩ := hj
      have g₆ := g.ss ss₆ r₆ hn₆
      refine Ex.ret (rest := []) (.name (d := stt ds.length) rfl) rfl A s₆ _ g₆ (fun Ow' σ' s' hN k' hn r => qn Ow' σ' s' hN (ss₆.trans k' hn₆) (hn₆.trans ss₆ hn) r) fun d v s' hR k' i => qr d v s' hR.symm (ss₆.trans k' hn₆) i
end
end Mine
end

section
set_option genInjectivity false
set_option genSizeOf false
set_option genSizeOfSpec false
set_option maxRecDepth 100000
set_option maxHeartbeats 0
set_option linter.unusedVariables false
set_option tactic.hygienic false
namespace Mine
open PySem PySem.W PyProof.Rows PySem.W.X
/-! the class K -/
noncomputable def clsObj (cls ns bt : Addr) (t1 t2 : Tok) : Obj := { cls := .type "type", data := .cls { name := "K", bases := [.type "object"], mro := [.ref cls, .type "object"], ns := ns, qualname := "cmp_to_key.<locals>.K", hasDict := false, slotNames := ["obj"] }, slots := #[some (.ref bt), none, some (.str "K" t1), some (.str "cmp_to_key.<locals>.K" t2), some (.builtin "object.__new__"), some (.bool false)] }
noncomputable def nsObj (hs : Nat → Int) (ts : Nat → Tok) (line : Int) (sl ini lt gt eq le ge sa md : Addr) : Obj := { cls := .type "dict", data := .dict #[
  ⟨hs 0, .str "__module__" (ts 0), .str "cpy313.functools" (ts 13)⟩, ⟨hs 1, .str "__firstlineno__" (ts 1), .int line (ts 14)⟩, ⟨hs 2, .str "__slots__" (ts 2), .ref sl⟩, ⟨hs 3, .str "__init__" (ts 3), .ref ini⟩,
  ⟨hs 4, .str "__lt__" (ts 4), .ref lt⟩, ⟨hs 5, .str "__gt__" (ts 5), .ref gt⟩, ⟨hs 6, .str "__eq__" (ts 6), .ref eq⟩, ⟨hs 7, .str "__le__" (ts 7), .ref le⟩, ⟨hs 8, .str "__ge__" (ts 8), .ref ge⟩, ⟨hs 9, .str "__hash__" (ts 9), .none⟩,
  ⟨hs 10, .str "__static_attributes__" (ts 10), .ref sa⟩, ⟨hs 11, .str "obj" (ts 11), .ref md⟩, ⟨hs 12, .str "__doc__" (ts 12), .none⟩] 3 }
noncomputable def mdObj (cls : Addr) (t : Tok) : Obj := { cls := .type "member_descriptor", data := .fields #[.str "obj" t, .ref cls, .builtin "proto.slot", .builtin "proto.slot#set", .int 0 0] }
/-- the class's statements -/
noncomputable def clsBody (b : List Stmt) (i : Nat) : List Stmt :=
  match bodyOf b i with
  | .ClassDef _ _ _ body _ _ _ _ _ _ _ :: _ => body
  | _ => []
noncomputable def methFd (b : List Stmt) (i j : Nat) (pm : Value) (cd : Addr) (clos : List (Str × Addr)) (ct : Value) : FuncData :=
  match (clsBody b i)[j]? with
  | some (.FunctionDef name params body _ _ _ scope _ _ _) => { name, qualname := "cmp_to_key.<locals>.K." ++ name, params, body := .stmts body, scope, globals := mainGlobals, closure := clos, defaults := .none, kwdefaults := .none, pyModule := pm, code := .ref cd, closureTuple := ct, builtins := builtinsNs }
  | _ => default
noncomputable def fnObj (fd : FuncData) : Obj := { cls := .type "function", data := .func fd }
structure KAddrs where
  ns : Addr
  bt : Addr
  md : Addr
  ini : Addr
  lt : Addr
  inc : Addr
  ltc : Addr
  cell : Addr
/-- at cls stands the class that cmp_to_key made of f -/
structure KCls (h : Heap) (cls f : Addr) (a : KAddrs) : Prop where
  hCls : ∃ t1 t2, h.get? cls = some (clsObj cls a.ns a.bt t1 t2)
  hNs : ∃ hs ts line sl gt eq le ge sa, h.get? a.ns = some (nsObj hs ts line sl a.ini a.lt gt eq le ge sa a.md)
  hMd : ∃ t, h.get? a.md = some (mdObj cls t)
  hIni : ∃ pm, h.get? a.ini = some (fnObj (methFd PB 13 2 pm a.inc [] .none))
  hInc : ∃ v t r, h.get? a.inc = some { cls := .type "code", data := .fields ⟨v :: .str "cmp_to_key.<locals>.K.__init__" t :: r⟩ }
  hLt : ∃ pm ct, h.get? a.lt = some (fnObj (methFd PB 13 3 pm a.ltc [("mycmp", a.cell)] ct))
  hLtc : ∃ v t r, h.get? a.ltc = some { cls := .type "code", data := .fields ⟨v :: .str "cmp_to_key.<locals>.K.__lt__" t :: r⟩ }
  hCell : h.get? a.cell = some { cls := .type "cell", data := .cell (some (.ref f)) }
end Mine
end

section
set_option maxRecDepth 100000
set_option maxHeartbeats 0
set_option linter.unusedVariables false
set_option tactic.hygienic false
namespace Mine
open PySem PySem.W PyProof.Rows PySem.W.X
noncomputable def nsEnts (hs : Nat → Int) (ts : Nat → Tok) (line : Int) (sl ini lt gt eq le ge sa : Addr) : Array DictEntry := #[
  ⟨hs 0, .str "__module__" (ts 0), .str "cpy313.functools" (ts 13)⟩, ⟨hs 20, .str "__qualname__" (ts 20), .str "cmp_to_key.<locals>.K" (ts 21)⟩, ⟨hs 1, .str "__firstlineno__" (ts 1), .int line (ts 14)⟩, ⟨hs 2, .str "__slots__" (ts 2), .ref sl⟩, ⟨hs 3, .str "__init__" (ts 3), .ref ini⟩,
  ⟨hs 4, .str "__lt__" (ts 4), .ref lt⟩, ⟨hs 5, .str "__gt__" (ts 5), .ref gt⟩, ⟨hs 6, .str "__eq__" (ts 6), .ref eq⟩, ⟨hs 7, .str "__le__" (ts 7), .ref le⟩, ⟨hs 8, .str "__ge__" (ts 8), .ref ge⟩, ⟨hs 9, .str "__hash__" (ts 9), .none⟩,
  ⟨hs 10, .str "__static_attributes__" (ts 10), .ref sa⟩]
theorem slotsRead {prog : Program} {w : World} {A : Around} {E : Value → Shared → Prop} {Q : Builtin.Slots.Plan → Shared → Prop} {hp : Heap} {g : Array GenState} {d : Drawn} {t : Nat} {os : OsState} {hs : Nat → Int} {ts : Nat → Tok} {line : Int} {sl ini lt gt eq le ge sa : Addr} {to : Tok} {n : Nat}
    (hb : hp.get? sl = some { cls := .type "list", data := .seq #[.str "obj" to] n })
    (h : ∀ h' , (∀ b o, hp.get? b = some o → h'.get? b = some o) → Q { names := ["obj"], dict := false, weak := false, inherited := [] } ⟨h', g, d, t, os⟩) :
    wpAny (model prog w) A (Builtin.Slots.read "K" [.type "object"] (nsEnts hs ts line sl ini lt gt eq le ge sa)) Q E ⟨hp, g, d, t, os⟩ := by
  unfold Builtin.Slots.read
  refine wpAny_bind (wpAny_of_eq (a := .type "object") (by kernel_rfl) ?_)
  refine wpAny_bind (wpAny_of_eq (a := []) (by kernel_rfl) ?_)
  refine wpAny_bind (wpAny_of_eq (a := false) (by kernel_rfl) ?_)
  refine wpAny_bind (wpAny_of_eq (a := false) (by kernel_rfl) ?_)
  refine wpAny_bind (wpAny_of_eq (a := false) (by kernel_rfl) ?_)
  have hf : (nsEnts hs ts line sl ini lt gt eq le ge sa).find? (·.key.isStr "__slots__") = some ⟨hs 2, .str "__slots__" (ts 2), .ref sl⟩ := by kernel_rfl
  rw [hf]
  repeat ((fail_if_success (with_reducible first | show wpAny _ _ (Builtin.Slots.bestBase _) _ _ _ | show wpAny _ _ (slotNamesOf _) _ _ _ | show wpAny _ _ (Builtin.Slots.givesDict _) _ _ _ | show wpAny _ _ (Builtin.Slots.givesWeak _) _ _ _ | show wpAny _ _ (Builtin.Slots.varSize _) _ _ _ | show wpAny _ _ (collect _) _ _ _)); wp_step)
  refine collect_list (vs := [.str "obj" to]) (s := ⟨hp, g, d, t, os⟩) ⟨_, hb, rfl, n, rfl⟩ ?_
  refine wpAny_of_eq (a := { names := ["obj"], dict := false, weak := false, inherited := [] }) (by kernel_rfl) ?_
  exact h _ fun b o e => Heap.get?_update_of_ne _ (Ne.symm (Nat.ne_of_lt (Heap.lt_size e))) (Heap.get?_push_of_some _ e)
end Mine
end

section
set_option maxRecDepth 100000
set_option maxHeartbeats 0
set_option linter.unusedVariables false
set_option tactic.hygienic false
namespace Mine
open PySem PySem.W PyProof.Rows PySem.W.X
section
variable {M : Model} {A : Around} {E : Value → Shared → Prop} {h : Heap} {g : Array GenState} {d : Drawn} {t : Nat} {os : OsState}
noncomputable abbrev Keeps1 (h h' : Heap) : Prop := ∀ b o, h.get? b = some o → h'.get? b = some o
noncomputable abbrev KeepsBut (a : Addr) (h h' : Heap) : Prop := ∀ b o, b ≠ a → h.get? b = some o → h'.get? b = some o
theorem none_size (h : Heap) : h.get? h.objs.size = none := by
  cases q : h.get? h.objs.size with
  | none => rfl
  | some o => exact absurd (Heap.lt_size q) (Nat.lt_irrefl _)
theorem alloc_at {o : Obj} {Q : Addr → Shared → Prop} (hf : o.isFreed = false) (hq : ∀ a h', h.get? a = none → h'.get? a = some o → Keeps1 h h' → Q a ⟨h', g, d, t, os⟩) : wpAny M A (alloc o) Q E ⟨h, g, d, t, os⟩ :=
  wpAny_alloc' (hq _ _ (none_size h) (Heap.get?_push_size _ hf) fun _ _ e => Heap.get?_push_of_some _ e)
theorem upd_at {a : Addr} {p : Option Value} {f : Obj → Obj} {o o' : Obj} {Q : Unit → Shared → Prop} (ho : h.get? a = some o) (he : f o = o') (hf : o'.isFreed = false) (hq : ∀ h', h'.get? a = some o' → KeepsBut a h h' → Q () ⟨h', g, d, t, os⟩) : wpAny M A (updatePart a p f) Q E ⟨h, g, d, t, os⟩ :=
  wpAny_updatePart' ho (hq _ (by rw [← he]; exact Heap.get?_update_self _ ho (by rw [he]; exact hf)) fun b ob hb e => Heap.get?_update_of_ne _ (Ne.symm hb) e)
theorem slot_at {a : Addr} {i : Nat} {v : Option Value} {o o' : Obj} {Q : Unit → Shared → Prop} (ho : h.get? a = some o) (hi : i < 100) (he : ({ o with slots := (o.slots ++ Array.replicate (i + 1 - o.slots.size) none).setIfInBounds i v } : Obj) = o') (hf : o'.isFreed = false) (hq : ∀ h', h'.get? a = some o' → KeepsBut a h h' → Q () ⟨h', g, d, t, os⟩) : wpAny M A (setSlotAt a i v) Q E ⟨h, g, d, t, os⟩ := by
  unfold setSlotAt
  rw [if_neg (by rw [sizeLine_eq]; (first | lia | omega))]
  exact upd_at ho he hf hq
theorem nsGet_at {a : Addr} {n : Str} {o : Obj} {r : Option Value} {Q : Option Value → Shared → Prop} (ho : h.get? a = some o) (hl : nsLook n o = pure r) (hq : Q r ⟨h, g, d, t, os⟩) : wpAny M A (nsGet a n) Q E ⟨h, g, d, t, os⟩ :=
  wpAny_bind (wpAny_loadPart' ho (wpAny_of_eq hl hq))
theorem nsSet_at {a : Addr} {n : Str} {v : Value} {c : Value} {es : Array DictEntry} {ep : Nat} {o' : Int → Obj} {Q : Unit → Shared → Prop} (ho : h.get? a = some { cls := c, data := .dict es ep }) (hm : aRefKeyMayBeTheName n es = false)
    (he : ∀ hv, Obj.putName n hv (.str n t) v { cls := c, data := .dict es ep } = o' hv) (hf : ∀ hv, (o' hv).isFreed = false) (hq : ∀ hv h', h'.get? a = some (o' hv) → KeepsBut a h h' → Q () ⟨h', g, d, t + 1, os⟩) : wpAny M A (nsSet a n v) Q E ⟨h, g, d, t, os⟩ := by
  unfold nsSet strHash mkText
  refine wpAny_bind (wpAny_bind (wpAny_askSetting (wpAny_pure ?_)))
  refine wpAny_bind (wpAny_bind (wpAny_fresh' (wpAny_pure ?_)))
  refine wpAny_bind (wpAny_loadPart' ho ?_)
  dsimp only
  rw [hm, if_neg (by decide)]
  exact upd_at ho (he _) (hf _) (hq _)
theorem nsSetV_at {a : Addr} {n : Str} {v : Value} {c : Value} {es : Array DictEntry} {ep : Nat} {o' : Int → Obj} {Q : Unit → Shared → Prop} (ho : h.get? a = some { cls := c, data := .dict es ep }) (hm : aRefKeyMayBeTheName n es = false) (hz : es.size < 100)
    (he : ∀ hv, Obj.putName n hv (.str n t) v { cls := c, data := .dict es ep } = o' hv) (hf : ∀ hv, (o' hv).isFreed = false) (hq : ∀ hv h', h'.get? a = some (o' hv) → KeepsBut a h h' → Q () ⟨h', g, d, t + 1, os⟩) : wpAny M A (nsSetByValue a n v) Q E ⟨h, g, d, t, os⟩ := by
  unfold nsSetByValue
  refine wpAny_bind (wpAny_loadPart' ho ?_)
  dsimp only
  have : (decide (es.size > sizeLine)) = false := decide_eq_false (by rw [sizeLine_eq]; (first | lia | omega))
  rw [this, Bool.false_and, if_neg (by decide)]
  exact nsSet_at ho hm he hf hq
theorem nsDel_at {a : Addr} {n : Str} {o o' : Obj} {Q : Bool → Shared → Prop} (ho : h.get? a = some o) (hm : nsHas n o = pure true) (he : Obj.dropName n o = o') (hf : o'.isFreed = false) (hq : ∀ h', h'.get? a = some o' → KeepsBut a h h' → Q true ⟨h', g, d, t, os⟩) : wpAny M A (nsDel a n) Q E ⟨h, g, d, t, os⟩ := by
  unfold nsDel
  refine wpAny_bind (wpAny_loadPart' ho (wpAny_bind (wpAny_of_eq hm ?_)))
  rw [if_pos rfl]
  exact wpAny_bind (upd_at ho he hf fun h' h1 h2 => wpAny_pure (hq h' h1 h2))
theorem updCls_at {a : Addr} {f : ClassData → ClassData} {o o' : Obj} {cd : ClassData} {Q : Unit → Shared → Prop} (ho : h.get? a = some o) (hd : o.data = .cls cd) (he : Obj.mapCls f o = o') (hf : o'.isFreed = false) (hpl : o'.data.pastItsLine = none) (hq : ∀ h', h'.get? a = some o' → KeepsBut a h h' → Q () ⟨h', g, d, t, os⟩) : wpAny M A (updateCls a f) Q E ⟨h, g, d, t, os⟩ := by
  unfold updateCls
  refine wpAny_bind (wpAny_load' ho ?_)
  rw [hd]
  dsimp only
  refine wpAny_bind (wpAny_update' ho ?_)
  have e : (h.update a (Obj.mapCls f)).get? a = some o' := by rw [← he]; exact Heap.get?_update_self _ ho (by rw [he]; exact hf)
  unfold lookBehind
  refine wpAny_bind (wpAny_loadPart' e ?_)
  rw [hpl]
  exact wpAny_pure (hq _ e fun b ob hb e => Heap.get?_update_of_ne _ (Ne.symm hb) e)
theorem newDict_at {es : Array DictEntry} {ep : Nat} {Q : Value → Shared → Prop} (hz : es.size < 100) (hq : ∀ a h', h.get? a = none → h'.get? a = some { cls := .type "dict", data := .dict es ep } → Keeps1 h h' → Q (.ref a) ⟨h', g, d, t, os⟩) : wpAny M A (newObj (.type "dict") (.dict es ep)) Q E ⟨h, g, d, t, os⟩ := by
  unfold newObj
  dsimp only
  rw [if_neg (by rw [sizeLine_eq]; (first | lia | omega))]
  unfold newObjAsIs
  exact wpAny_bind (alloc_at rfl fun a h' h1 h2 h3 => wpAny_pure (hq a h' h1 h2 h3))
theorem newFlds_at {T : String} {vs : Array Value} {o' : Obj} {Q : Value → Shared → Prop} (hz : vs.size < 100) (he : ({ cls := .type T, data := .fields vs } : Obj) = o') (hq : ∀ a h', h.get? a = none → h'.get? a = some o' → Keeps1 h h' → Q (.ref a) ⟨h', g, d, t, os⟩) : wpAny M A (newObj (.type T) (.fields vs)) Q E ⟨h, g, d, t, os⟩ := by
  subst he
  unfold newObj
  dsimp only
  rw [if_neg (by rw [sizeLine_eq]; (first | lia | omega))]
  unfold newObjAsIs
  exact wpAny_bind (alloc_at rfl fun a h' h1 h2 h3 => wpAny_pure (hq a h' h1 h2 h3))
theorem classData_at {a : Addr} {o : Obj} {cd : ClassData} {Q : ClassData → Shared → Prop} (ho : h.get? a = some o) (hd : o.data = .cls cd) (hq : Q cd ⟨h, g, d, t, os⟩) : wpAny M A (classData a) Q E ⟨h, g, d, t, os⟩ := by
  unfold classData
  refine wpAny_bind (wpAny_load' ho ?_)
  rw [hd]
  exact wpAny_pure hq
theorem mroOf_at {a : Addr} {o : Obj} {cd : ClassData} {Q : List Value → Shared → Prop} (ho : h.get? a = some o) (hd : o.data = .cls cd) (hq : Q cd.mro ⟨h, g, d, t, os⟩) : wpAny M A (mroOf (.ref a)) Q E ⟨h, g, d, t, os⟩ := by
  show wpAny M A (do return (← classData a).mro) Q E _
  exact wpAny_bind (classData_at ho hd (wpAny_pure hq))
theorem classOwn_at {a : Addr} {o no : Obj} {cd : ClassData} {n : Str} {r : Option Value} {Q : Option Value → Shared → Prop} (ho : h.get? a = some o) (hd : o.data = .cls cd) (hn : h.get? cd.ns = some no) (hl : nsLook n no = pure r) (hq : Q r ⟨h, g, d, t, os⟩) : wpAny M A (classOwn (.ref a) n) Q E ⟨h, g, d, t, os⟩ := by
  show wpAny M A (do nsGet (← classData a).ns n) Q E _
  exact wpAny_bind (classData_at ho hd (nsGet_at hn hl hq))
theorem look_own {a : Addr} {o no : Obj} {cd : ClassData} {n : Str} {v : Value} {l : List Value} {Q : Option Value → Shared → Prop} (ho : h.get? a = some o) (hd : o.data = .cls cd) (hm : cd.mro = .ref a :: l) (hn : h.get? cd.ns = some no) (hl : nsLook n no = pure (some v)) (hq : Q (some v) ⟨h, g, d, t, os⟩) : wpAny M A (typeLookup (.ref a) n) Q E ⟨h, g, d, t, os⟩ := by
  unfold typeLookup
  refine wpAny_bind (mroOf_at ho hd ?_)
  rw [hm]
  simp only [List.forIn_cons]
  refine wpAny_bind (wpAny_bind (wpAny_bind (classOwn_at ho hd hn hl ?_)))
  exact wpAny_pure (wpAny_pure (wpAny_pure hq))
theorem look_up {a : Addr} {o no : Obj} {cd : ClassData} {n : Str} {r : Option Value} {Q : Option Value → Shared → Prop} (ho : h.get? a = some o) (hd : o.data = .cls cd) (hm : cd.mro = [.ref a, .type "object"]) (hn : h.get? cd.ns = some no) (hl : nsLook n no = pure none) (hb : classOwn (.type "object") n = pure r) (hq : Q r ⟨h, g, d, t, os⟩) : wpAny M A (typeLookup (.ref a) n) Q E ⟨h, g, d, t, os⟩ := by
  unfold typeLookup
  refine wpAny_bind (mroOf_at ho hd ?_)
  rw [hm]
  simp only [List.forIn_cons, List.forIn_nil]
  refine wpAny_bind (wpAny_bind (wpAny_bind (classOwn_at ho hd hn hl ?_)))
  refine wpAny_pure (wpAny_bind (wpAny_bind (wpAny_of_eq hb ?_)))
  cases r with
  | none => exact wpAny_pure (wpAny_pure (wpAny_pure hq))
  | some v => exact wpAny_pure (wpAny_pure (wpAny_pure hq))
end
end Mine
end

section
set_option maxRecDepth 100000
set_option maxHeartbeats 0
set_option linter.unusedVariables false
set_option tactic.hygienic false
namespace Mine
open PySem PySem.W PyProof.Rows PySem.W.X
theorem in_atop {A : Around} (hh : A.handled = none) (hd : A.depth ≤ 900) (hu : A.units ≤ 9000) {Γ : Ctx} (x : Γ.In A) : Γ.In ⟨none, 900, none, none, 9000⟩ := by
  obtain ⟨h1, h2, h3, h4, h5⟩ := x
  refine ⟨h1.trans hh, ?_, fun l hl => (nomatch hl), fun l hl => (nomatch hl), ?_⟩
  · show _ ≤ 900; (exact Nat.le_trans (by assumption) (by assumption))
  · show _ ≤ 9000; (exact Nat.le_trans (by assumption) (by assumption))
/-- from the widest frame -/
theorem from_top {α : Type} {M : Model} {A : Around} {t : Sem α} {Q : α → Shared → Prop} {E : Value → Shared → Prop} {s : Shared} (hh : A.handled = none) (hd : A.depth ≤ 900) (hu : A.units ≤ 9000) (h : wpAny M ⟨none, 900, none, none, 9000⟩ t Q E s) : wpAny M A t Q E s := fun Γ p hΓ => h Γ p (in_atop hh hd hu hΓ)
noncomputable abbrev At9 : Around := ⟨none, 900, none, none, 9000⟩
theorem mem_keep0 {h₀ h : Heap} {news : List (Addr × Obj)} (D : Mem h₀ h [] news) : ∀ b o, h₀.get? b = some o → h.get? b = some o := fun b o e => D.keep b o e (by simp [away])
noncomputable def NewQ (s : Shared) (o : Obj) (Q : Value → Shared → Prop) : Prop := ∀ x h' tk, Keeps1 s.heap h' → s.heap.get? x = none → h'.get? x = some o → Q (.ref x) { s with heap := h', toks := tk }
theorem newQ_by {s : Shared} {o o' : Obj} {Q : Value → Shared → Prop} {h : Heap} {news : List (Addr × Obj)} {x : Addr} {tk : Nat} (q : NewQ s o Q) (i : Nat) (D : Mem s.heap h [] news) (e : news[i]? = some (x, o')) (k : o' = o) : Q (.ref x) ⟨h, s.gens, s.drawn, tk, s.os⟩ :=
  q x h tk (mem_keep0 D) ((D.nw _ (List.mem_of_getElem? e)).2) (by rw [D.at i _ _ e, k])
local macro_rules | `(tactic| x_close) => `(tactic| ((with_reducible rename NewQ _ _ _ => hq'); exact newQ_by hq' 0 (by assumption) rfl (by kernel_rfl)))
theorem cls_self {M : Model} {h : Heap} {cls ns bt : Addr} {t1 t2 : Tok} (h1 : h.get? cls = some (clsObj cls ns bt t1 t2)) : Looks M h (isSubtype (.ref cls) (.ref cls)) true := by
  have l : List.lookup cls [(cls, clsObj cls ns bt t1 t2)] = some (clsObj cls ns bt t1 t2) := by rw [List.lookup_cons, beq_self_eq_true]
  refine looks_mroIn (K := [(cls, clsObj cls ns bt t1 t2)]) (fun a o e => ?_) ?_
  · rw [List.lookup_cons] at e
    split at e
    · rename_i q; cases e; rw [beq_iff_eq.mp q]; exact h1
    · cases e
  · unfold mroIn clsIn
    rw [l]
    simp only [clsObj, Option.bind_some, List.contains_cons, beq_self_eq_true, Bool.true_or]
    rfl
theorem sup_call {prog : Program} {w : World} {A : Around} {s : Shared} {cls ns bt : Addr} {t1 t2 : Tok} (h1 : s.heap.get? cls = some (clsObj cls ns bt t1 t2)) {Q : Value → Shared → Prop} {E : Value → Shared → Prop}
    (hQ : NewQ s { cls := .type "super", data := .fields #[.ref cls, .ref cls, .ref cls] } Q) : wpAny (model prog w) A (call (.type "super") [.ref cls, .ref cls]) Q E s := by
  obtain ⟨h, g, d, t, os⟩ := s
  dsimp only at h1
  refine ks_callType_codesW (Q₁ := fun obj s₁ => obj = .ref h.objs.size ∧ s₁ = ⟨h.push { cls := .type "super", data := .fields #[.none, .none, .none] }, g, d, t, os⟩) F.ks_called_super (ks_wpAny_checkTypeCall_super h1 rfl) F.ks_entry_super_init
    (ks_code_super_new _ _ ⟨rfl, rfl⟩) fun obj s₁ h₁ => ?_
  obtain ⟨rfl, rfl⟩ := h₁
  have up : Keeps1 h (h.push { cls := .type "super", data := .fields #[.none, .none, .none] }) := fun y o e => Heap.get?_push_of_some _ e
  have hso : (h.push { cls := .type "super", data := .fields #[.none, .none, .none] }).get? h.objs.size = some { cls := .type "super", dict := none, data := .fields #[.none, .none, .none], slots := #[] } := Heap.get?_push_at rfl rfl
  have h2 := up _ _ h1
  have fin : ∀ h', h'.get? h.objs.size = some { cls := .type "super", dict := none, data := .fields #[.ref cls, .ref cls, .ref cls], slots := #[] } → (∀ y o, y ≠ h.objs.size → (h.push { cls := .type "super", data := .fields #[.none, .none, .none] }).get? y = some o → h'.get? y = some o) → Q (.ref h.objs.size) ⟨h', g, d, t, os⟩ := fun h' e k =>
    hQ _ h' t (fun y o ey => k y o (Nat.ne_of_lt (Heap.lt_size ey)) (up y o ey)) (by
      cases q : h.get? h.objs.size with
      | none => rfl
      | some o => exact absurd (Heap.lt_size q) (Nat.lt_irrefl _)) e
  clear hQ
  generalize h.push { cls := .type "super", data := .fields #[.none, .none, .none] } = hp at *
  have hsub := cls_self (M := model prog w) h2
  refine ⟨⟨_, hso, rfl⟩, F.ks_initArgs_super _ _ _, ?_⟩
  unfold Builtin.«super.__init__» noKeywords
  repeat (first | (with_reducible refine ks_wpAny_isType_cls h2 rfl ?_) | (with_reducible refine Looks.at hsub ?_) | (with_reducible refine ks_wpAny_super_set3 hso ?_) | wp_step)
  all_goals first
    | exact fun h' e k => ⟨rfl, fin h' e k⟩
    | exact ks_wpAny_super_set3 hso fun h' e k => ⟨rfl, fin h' e k⟩
theorem get_call {prog : Program} {w : World} {s : Shared} {cls ns bt : Addr} {t1 t2 : Tok} {hs : Nat → Int} {ts : Nat → Tok} {line : Int} {sl ini lt gt eq le ge sa md : Addr} (h1 : s.heap.get? cls = some (clsObj cls ns bt t1 t2)) (h2 : s.heap.get? ns = some (nsObj hs ts line sl ini lt gt eq le ge sa md)) {Q : Value → Shared → Prop} {E : Value → Shared → Prop}
    (hQ : NewQ s { cls := .type "builtin_function_or_method", data := .fields #[.builtin "object.__init_subclass__", .ref cls] } Q) : wpAny (model prog w) At9 (call (.builtin "classmethod_descriptor.__get__") [.builtin "object.__init_subclass__", .none, .ref cls]) Q E s := by
  dsimp only [clsObj, nsObj, mdObj, fnObj] at h1 h2
  x_run
noncomputable def SameQ (s : Shared) (v : Value) (Q : Value → Shared → Prop) : Prop := ∀ h' tk, Keeps1 s.heap h' → Q v { s with heap := h', toks := tk }
theorem sameQ_by {s : Shared} {v : Value} {Q : Value → Shared → Prop} {h : Heap} {news : List (Addr × Obj)} {tk : Nat} (q : SameQ s v Q) (D : Mem s.heap h [] news) : Q v ⟨h, s.gens, s.drawn, tk, s.os⟩ := q h tk (mem_keep0 D)
local macro_rules | `(tactic| x_close) => `(tactic| ((with_reducible rename SameQ _ _ _ => hq'); first | exact sameQ_by hq' (by assumption) | exact sameQ_by hq' (Mem.start _)))
theorem ini_call {prog : Program} {w : World} {s : Shared} {cls ns bt b : Addr} {t1 t2 : Tok} {hs : Nat → Int} {ts : Nat → Tok} {line : Int} {sl ini lt gt eq le ge sa md : Addr} (h1 : s.heap.get? cls = some (clsObj cls ns bt t1 t2)) (h2 : s.heap.get? ns = some (nsObj hs ts line sl ini lt gt eq le ge sa md)) 
   (h3 : s.heap.get? b = some { cls := .type "builtin_function_or_method", data := .fields #[.builtin "object.__init_subclass__", .ref cls] }) {Q : Value → Shared → Prop} {E : Value → Shared → Prop} (hQ : SameQ s .none Q) :
    wpAny (model prog w) At9 (call (.ref b) []) Q E s := by
  dsimp only [clsObj, nsObj, mdObj, fnObj] at h1 h2
  x_run
end Mine
end

section
set_option maxRecDepth 100000
set_option maxHeartbeats 0
set_option linter.unusedVariables false
namespace Mine
open PySem PySem.W PyProof.Rows PySem.W.X
theorem slot_super_ga : Slot "super" "__getattribute__" "super.__getattribute__" :=
  .of (owner := "super") (n := "__getattribute__") (by rw [typeLookup_type, builtinLookup_eq_fast]; kernel_rfl) (by decide +kernel) (by decide +kernel) (by decide +kernel)
    (by first | exact .inl (by decide +kernel) | exact .inr (by decide +kernel)) (by rw [isSubtype_type]; kernel_rfl)
theorem args_super_ga (a b : Value) : argsOk "super.__getattribute__" ⟨[a, b], []⟩ := by unfold argsOk; kernel_rfl
theorem superGet {prog : Program} {w : World} {A : Around} {E : Value → Shared → Prop} {Q : Value → Shared → Prop} {h : Heap} {g : Array GenState} {d : Drawn} {t : Nat} {os : OsState} {cls ns bt sup : Addr} {t1 t2 : Tok} {hs : Nat → Int} {ts : Nat → Tok} {line : Int} {sl ini lt gt eq le ge sa md : Addr} (hh : A.handled = none) (hd : A.depth ≤ 890) (hu : A.units ≤ 8900) (hst : h.get? cStatics = some { cls := .none, data := .dict #[] }) (h1 : h.get? cls = some (clsObj cls ns bt t1 t2)) (h2 : h.get? ns = some (nsObj hs ts line sl ini lt gt eq le ge sa md))
    (h3 : h.get? sup = some { cls := .type "super", data := .fields #[.ref cls, .ref cls, .ref cls] })
    (hQ : ∀ x h' tk, Keeps1 h h' → h.get? x = none → h'.get? x = some { cls := .type "builtin_function_or_method", data := .fields #[.builtin "object.__init_subclass__", .ref cls] } → Q (.ref x) ⟨h', g, d, tk, os⟩) :
    wpAny (model prog w) A (getAttr (.ref sup) "__init_subclass__") Q E ⟨h, g, d, t, os⟩ := by
  have l1 : typeLookup (.type "super") "__getattribute__" = pure (some (.builtin "super.__getattribute__")) := by rw [typeLookup_type, builtinLookup_eq_fast]; kernel_rfl
  have e1 : entryFor table "super.__getattribute__" = some Builtin.«super.__getattribute__» := entryFor_of_tree (by kernel_rfl)
  wp_walk
  refine wpAny_of_eq (a := (.builtin "super.__getattribute__", [.ref sup])) (by kernel_rfl) ?_
  refine wpAny_call_entry slot_super_ga (s := ⟨h, g, d, t + 1, os⟩) ⟨_, h3, rfl⟩ e1 ?_ (args_super_ga _ _)
  clear l1 e1
  repeat ((fail_if_success (with_reducible first | show wpAny _ _ (ite _ _ _) _ _ _ | show wpAny _ _ (notOfAnOpaqueClass _ _ _) _ _ _ | show wpAny _ _ (mroOf _) _ _ _ | show wpAny _ _ (forIn _ _ _) _ _ _ | show wpAny _ _ (nsGet _ _) _ _ _)); wp_step)
  refine wpAny_ite_false (by kernel_rfl) ?_
  repeat ((fail_if_success (with_reducible first | show wpAny _ _ (ite _ _ _) _ _ _ | show wpAny _ _ (notOfAnOpaqueClass _ _ _) _ _ _ | show wpAny _ _ (mroOf _) _ _ _ | show wpAny _ _ (forIn _ _ _) _ _ _ | show wpAny _ _ (nsGet _ _) _ _ _)); wp_step)
  refine wpAny_ite_false (by kernel_rfl) ?_
  repeat ((fail_if_success (with_reducible first | show wpAny _ _ (ite _ _ _) _ _ _ | show wpAny _ _ (notOfAnOpaqueClass _ _ _) _ _ _ | show wpAny _ _ (mroOf _) _ _ _ | show wpAny _ _ (forIn _ _ _) _ _ _ | show wpAny _ _ (nsGet _ _) _ _ _)); wp_step)
  unfold notOfAnOpaqueClass
  repeat ((fail_if_success (with_reducible first | show wpAny _ _ (ite _ _ _) _ _ _ | show wpAny _ _ (notOfAnOpaqueClass _ _ _) _ _ _ | show wpAny _ _ (mroOf _) _ _ _ | show wpAny _ _ (forIn _ _ _) _ _ _ | show wpAny _ _ (nsGet _ _) _ _ _)); wp_step)
  refine nsGet_at (r := none) hst (by kernel_rfl) ?_
  repeat ((fail_if_success (with_reducible first | show wpAny _ _ (ite _ _ _) _ _ _ | show wpAny _ _ (notOfAnOpaqueClass _ _ _) _ _ _ | show wpAny _ _ (mroOf _) _ _ _ | show wpAny _ _ (forIn _ _ _) _ _ _ | show wpAny _ _ (nsGet _ _) _ _ _)); wp_step)
  refine wpAny_ite_true (by kernel_rfl) ?_
  repeat ((fail_if_success (with_reducible first | show wpAny _ _ (ite _ _ _) _ _ _ | show wpAny _ _ (notOfAnOpaqueClass _ _ _) _ _ _ | show wpAny _ _ (mroOf _) _ _ _ | show wpAny _ _ (forIn _ _ _) _ _ _ | show wpAny _ _ (nsGet _ _) _ _ _)); wp_step)
  refine wpAny_ite_false (by kernel_rfl) ?_
  repeat ((fail_if_success (with_reducible first | show wpAny _ _ (ite _ _ _) _ _ _ | show wpAny _ _ (notOfAnOpaqueClass _ _ _) _ _ _ | show wpAny _ _ (mroOf _) _ _ _ | show wpAny _ _ (forIn _ _ _) _ _ _ | show wpAny _ _ (nsGet _ _) _ _ _)); wp_step)
  refine mroOf_at h1 rfl ?_
  have hdw : List.drop 1 (List.dropWhile (fun x => x != Value.ref cls) [Value.ref cls, Value.type "object"]) = [Value.type "object"] := by simp
  repeat ((fail_if_success (with_reducible first | show wpAny _ _ (ite _ _ _) _ _ _ | show wpAny _ _ (notOfAnOpaqueClass _ _ _) _ _ _ | show wpAny _ _ (mroOf _) _ _ _ | show wpAny _ _ (forIn _ _ _) _ _ _ | show wpAny _ _ (nsGet _ _) _ _ _)); wp_step)
  change wpAny _ _ (forIn (List.drop 1 (List.dropWhile (fun x => x != Value.ref cls) [Value.ref cls, Value.type "object"])) (none, ()) _) _ _ _
  rw [hdw, List.forIn_cons]
  have e0 : (Value.ref cls == Value.ref cls) = true := by simp
  refine wpAny_bind (wpAny_bind (wpAny_of_eq (a := some (.builtin "object.__init_subclass__")) (by kernel_rfl) ?_))
  refine wpAny_bind (wpAny_of_eq (a := .type "classmethod_descriptor") (by show builtinType _ = _; rw [builtinType_eq_fast]; kernel_rfl) ?_)
  refine wpAny_bind (wpAny_of_eq (a := some (.builtin "classmethod_descriptor.__get__")) (by rw [typeLookup_type, builtinLookup_eq_fast]; kernel_rfl) ?_)
  refine wpAny_bind (wpAny_holding ?_)
  change wpAny _ _ (call (.builtin "classmethod_descriptor.__get__") [.builtin "object.__init_subclass__", if (Value.ref cls == Value.ref cls) = true then Value.none else Value.ref cls, Value.ref cls]) _ _ _
  rw [e0, if_pos rfl]
  refine from_top (A := A.in1) hh (by show A.depth ≤ 900; (exact Nat.le_trans (by assumption) (by decide))) (by show A.units + 1 ≤ 9000; (exact Nat.lt_of_le_of_lt (by assumption) (by decide))) (get_call (s := ⟨h, g, d, t + 1, os⟩) h1 h2 fun x h' tk k1 k2 k3 => ?_)
  repeat ((fail_if_success (with_reducible first | show wpAny _ _ (ite _ _ _) _ _ _ | show wpAny _ _ (notOfAnOpaqueClass _ _ _) _ _ _ | show wpAny _ _ (mroOf _) _ _ _ | show wpAny _ _ (forIn _ _ _) _ _ _ | show wpAny _ _ (nsGet _ _) _ _ _)); wp_step)
  exact ⟨_, rfl, wpAny_of_eq (a := .ref x) rfl (hQ x h' tk k1 k2 k3)⟩
end Mine
end

section
set_option maxRecDepth 100000
set_option maxHeartbeats 0
set_option linter.unusedVariables false
namespace Mine
open PySem PySem.W PyProof.Rows PySem.W.X
noncomputable def clsS (mro : List Value) (n2 : Addr) (hd : Bool) (sn : List Str) (sl : Array (Option Value)) : Obj := { cls := .type "type", data := .cls { name := "K", bases := [.type "object"], mro := mro, ns := n2, qualname := "cmp_to_key.<locals>.K", hasDict := hd, slotNames := sn }, slots := sl }
noncomputable def ents2 (hs : Nat → Int) (ts : Nat → Tok) (line : Int) (sl ini lt gt eq le ge sa : Addr) : Array DictEntry := #[
  ⟨hs 0, .str "__module__" (ts 0), .str "cpy313.functools" (ts 13)⟩, ⟨hs 1, .str "__firstlineno__" (ts 1), .int line (ts 14)⟩, ⟨hs 2, .str "__slots__" (ts 2), .ref sl⟩, ⟨hs 3, .str "__init__" (ts 3), .ref ini⟩,
  ⟨hs 4, .str "__lt__" (ts 4), .ref lt⟩, ⟨hs 5, .str "__gt__" (ts 5), .ref gt⟩, ⟨hs 6, .str "__eq__" (ts 6), .ref eq⟩, ⟨hs 7, .str "__le__" (ts 7), .ref le⟩, ⟨hs 8, .str "__ge__" (ts 8), .ref ge⟩, ⟨hs 9, .str "__hash__" (ts 9), .none⟩,
  ⟨hs 10, .str "__static_attributes__" (ts 10), .ref sa⟩]
noncomputable def ents3 (hs : Nat → Int) (ts : Nat → Tok) (line : Int) (sl ini lt gt eq le ge sa md : Addr) : Array DictEntry := #[
  ⟨hs 0, .str "__module__" (ts 0), .str "cpy313.functools" (ts 13)⟩, ⟨hs 1, .str "__firstlineno__" (ts 1), .int line (ts 14)⟩, ⟨hs 2, .str "__slots__" (ts 2), .ref sl⟩, ⟨hs 3, .str "__init__" (ts 3), .ref ini⟩,
  ⟨hs 4, .str "__lt__" (ts 4), .ref lt⟩, ⟨hs 5, .str "__gt__" (ts 5), .ref gt⟩, ⟨hs 6, .str "__eq__" (ts 6), .ref eq⟩, ⟨hs 7, .str "__le__" (ts 7), .ref le⟩, ⟨hs 8, .str "__ge__" (ts 8), .ref ge⟩, ⟨hs 9, .str "__hash__" (ts 9), .none⟩,
  ⟨hs 10, .str "__static_attributes__" (ts 10), .ref sa⟩, ⟨hs 11, .str "obj" (ts 11), .ref md⟩]
noncomputable def sub1 {α : Type} (f : Nat → α) (i : Nat) (v : α) (j : Nat) : α := if j = i then v else f j
theorem loop_same {M : Model} {A : Around} {E : Value → Shared → Prop} {s : Shared} {f : DictEntry → PUnit → Sem (ForInStep PUnit)} {Q : PUnit → Shared → Prop} : ∀ {es : List DictEntry}, (∀ e ∈ es, wpAny M A (f e ⟨⟩) (fun r s' => r = ForInStep.yield ⟨⟩ ∧ s' = s) E s) → Q ⟨⟩ s → wpAny M A (forIn es PUnit.unit f) Q E s
  | [], _, q => wpAny_pure q
  | e :: es, h, q => by
    rw [List.forIn_cons]
    refine wpAny_bind (wpAny_mono (h e List.mem_cons_self) (fun r s' hr => ?_) fun _ _ x => x)
    obtain ⟨rfl, rfl⟩ := hr
    exact loop_same (fun e' he' => h e' (List.mem_cons_of_mem _ he')) q
theorem typeNew {prog : Program} {w : World} {A : Around} {E : Value → Shared → Prop} {Q : PySem.Fin → Shared → Prop} {hp : Heap} {g : Array GenState} {d : Drawn} {t : Nat} {os : OsState} {bt ns : Addr} {tn : Tok} {hs : Nat → Int} {ts : Nat → Tok} {line : Int} {sl ini lt gt eq le ge sa : Addr} {ep : Nat} {to : Tok} {n : Nat}
    (hb : hp.get? bt = some { cls := .type "tuple", data := .seq #[.type "object"] }) (hn : hp.get? ns = some { cls := .type "dict", data := .dict (nsEnts hs ts line sl ini lt gt eq le ge sa) ep }) (hsm : (ns == sysModules) = false)
    (hsl : hp.get? sl = some { cls := .type "list", data := .seq #[.str "obj" to] n })
    (hfn : ∀ x ∈ [ini, lt, gt, eq, le, ge], ∃ o, hp.get? x = some o ∧ o.cls = .type "function") (hsa : ∃ o, hp.get? sa = some o ∧ o.cls = .type "tuple")
    (hh : A.handled = none) (hd : A.depth ≤ 880) (hu : A.units ≤ 8800) (hst : hp.get? cStatics = some { cls := .none, data := .dict #[] })
    (hQ : ∀ a n2 md h' tk hs' ts' tm, Keeps1 hp h' → h'.get? a = some (clsObj a n2 bt tn (ts 21)) → h'.get? n2 = some (nsObj hs' ts' line sl ini lt gt eq le ge sa md) → h'.get? md = some (mdObj a tm) → Q (.done (.ret (.ref a))) ⟨h', g, d, tk, os⟩) :
    wpAny (model prog w) A (Builtin.«type.__new__» ⟨[.type "type", .str "K" tn, .ref bt, .ref ns], []⟩) Q E ⟨hp, g, d, t, os⟩ := by
  have s1 : isSubtype (.type "tuple") (.type "tuple") = pure true := by kernel_rfl
  have s2 : isSubtype (.type "dict") (.type "dict") = pure true := by kernel_rfl
  have s3 : isSubtype (.type "type") (.type "type") = pure true := by kernel_rfl
  have t1 : typeOf (.type "object") = pure (.type "type") := by kernel_rfl
  have i1 : isType (.type "object") = pure true := by kernel_rfl
  repeat ((fail_if_success (with_reducible first | show wpAny _ _ (Builtin.notOverATurnedClass _) _ _ _ | show wpAny _ _ (Builtin.Slots.read _ _ _) _ _ _ | show wpAny _ _ (nsGet _ _) _ _ _ | show wpAny _ _ (nsSet _ _ _) _ _ _ | show wpAny _ _ (nsDel _ _) _ _ _ | show wpAny _ _ (nsSetByValue _ _ _) _ _ _ | show wpAny _ _ (Builtin.linearize _ _) _ _ _ | show wpAny _ _ (Builtin.mroHook? _) _ _ _ | show wpAny _ _ (Bind.madeBy _) _ _ _ | show wpAny _ _ (Bind.refreshMaker _) _ _ _ | show wpAny _ _ (Builtin.Slots.install _ _ _ _) _ _ _ | show wpAny _ _ (Builtin.Slots.givesWeak _) _ _ _ | show wpAny _ _ (specialOf _ _) _ _ _ | show wpAny _ _ (updateCls _ _) _ _ _ | show wpAny _ _ (setSlotAt _ _ _) _ _ _ | show wpAny _ _ (newObj _ _ _) _ _ _ | show wpAny _ _ (alloc _) _ _ _)); wp_step)
  refine wpAny_of_eq (a := ()) (by kernel_rfl) ?_
  refine wpAny_bind (wpAny_of_eq (a := .type "object") (by kernel_rfl) ?_)
  repeat ((fail_if_success (with_reducible first | show wpAny _ _ (Builtin.notOverATurnedClass _) _ _ _ | show wpAny _ _ (Builtin.Slots.read _ _ _) _ _ _ | show wpAny _ _ (nsGet _ _) _ _ _ | show wpAny _ _ (nsSet _ _ _) _ _ _ | show wpAny _ _ (nsDel _ _) _ _ _ | show wpAny _ _ (nsSetByValue _ _ _) _ _ _ | show wpAny _ _ (Builtin.linearize _ _) _ _ _ | show wpAny _ _ (Builtin.mroHook? _) _ _ _ | show wpAny _ _ (Bind.madeBy _) _ _ _ | show wpAny _ _ (Bind.refreshMaker _) _ _ _ | show wpAny _ _ (Builtin.Slots.install _ _ _ _) _ _ _ | show wpAny _ _ (Builtin.Slots.givesWeak _) _ _ _ | show wpAny _ _ (specialOf _ _) _ _ _ | show wpAny _ _ (updateCls _ _) _ _ _ | show wpAny _ _ (setSlotAt _ _ _) _ _ _ | show wpAny _ _ (newObj _ _ _) _ _ _ | show wpAny _ _ (alloc _) _ _ _)); wp_step)
  refine wpAny_specialOf (T := "dict") (r := some (.builtin "dict.__iter__")) ⟨_, hn, rfl⟩ (by rw [typeLookup_type, builtinLookup_eq_fast]; kernel_rfl) ?_
  repeat ((fail_if_success (with_reducible first | show wpAny _ _ (Builtin.notOverATurnedClass _) _ _ _ | show wpAny _ _ (Builtin.Slots.read _ _ _) _ _ _ | show wpAny _ _ (nsGet _ _) _ _ _ | show wpAny _ _ (nsSet _ _ _) _ _ _ | show wpAny _ _ (nsDel _ _) _ _ _ | show wpAny _ _ (nsSetByValue _ _ _) _ _ _ | show wpAny _ _ (Builtin.linearize _ _) _ _ _ | show wpAny _ _ (Builtin.mroHook? _) _ _ _ | show wpAny _ _ (Bind.madeBy _) _ _ _ | show wpAny _ _ (Bind.refreshMaker _) _ _ _ | show wpAny _ _ (Builtin.Slots.install _ _ _ _) _ _ _ | show wpAny _ _ (Builtin.Slots.givesWeak _) _ _ _ | show wpAny _ _ (specialOf _ _) _ _ _ | show wpAny _ _ (updateCls _ _) _ _ _ | show wpAny _ _ (setSlotAt _ _ _) _ _ _ | show wpAny _ _ (newObj _ _ _) _ _ _ | show wpAny _ _ (alloc _) _ _ _)); wp_step)
  clear s1 s2 s3 t1 i1
  refine slotsRead hsl fun h₁ k₁ => ?_
  repeat ((fail_if_success (with_reducible first | show wpAny _ _ (Builtin.notOverATurnedClass _) _ _ _ | show wpAny _ _ (Builtin.Slots.read _ _ _) _ _ _ | show wpAny _ _ (nsGet _ _) _ _ _ | show wpAny _ _ (nsSet _ _ _) _ _ _ | show wpAny _ _ (nsDel _ _) _ _ _ | show wpAny _ _ (nsSetByValue _ _ _) _ _ _ | show wpAny _ _ (Builtin.linearize _ _) _ _ _ | show wpAny _ _ (Builtin.mroHook? _) _ _ _ | show wpAny _ _ (Bind.madeBy _) _ _ _ | show wpAny _ _ (Bind.refreshMaker _) _ _ _ | show wpAny _ _ (Builtin.Slots.install _ _ _ _) _ _ _ | show wpAny _ _ (Builtin.Slots.givesWeak _) _ _ _ | show wpAny _ _ (specialOf _ _) _ _ _ | show wpAny _ _ (updateCls _ _) _ _ _ | show wpAny _ _ (setSlotAt _ _ _) _ _ _ | show wpAny _ _ (newObj _ _ _) _ _ _ | show wpAny _ _ (alloc _) _ _ _)); wp_step)
  refine newDict_at (Nat.le_of_ble_eq_true rfl) fun n2 h₂ f₂ g₂ k₂ => ?_
  repeat ((fail_if_success (with_reducible first | show wpAny _ _ (Builtin.notOverATurnedClass _) _ _ _ | show wpAny _ _ (Builtin.Slots.read _ _ _) _ _ _ | show wpAny _ _ (nsGet _ _) _ _ _ | show wpAny _ _ (nsSet _ _ _) _ _ _ | show wpAny _ _ (nsDel _ _) _ _ _ | show wpAny _ _ (nsSetByValue _ _ _) _ _ _ | show wpAny _ _ (Builtin.linearize _ _) _ _ _ | show wpAny _ _ (Builtin.mroHook? _) _ _ _ | show wpAny _ _ (Bind.madeBy _) _ _ _ | show wpAny _ _ (Bind.refreshMaker _) _ _ _ | show wpAny _ _ (Builtin.Slots.install _ _ _ _) _ _ _ | show wpAny _ _ (Builtin.Slots.givesWeak _) _ _ _ | show wpAny _ _ (specialOf _ _) _ _ _ | show wpAny _ _ (updateCls _ _) _ _ _ | show wpAny _ _ (setSlotAt _ _ _) _ _ _ | show wpAny _ _ (newObj _ _ _) _ _ _ | show wpAny _ _ (alloc _) _ _ _)); wp_step)
  refine wpAny_ite_false (by kernel_rfl) ?_
  repeat ((fail_if_success (with_reducible first | show wpAny _ _ (Builtin.notOverATurnedClass _) _ _ _ | show wpAny _ _ (Builtin.Slots.read _ _ _) _ _ _ | show wpAny _ _ (nsGet _ _) _ _ _ | show wpAny _ _ (nsSet _ _ _) _ _ _ | show wpAny _ _ (nsDel _ _) _ _ _ | show wpAny _ _ (nsSetByValue _ _ _) _ _ _ | show wpAny _ _ (Builtin.linearize _ _) _ _ _ | show wpAny _ _ (Builtin.mroHook? _) _ _ _ | show wpAny _ _ (Bind.madeBy _) _ _ _ | show wpAny _ _ (Bind.refreshMaker _) _ _ _ | show wpAny _ _ (Builtin.Slots.install _ _ _ _) _ _ _ | show wpAny _ _ (Builtin.Slots.givesWeak _) _ _ _ | show wpAny _ _ (specialOf _ _) _ _ _ | show wpAny _ _ (updateCls _ _) _ _ _ | show wpAny _ _ (setSlotAt _ _ _) _ _ _ | show wpAny _ _ (newObj _ _ _) _ _ _ | show wpAny _ _ (alloc _) _ _ _)); wp_step)
  refine wpAny_ite_false (by kernel_rfl) ?_
  repeat ((fail_if_success (with_reducible first | show wpAny _ _ (Builtin.notOverATurnedClass _) _ _ _ | show wpAny _ _ (Builtin.Slots.read _ _ _) _ _ _ | show wpAny _ _ (nsGet _ _) _ _ _ | show wpAny _ _ (nsSet _ _ _) _ _ _ | show wpAny _ _ (nsDel _ _) _ _ _ | show wpAny _ _ (nsSetByValue _ _ _) _ _ _ | show wpAny _ _ (Builtin.linearize _ _) _ _ _ | show wpAny _ _ (Builtin.mroHook? _) _ _ _ | show wpAny _ _ (Bind.madeBy _) _ _ _ | show wpAny _ _ (Bind.refreshMaker _) _ _ _ | show wpAny _ _ (Builtin.Slots.install _ _ _ _) _ _ _ | show wpAny _ _ (Builtin.Slots.givesWeak _) _ _ _ | show wpAny _ _ (specialOf _ _) _ _ _ | show wpAny _ _ (updateCls _ _) _ _ _ | show wpAny _ _ (setSlotAt _ _ _) _ _ _ | show wpAny _ _ (newObj _ _ _) _ _ _ | show wpAny _ _ (alloc _) _ _ _)); wp_step)
  refine wpAny_ite_false (by kernel_rfl) ?_
  repeat ((fail_if_success (with_reducible first | show wpAny _ _ (Builtin.notOverATurnedClass _) _ _ _ | show wpAny _ _ (Builtin.Slots.read _ _ _) _ _ _ | show wpAny _ _ (nsGet _ _) _ _ _ | show wpAny _ _ (nsSet _ _ _) _ _ _ | show wpAny _ _ (nsDel _ _) _ _ _ | show wpAny _ _ (nsSetByValue _ _ _) _ _ _ | show wpAny _ _ (Builtin.linearize _ _) _ _ _ | show wpAny _ _ (Builtin.mroHook? _) _ _ _ | show wpAny _ _ (Bind.madeBy _) _ _ _ | show wpAny _ _ (Bind.refreshMaker _) _ _ _ | show wpAny _ _ (Builtin.Slots.install _ _ _ _) _ _ _ | show wpAny _ _ (Builtin.Slots.givesWeak _) _ _ _ | show wpAny _ _ (specialOf _ _) _ _ _ | show wpAny _ _ (updateCls _ _) _ _ _ | show wpAny _ _ (setSlotAt _ _ _) _ _ _ | show wpAny _ _ (newObj _ _ _) _ _ _ | show wpAny _ _ (alloc _) _ _ _)); wp_step)
  refine nsGet_at (r := some (.str "cmp_to_key.<locals>.K" (ts 21))) g₂ (by kernel_rfl) ?_
  repeat ((fail_if_success (with_reducible first | show wpAny _ _ (Builtin.notOverATurnedClass _) _ _ _ | show wpAny _ _ (Builtin.Slots.read _ _ _) _ _ _ | show wpAny _ _ (nsGet _ _) _ _ _ | show wpAny _ _ (nsSet _ _ _) _ _ _ | show wpAny _ _ (nsDel _ _) _ _ _ | show wpAny _ _ (nsSetByValue _ _ _) _ _ _ | show wpAny _ _ (Builtin.linearize _ _) _ _ _ | show wpAny _ _ (Builtin.mroHook? _) _ _ _ | show wpAny _ _ (Bind.madeBy _) _ _ _ | show wpAny _ _ (Bind.refreshMaker _) _ _ _ | show wpAny _ _ (Builtin.Slots.install _ _ _ _) _ _ _ | show wpAny _ _ (Builtin.Slots.givesWeak _) _ _ _ | show wpAny _ _ (specialOf _ _) _ _ _ | show wpAny _ _ (updateCls _ _) _ _ _ | show wpAny _ _ (setSlotAt _ _ _) _ _ _ | show wpAny _ _ (newObj _ _ _) _ _ _ | show wpAny _ _ (alloc _) _ _ _)); wp_step)
  refine nsGet_at (r := some (.str "cmp_to_key.<locals>.K" (ts 21))) g₂ (by kernel_rfl) ?_
  repeat ((fail_if_success (with_reducible first | show wpAny _ _ (Builtin.notOverATurnedClass _) _ _ _ | show wpAny _ _ (Builtin.Slots.read _ _ _) _ _ _ | show wpAny _ _ (nsGet _ _) _ _ _ | show wpAny _ _ (nsSet _ _ _) _ _ _ | show wpAny _ _ (nsDel _ _) _ _ _ | show wpAny _ _ (nsSetByValue _ _ _) _ _ _ | show wpAny _ _ (Builtin.linearize _ _) _ _ _ | show wpAny _ _ (Builtin.mroHook? _) _ _ _ | show wpAny _ _ (Bind.madeBy _) _ _ _ | show wpAny _ _ (Bind.refreshMaker _) _ _ _ | show wpAny _ _ (Builtin.Slots.install _ _ _ _) _ _ _ | show wpAny _ _ (Builtin.Slots.givesWeak _) _ _ _ | show wpAny _ _ (specialOf _ _) _ _ _ | show wpAny _ _ (updateCls _ _) _ _ _ | show wpAny _ _ (setSlotAt _ _ _) _ _ _ | show wpAny _ _ (newObj _ _ _) _ _ _ | show wpAny _ _ (alloc _) _ _ _)); wp_step)
  refine nsGet_at (r := none) g₂ (by kernel_rfl) ?_
  repeat ((fail_if_success (with_reducible first | show wpAny _ _ (Builtin.notOverATurnedClass _) _ _ _ | show wpAny _ _ (Builtin.Slots.read _ _ _) _ _ _ | show wpAny _ _ (nsGet _ _) _ _ _ | show wpAny _ _ (nsSet _ _ _) _ _ _ | show wpAny _ _ (nsDel _ _) _ _ _ | show wpAny _ _ (nsSetByValue _ _ _) _ _ _ | show wpAny _ _ (Builtin.linearize _ _) _ _ _ | show wpAny _ _ (Builtin.mroHook? _) _ _ _ | show wpAny _ _ (Bind.madeBy _) _ _ _ | show wpAny _ _ (Bind.refreshMaker _) _ _ _ | show wpAny _ _ (Builtin.Slots.install _ _ _ _) _ _ _ | show wpAny _ _ (Builtin.Slots.givesWeak _) _ _ _ | show wpAny _ _ (specialOf _ _) _ _ _ | show wpAny _ _ (updateCls _ _) _ _ _ | show wpAny _ _ (setSlotAt _ _ _) _ _ _ | show wpAny _ _ (newObj _ _ _) _ _ _ | show wpAny _ _ (alloc _) _ _ _)); wp_step)
  refine alloc_at rfl fun a h₃ f₃ g₃ k₃ => ?_
  repeat ((fail_if_success (with_reducible first | show wpAny _ _ (Builtin.notOverATurnedClass _) _ _ _ | show wpAny _ _ (Builtin.Slots.read _ _ _) _ _ _ | show wpAny _ _ (nsGet _ _) _ _ _ | show wpAny _ _ (nsSet _ _ _) _ _ _ | show wpAny _ _ (nsDel _ _) _ _ _ | show wpAny _ _ (nsSetByValue _ _ _) _ _ _ | show wpAny _ _ (Builtin.linearize _ _) _ _ _ | show wpAny _ _ (Builtin.mroHook? _) _ _ _ | show wpAny _ _ (Bind.madeBy _) _ _ _ | show wpAny _ _ (Bind.refreshMaker _) _ _ _ | show wpAny _ _ (Builtin.Slots.install _ _ _ _) _ _ _ | show wpAny _ _ (Builtin.Slots.givesWeak _) _ _ _ | show wpAny _ _ (specialOf _ _) _ _ _ | show wpAny _ _ (updateCls _ _) _ _ _ | show wpAny _ _ (setSlotAt _ _ _) _ _ _ | show wpAny _ _ (newObj _ _ _) _ _ _ | show wpAny _ _ (alloc _) _ _ _)); wp_step)
  have ne₃ : n2 ≠ a := fun q => by rw [← q, g₂] at f₃; cases f₃
  have n₃ := k₃ _ _ g₂
  refine slot_at (o' := clsS [] n2 true [] #[some (.ref bt)]) g₃ (by decide) (by kernel_rfl) rfl fun h₄ g₄ k₄ => ?_
  have n₄ := k₄ _ _ ne₃ n₃
  repeat ((fail_if_success (with_reducible first | show wpAny _ _ (Builtin.notOverATurnedClass _) _ _ _ | show wpAny _ _ (Builtin.Slots.read _ _ _) _ _ _ | show wpAny _ _ (nsGet _ _) _ _ _ | show wpAny _ _ (nsSet _ _ _) _ _ _ | show wpAny _ _ (nsDel _ _) _ _ _ | show wpAny _ _ (nsSetByValue _ _ _) _ _ _ | show wpAny _ _ (Builtin.linearize _ _) _ _ _ | show wpAny _ _ (Builtin.mroHook? _) _ _ _ | show wpAny _ _ (Bind.madeBy _) _ _ _ | show wpAny _ _ (Bind.refreshMaker _) _ _ _ | show wpAny _ _ (Builtin.Slots.install _ _ _ _) _ _ _ | show wpAny _ _ (Builtin.Slots.givesWeak _) _ _ _ | show wpAny _ _ (specialOf _ _) _ _ _ | show wpAny _ _ (updateCls _ _) _ _ _ | show wpAny _ _ (setSlotAt _ _ _) _ _ _ | show wpAny _ _ (newObj _ _ _) _ _ _ | show wpAny _ _ (alloc _) _ _ _)); wp_step)
  refine slot_at (o' := clsS [] n2 true [] #[some (.ref bt), none, some (.str "K" tn)]) g₄ (by decide) (by kernel_rfl) rfl fun h₅ g₅ k₅ => ?_
  have n₅ := k₅ _ _ ne₃ n₄
  repeat ((fail_if_success (with_reducible first | show wpAny _ _ (Builtin.notOverATurnedClass _) _ _ _ | show wpAny _ _ (Builtin.Slots.read _ _ _) _ _ _ | show wpAny _ _ (nsGet _ _) _ _ _ | show wpAny _ _ (nsSet _ _ _) _ _ _ | show wpAny _ _ (nsDel _ _) _ _ _ | show wpAny _ _ (nsSetByValue _ _ _) _ _ _ | show wpAny _ _ (Builtin.linearize _ _) _ _ _ | show wpAny _ _ (Builtin.mroHook? _) _ _ _ | show wpAny _ _ (Bind.madeBy _) _ _ _ | show wpAny _ _ (Bind.refreshMaker _) _ _ _ | show wpAny _ _ (Builtin.Slots.install _ _ _ _) _ _ _ | show wpAny _ _ (Builtin.Slots.givesWeak _) _ _ _ | show wpAny _ _ (specialOf _ _) _ _ _ | show wpAny _ _ (updateCls _ _) _ _ _ | show wpAny _ _ (setSlotAt _ _ _) _ _ _ | show wpAny _ _ (newObj _ _ _) _ _ _ | show wpAny _ _ (alloc _) _ _ _)); wp_step)
  refine slot_at (o' := clsS [] n2 true [] #[some (.ref bt), none, some (.str "K" tn), some (.str "cmp_to_key.<locals>.K" (ts 21))]) g₅ (by decide) (by kernel_rfl) rfl fun h₆ g₆ k₆ => ?_
  have n₆ := k₆ _ _ ne₃ n₅
  repeat ((fail_if_success (with_reducible first | show wpAny _ _ (Builtin.notOverATurnedClass _) _ _ _ | show wpAny _ _ (Builtin.Slots.read _ _ _) _ _ _ | show wpAny _ _ (nsGet _ _) _ _ _ | show wpAny _ _ (nsSet _ _ _) _ _ _ | show wpAny _ _ (nsDel _ _) _ _ _ | show wpAny _ _ (nsSetByValue _ _ _) _ _ _ | show wpAny _ _ (Builtin.linearize _ _) _ _ _ | show wpAny _ _ (Builtin.mroHook? _) _ _ _ | show wpAny _ _ (Bind.madeBy _) _ _ _ | show wpAny _ _ (Bind.refreshMaker _) _ _ _ | show wpAny _ _ (Builtin.Slots.install _ _ _ _) _ _ _ | show wpAny _ _ (Builtin.Slots.givesWeak _) _ _ _ | show wpAny _ _ (specialOf _ _) _ _ _ | show wpAny _ _ (updateCls _ _) _ _ _ | show wpAny _ _ (setSlotAt _ _ _) _ _ _ | show wpAny _ _ (newObj _ _ _) _ _ _ | show wpAny _ _ (alloc _) _ _ _)); wp_step)
  refine nsDel_at (o' := { cls := .type "dict", data := .dict (ents2 hs ts line sl ini lt gt eq le ge sa) 1 }) n₆ (by kernel_rfl) (by kernel_rfl) rfl fun h₇ n₇ k₇ => ?_
  have g₇ := k₇ _ _ ne₃.symm g₆
  repeat ((fail_if_success (with_reducible first | show wpAny _ _ (Builtin.notOverATurnedClass _) _ _ _ | show wpAny _ _ (Builtin.Slots.read _ _ _) _ _ _ | show wpAny _ _ (nsGet _ _) _ _ _ | show wpAny _ _ (nsSet _ _ _) _ _ _ | show wpAny _ _ (nsDel _ _) _ _ _ | show wpAny _ _ (nsSetByValue _ _ _) _ _ _ | show wpAny _ _ (Builtin.linearize _ _) _ _ _ | show wpAny _ _ (Builtin.mroHook? _) _ _ _ | show wpAny _ _ (Bind.madeBy _) _ _ _ | show wpAny _ _ (Bind.refreshMaker _) _ _ _ | show wpAny _ _ (Builtin.Slots.install _ _ _ _) _ _ _ | show wpAny _ _ (Builtin.Slots.givesWeak _) _ _ _ | show wpAny _ _ (specialOf _ _) _ _ _ | show wpAny _ _ (updateCls _ _) _ _ _ | show wpAny _ _ (setSlotAt _ _ _) _ _ _ | show wpAny _ _ (newObj _ _ _) _ _ _ | show wpAny _ _ (alloc _) _ _ _)); wp_step)
  refine nsGet_at (r := none) n₇ (by kernel_rfl) ?_
  repeat ((fail_if_success (with_reducible first | show wpAny _ _ (Builtin.notOverATurnedClass _) _ _ _ | show wpAny _ _ (Builtin.Slots.read _ _ _) _ _ _ | show wpAny _ _ (nsGet _ _) _ _ _ | show wpAny _ _ (nsSet _ _ _) _ _ _ | show wpAny _ _ (nsDel _ _) _ _ _ | show wpAny _ _ (nsSetByValue _ _ _) _ _ _ | show wpAny _ _ (Builtin.linearize _ _) _ _ _ | show wpAny _ _ (Builtin.mroHook? _) _ _ _ | show wpAny _ _ (Bind.madeBy _) _ _ _ | show wpAny _ _ (Bind.refreshMaker _) _ _ _ | show wpAny _ _ (Builtin.Slots.install _ _ _ _) _ _ _ | show wpAny _ _ (Builtin.Slots.givesWeak _) _ _ _ | show wpAny _ _ (specialOf _ _) _ _ _ | show wpAny _ _ (updateCls _ _) _ _ _ | show wpAny _ _ (setSlotAt _ _ _) _ _ _ | show wpAny _ _ (newObj _ _ _) _ _ _ | show wpAny _ _ (alloc _) _ _ _)); wp_step)
  refine nsGet_at (r := none) n₇ (by kernel_rfl) ?_
  repeat ((fail_if_success (with_reducible first | show wpAny _ _ (Builtin.notOverATurnedClass _) _ _ _ | show wpAny _ _ (Builtin.Slots.read _ _ _) _ _ _ | show wpAny _ _ (nsGet _ _) _ _ _ | show wpAny _ _ (nsSet _ _ _) _ _ _ | show wpAny _ _ (nsDel _ _) _ _ _ | show wpAny _ _ (nsSetByValue _ _ _) _ _ _ | show wpAny _ _ (Builtin.linearize _ _) _ _ _ | show wpAny _ _ (Builtin.mroHook? _) _ _ _ | show wpAny _ _ (Bind.madeBy _) _ _ _ | show wpAny _ _ (Bind.refreshMaker _) _ _ _ | show wpAny _ _ (Builtin.Slots.install _ _ _ _) _ _ _ | show wpAny _ _ (Builtin.Slots.givesWeak _) _ _ _ | show wpAny _ _ (specialOf _ _) _ _ _ | show wpAny _ _ (updateCls _ _) _ _ _ | show wpAny _ _ (setSlotAt _ _ _) _ _ _ | show wpAny _ _ (newObj _ _ _) _ _ _ | show wpAny _ _ (alloc _) _ _ _)); wp_step)
  refine nsGet_at (r := none) n₇ (by kernel_rfl) ?_
  repeat ((fail_if_success (with_reducible first | show wpAny _ _ (Builtin.notOverATurnedClass _) _ _ _ | show wpAny _ _ (Builtin.Slots.read _ _ _) _ _ _ | show wpAny _ _ (nsGet _ _) _ _ _ | show wpAny _ _ (nsSet _ _ _) _ _ _ | show wpAny _ _ (nsDel _ _) _ _ _ | show wpAny _ _ (nsSetByValue _ _ _) _ _ _ | show wpAny _ _ (Builtin.linearize _ _) _ _ _ | show wpAny _ _ (Builtin.mroHook? _) _ _ _ | show wpAny _ _ (Bind.madeBy _) _ _ _ | show wpAny _ _ (Bind.refreshMaker _) _ _ _ | show wpAny _ _ (Builtin.Slots.install _ _ _ _) _ _ _ | show wpAny _ _ (Builtin.Slots.givesWeak _) _ _ _ | show wpAny _ _ (specialOf _ _) _ _ _ | show wpAny _ _ (updateCls _ _) _ _ _ | show wpAny _ _ (setSlotAt _ _ _) _ _ _ | show wpAny _ _ (newObj _ _ _) _ _ _ | show wpAny _ _ (alloc _) _ _ _)); wp_step)
  refine nsGet_at (r := none) n₇ (by kernel_rfl) ?_
  repeat ((fail_if_success (with_reducible first | show wpAny _ _ (Builtin.notOverATurnedClass _) _ _ _ | show wpAny _ _ (Builtin.Slots.read _ _ _) _ _ _ | show wpAny _ _ (nsGet _ _) _ _ _ | show wpAny _ _ (nsSet _ _ _) _ _ _ | show wpAny _ _ (nsDel _ _) _ _ _ | show wpAny _ _ (nsSetByValue _ _ _) _ _ _ | show wpAny _ _ (Builtin.linearize _ _) _ _ _ | show wpAny _ _ (Builtin.mroHook? _) _ _ _ | show wpAny _ _ (Bind.madeBy _) _ _ _ | show wpAny _ _ (Bind.refreshMaker _) _ _ _ | show wpAny _ _ (Builtin.Slots.install _ _ _ _) _ _ _ | show wpAny _ _ (Builtin.Slots.givesWeak _) _ _ _ | show wpAny _ _ (specialOf _ _) _ _ _ | show wpAny _ _ (updateCls _ _) _ _ _ | show wpAny _ _ (setSlotAt _ _ _) _ _ _ | show wpAny _ _ (newObj _ _ _) _ _ _ | show wpAny _ _ (alloc _) _ _ _)); wp_step)
  refine nsGet_at (r := none) n₇ (by kernel_rfl) ?_
  repeat ((fail_if_success (with_reducible first | show wpAny _ _ (Builtin.notOverATurnedClass _) _ _ _ | show wpAny _ _ (Builtin.Slots.read _ _ _) _ _ _ | show wpAny _ _ (nsGet _ _) _ _ _ | show wpAny _ _ (nsSet _ _ _) _ _ _ | show wpAny _ _ (nsDel _ _) _ _ _ | show wpAny _ _ (nsSetByValue _ _ _) _ _ _ | show wpAny _ _ (Builtin.linearize _ _) _ _ _ | show wpAny _ _ (Builtin.mroHook? _) _ _ _ | show wpAny _ _ (Bind.madeBy _) _ _ _ | show wpAny _ _ (Bind.refreshMaker _) _ _ _ | show wpAny _ _ (Builtin.Slots.install _ _ _ _) _ _ _ | show wpAny _ _ (Builtin.Slots.givesWeak _) _ _ _ | show wpAny _ _ (specialOf _ _) _ _ _ | show wpAny _ _ (updateCls _ _) _ _ _ | show wpAny _ _ (setSlotAt _ _ _) _ _ _ | show wpAny _ _ (newObj _ _ _) _ _ _ | show wpAny _ _ (alloc _) _ _ _)); wp_step)
  refine wpAny_of_eq (a := none) (by kernel_rfl) ?_
  repeat ((fail_if_success (with_reducible first | show wpAny _ _ (Builtin.notOverATurnedClass _) _ _ _ | show wpAny _ _ (Builtin.Slots.read _ _ _) _ _ _ | show wpAny _ _ (nsGet _ _) _ _ _ | show wpAny _ _ (nsSet _ _ _) _ _ _ | show wpAny _ _ (nsDel _ _) _ _ _ | show wpAny _ _ (nsSetByValue _ _ _) _ _ _ | show wpAny _ _ (Builtin.linearize _ _) _ _ _ | show wpAny _ _ (Builtin.mroHook? _) _ _ _ | show wpAny _ _ (Bind.madeBy _) _ _ _ | show wpAny _ _ (Bind.refreshMaker _) _ _ _ | show wpAny _ _ (Builtin.Slots.install _ _ _ _) _ _ _ | show wpAny _ _ (Builtin.Slots.givesWeak _) _ _ _ | show wpAny _ _ (specialOf _ _) _ _ _ | show wpAny _ _ (updateCls _ _) _ _ _ | show wpAny _ _ (setSlotAt _ _ _) _ _ _ | show wpAny _ _ (newObj _ _ _) _ _ _ | show wpAny _ _ (alloc _) _ _ _)); wp_step)
  refine wpAny_of_eq (a := [.type "object"]) (by kernel_rfl) ?_
  repeat ((fail_if_success (with_reducible first | show wpAny _ _ (Builtin.notOverATurnedClass _) _ _ _ | show wpAny _ _ (Builtin.Slots.read _ _ _) _ _ _ | show wpAny _ _ (nsGet _ _) _ _ _ | show wpAny _ _ (nsSet _ _ _) _ _ _ | show wpAny _ _ (nsDel _ _) _ _ _ | show wpAny _ _ (nsSetByValue _ _ _) _ _ _ | show wpAny _ _ (Builtin.linearize _ _) _ _ _ | show wpAny _ _ (Builtin.mroHook? _) _ _ _ | show wpAny _ _ (Bind.madeBy _) _ _ _ | show wpAny _ _ (Bind.refreshMaker _) _ _ _ | show wpAny _ _ (Builtin.Slots.install _ _ _ _) _ _ _ | show wpAny _ _ (Builtin.Slots.givesWeak _) _ _ _ | show wpAny _ _ (specialOf _ _) _ _ _ | show wpAny _ _ (updateCls _ _) _ _ _ | show wpAny _ _ (setSlotAt _ _ _) _ _ _ | show wpAny _ _ (newObj _ _ _) _ _ _ | show wpAny _ _ (alloc _) _ _ _)); wp_step)
  rw [show List.filter (fun x => x != Value.ref a) [Value.ref a, Value.type "object"] = [Value.type "object"] from by simp]
  refine wpAny_of_eq (a := false) (by kernel_rfl) ?_
  repeat ((fail_if_success (with_reducible first | show wpAny _ _ (Builtin.notOverATurnedClass _) _ _ _ | show wpAny _ _ (Builtin.Slots.read _ _ _) _ _ _ | show wpAny _ _ (nsGet _ _) _ _ _ | show wpAny _ _ (nsSet _ _ _) _ _ _ | show wpAny _ _ (nsDel _ _) _ _ _ | show wpAny _ _ (nsSetByValue _ _ _) _ _ _ | show wpAny _ _ (Builtin.linearize _ _) _ _ _ | show wpAny _ _ (Builtin.mroHook? _) _ _ _ | show wpAny _ _ (Bind.madeBy _) _ _ _ | show wpAny _ _ (Bind.refreshMaker _) _ _ _ | show wpAny _ _ (Builtin.Slots.install _ _ _ _) _ _ _ | show wpAny _ _ (Builtin.Slots.givesWeak _) _ _ _ | show wpAny _ _ (specialOf _ _) _ _ _ | show wpAny _ _ (updateCls _ _) _ _ _ | show wpAny _ _ (setSlotAt _ _ _) _ _ _ | show wpAny _ _ (newObj _ _ _) _ _ _ | show wpAny _ _ (alloc _) _ _ _)); wp_step)
  refine updCls_at (o' := clsS [.ref a, .type "object"] n2 true [] #[some (.ref bt), none, some (.str "K" tn), some (.str "cmp_to_key.<locals>.K" (ts 21))]) g₇ rfl (by kernel_rfl) rfl (by kernel_rfl) fun h₈ g₈ k₈ => ?_
  have n₈ := k₈ _ _ ne₃ n₇
  repeat ((fail_if_success (with_reducible first | show wpAny _ _ (Builtin.notOverATurnedClass _) _ _ _ | show wpAny _ _ (Builtin.Slots.read _ _ _) _ _ _ | show wpAny _ _ (nsGet _ _) _ _ _ | show wpAny _ _ (nsSet _ _ _) _ _ _ | show wpAny _ _ (nsDel _ _) _ _ _ | show wpAny _ _ (nsSetByValue _ _ _) _ _ _ | show wpAny _ _ (Builtin.linearize _ _) _ _ _ | show wpAny _ _ (Builtin.mroHook? _) _ _ _ | show wpAny _ _ (Bind.madeBy _) _ _ _ | show wpAny _ _ (Bind.refreshMaker _) _ _ _ | show wpAny _ _ (Builtin.Slots.install _ _ _ _) _ _ _ | show wpAny _ _ (Builtin.Slots.givesWeak _) _ _ _ | show wpAny _ _ (specialOf _ _) _ _ _ | show wpAny _ _ (updateCls _ _) _ _ _ | show wpAny _ _ (setSlotAt _ _ _) _ _ _ | show wpAny _ _ (newObj _ _ _) _ _ _ | show wpAny _ _ (alloc _) _ _ _)); wp_step)
  refine wpAny_of_eq (a := some "object.__new__") (by kernel_rfl) ?_
  repeat ((fail_if_success (with_reducible first | show wpAny _ _ (Builtin.notOverATurnedClass _) _ _ _ | show wpAny _ _ (Builtin.Slots.read _ _ _) _ _ _ | show wpAny _ _ (nsGet _ _) _ _ _ | show wpAny _ _ (nsSet _ _ _) _ _ _ | show wpAny _ _ (nsDel _ _) _ _ _ | show wpAny _ _ (nsSetByValue _ _ _) _ _ _ | show wpAny _ _ (Builtin.linearize _ _) _ _ _ | show wpAny _ _ (Builtin.mroHook? _) _ _ _ | show wpAny _ _ (Bind.madeBy _) _ _ _ | show wpAny _ _ (Bind.refreshMaker _) _ _ _ | show wpAny _ _ (Builtin.Slots.install _ _ _ _) _ _ _ | show wpAny _ _ (Builtin.Slots.givesWeak _) _ _ _ | show wpAny _ _ (specialOf _ _) _ _ _ | show wpAny _ _ (updateCls _ _) _ _ _ | show wpAny _ _ (setSlotAt _ _ _) _ _ _ | show wpAny _ _ (newObj _ _ _) _ _ _ | show wpAny _ _ (alloc _) _ _ _)); wp_step)
  refine slot_at (o' := clsS [.ref a, .type "object"] n2 true [] #[some (.ref bt), none, some (.str "K" tn), some (.str "cmp_to_key.<locals>.K" (ts 21)), some (.builtin "object.__new__")]) g₈ (by decide) (by kernel_rfl) rfl fun h₉ g₉ k₉ => ?_
  have n₉ := k₉ _ _ ne₃ n₈
  repeat ((fail_if_success (with_reducible first | show wpAny _ _ (Builtin.notOverATurnedClass _) _ _ _ | show wpAny _ _ (Builtin.Slots.read _ _ _) _ _ _ | show wpAny _ _ (nsGet _ _) _ _ _ | show wpAny _ _ (nsSet _ _ _) _ _ _ | show wpAny _ _ (nsDel _ _) _ _ _ | show wpAny _ _ (nsSetByValue _ _ _) _ _ _ | show wpAny _ _ (Builtin.linearize _ _) _ _ _ | show wpAny _ _ (Builtin.mroHook? _) _ _ _ | show wpAny _ _ (Bind.madeBy _) _ _ _ | show wpAny _ _ (Bind.refreshMaker _) _ _ _ | show wpAny _ _ (Builtin.Slots.install _ _ _ _) _ _ _ | show wpAny _ _ (Builtin.Slots.givesWeak _) _ _ _ | show wpAny _ _ (specialOf _ _) _ _ _ | show wpAny _ _ (updateCls _ _) _ _ _ | show wpAny _ _ (setSlotAt _ _ _) _ _ _ | show wpAny _ _ (newObj _ _ _) _ _ _ | show wpAny _ _ (alloc _) _ _ _)); wp_step)
  unfold Bind.refreshMaker
  repeat ((fail_if_success (with_reducible first | show wpAny _ _ (Builtin.notOverATurnedClass _) _ _ _ | show wpAny _ _ (Builtin.Slots.read _ _ _) _ _ _ | show wpAny _ _ (nsGet _ _) _ _ _ | show wpAny _ _ (nsSet _ _ _) _ _ _ | show wpAny _ _ (nsDel _ _) _ _ _ | show wpAny _ _ (nsSetByValue _ _ _) _ _ _ | show wpAny _ _ (Builtin.linearize _ _) _ _ _ | show wpAny _ _ (Builtin.mroHook? _) _ _ _ | show wpAny _ _ (Bind.madeBy _) _ _ _ | show wpAny _ _ (Bind.refreshMaker _) _ _ _ | show wpAny _ _ (Builtin.Slots.install _ _ _ _) _ _ _ | show wpAny _ _ (Builtin.Slots.givesWeak _) _ _ _ | show wpAny _ _ (specialOf _ _) _ _ _ | show wpAny _ _ (updateCls _ _) _ _ _ | show wpAny _ _ (setSlotAt _ _ _) _ _ _ | show wpAny _ _ (newObj _ _ _) _ _ _ | show wpAny _ _ (alloc _) _ _ _)); wp_step)
  refine look_up g₉ rfl rfl n₉ (r := some (.builtin "object.__new__")) (by kernel_rfl) (by kernel_rfl) ?_
  repeat ((fail_if_success (with_reducible first | show wpAny _ _ (Builtin.notOverATurnedClass _) _ _ _ | show wpAny _ _ (Builtin.Slots.read _ _ _) _ _ _ | show wpAny _ _ (nsGet _ _) _ _ _ | show wpAny _ _ (nsSet _ _ _) _ _ _ | show wpAny _ _ (nsDel _ _) _ _ _ | show wpAny _ _ (nsSetByValue _ _ _) _ _ _ | show wpAny _ _ (Builtin.linearize _ _) _ _ _ | show wpAny _ _ (Builtin.mroHook? _) _ _ _ | show wpAny _ _ (Bind.madeBy _) _ _ _ | show wpAny _ _ (Bind.refreshMaker _) _ _ _ | show wpAny _ _ (Builtin.Slots.install _ _ _ _) _ _ _ | show wpAny _ _ (Builtin.Slots.givesWeak _) _ _ _ | show wpAny _ _ (specialOf _ _) _ _ _ | show wpAny _ _ (updateCls _ _) _ _ _ | show wpAny _ _ (setSlotAt _ _ _) _ _ _ | show wpAny _ _ (newObj _ _ _) _ _ _ | show wpAny _ _ (alloc _) _ _ _)); wp_step)
  refine wpAny_ite_false (by kernel_rfl) ?_
  repeat ((fail_if_success (with_reducible first | show wpAny _ _ (Builtin.notOverATurnedClass _) _ _ _ | show wpAny _ _ (Builtin.Slots.read _ _ _) _ _ _ | show wpAny _ _ (nsGet _ _) _ _ _ | show wpAny _ _ (nsSet _ _ _) _ _ _ | show wpAny _ _ (nsDel _ _) _ _ _ | show wpAny _ _ (nsSetByValue _ _ _) _ _ _ | show wpAny _ _ (Builtin.linearize _ _) _ _ _ | show wpAny _ _ (Builtin.mroHook? _) _ _ _ | show wpAny _ _ (Bind.madeBy _) _ _ _ | show wpAny _ _ (Bind.refreshMaker _) _ _ _ | show wpAny _ _ (Builtin.Slots.install _ _ _ _) _ _ _ | show wpAny _ _ (Builtin.Slots.givesWeak _) _ _ _ | show wpAny _ _ (specialOf _ _) _ _ _ | show wpAny _ _ (updateCls _ _) _ _ _ | show wpAny _ _ (setSlotAt _ _ _) _ _ _ | show wpAny _ _ (newObj _ _ _) _ _ _ | show wpAny _ _ (alloc _) _ _ _)); wp_step)
  unfold Builtin.Slots.install
  repeat ((fail_if_success (with_reducible first | show wpAny _ _ (Builtin.notOverATurnedClass _) _ _ _ | show wpAny _ _ (Builtin.Slots.read _ _ _) _ _ _ | show wpAny _ _ (nsGet _ _) _ _ _ | show wpAny _ _ (nsSet _ _ _) _ _ _ | show wpAny _ _ (nsDel _ _) _ _ _ | show wpAny _ _ (nsSetByValue _ _ _) _ _ _ | show wpAny _ _ (Builtin.linearize _ _) _ _ _ | show wpAny _ _ (Builtin.mroHook? _) _ _ _ | show wpAny _ _ (Bind.madeBy _) _ _ _ | show wpAny _ _ (Bind.refreshMaker _) _ _ _ | show wpAny _ _ (Builtin.Slots.install _ _ _ _) _ _ _ | show wpAny _ _ (Builtin.Slots.givesWeak _) _ _ _ | show wpAny _ _ (specialOf _ _) _ _ _ | show wpAny _ _ (updateCls _ _) _ _ _ | show wpAny _ _ (setSlotAt _ _ _) _ _ _ | show wpAny _ _ (newObj _ _ _) _ _ _ | show wpAny _ _ (alloc _) _ _ _)); wp_step)
  refine nsGet_at (r := none) n₉ (by kernel_rfl) ?_
  repeat ((fail_if_success (with_reducible first | show wpAny _ _ (Builtin.notOverATurnedClass _) _ _ _ | show wpAny _ _ (Builtin.Slots.read _ _ _) _ _ _ | show wpAny _ _ (nsGet _ _) _ _ _ | show wpAny _ _ (nsSet _ _ _) _ _ _ | show wpAny _ _ (nsDel _ _) _ _ _ | show wpAny _ _ (nsSetByValue _ _ _) _ _ _ | show wpAny _ _ (Builtin.linearize _ _) _ _ _ | show wpAny _ _ (Builtin.mroHook? _) _ _ _ | show wpAny _ _ (Bind.madeBy _) _ _ _ | show wpAny _ _ (Bind.refreshMaker _) _ _ _ | show wpAny _ _ (Builtin.Slots.install _ _ _ _) _ _ _ | show wpAny _ _ (Builtin.Slots.givesWeak _) _ _ _ | show wpAny _ _ (specialOf _ _) _ _ _ | show wpAny _ _ (updateCls _ _) _ _ _ | show wpAny _ _ (setSlotAt _ _ _) _ _ _ | show wpAny _ _ (newObj _ _ _) _ _ _ | show wpAny _ _ (alloc _) _ _ _)); wp_step)
  refine newFlds_at (o' := mdObj a t) (Nat.le_of_ble_eq_true rfl) (by kernel_rfl) fun md h₁₀ f₁₀ m₁₀ k₁₀ => ?_
  have n₁₀ := k₁₀ _ _ n₉
  have g₁₀ := k₁₀ _ _ g₉
  repeat ((fail_if_success (with_reducible first | show wpAny _ _ (Builtin.notOverATurnedClass _) _ _ _ | show wpAny _ _ (Builtin.Slots.read _ _ _) _ _ _ | show wpAny _ _ (nsGet _ _) _ _ _ | show wpAny _ _ (nsSet _ _ _) _ _ _ | show wpAny _ _ (nsDel _ _) _ _ _ | show wpAny _ _ (nsSetByValue _ _ _) _ _ _ | show wpAny _ _ (Builtin.linearize _ _) _ _ _ | show wpAny _ _ (Builtin.mroHook? _) _ _ _ | show wpAny _ _ (Bind.madeBy _) _ _ _ | show wpAny _ _ (Bind.refreshMaker _) _ _ _ | show wpAny _ _ (Builtin.Slots.install _ _ _ _) _ _ _ | show wpAny _ _ (Builtin.Slots.givesWeak _) _ _ _ | show wpAny _ _ (specialOf _ _) _ _ _ | show wpAny _ _ (updateCls _ _) _ _ _ | show wpAny _ _ (setSlotAt _ _ _) _ _ _ | show wpAny _ _ (newObj _ _ _) _ _ _ | show wpAny _ _ (alloc _) _ _ _)); wp_step)
  refine nsSetV_at (o' := fun hv => { cls := .type "dict", data := .dict (ents3 (sub1 hs 11 hv) (sub1 ts 11 (t + 1)) line sl ini lt gt eq le ge sa md) 2 }) n₁₀ (by kernel_rfl) (Nat.le_of_ble_eq_true rfl) (fun hv => by kernel_rfl) (fun _ => rfl) fun hv h₁₁ n₁₁ k₁₁ => ?_
  have g₁₁ := k₁₁ _ _ ne₃.symm g₁₀
  have mne : md ≠ n2 := fun q => by rw [q, n₉] at f₁₀; cases f₁₀
  have mne' : md ≠ a := fun q => by rw [q, g₉] at f₁₀; cases f₁₀
  have m₁₁ := k₁₁ _ _ mne m₁₀
  repeat ((fail_if_success (with_reducible first | show wpAny _ _ (Builtin.notOverATurnedClass _) _ _ _ | show wpAny _ _ (Builtin.Slots.read _ _ _) _ _ _ | show wpAny _ _ (nsGet _ _) _ _ _ | show wpAny _ _ (nsSet _ _ _) _ _ _ | show wpAny _ _ (nsDel _ _) _ _ _ | show wpAny _ _ (nsSetByValue _ _ _) _ _ _ | show wpAny _ _ (Builtin.linearize _ _) _ _ _ | show wpAny _ _ (Builtin.mroHook? _) _ _ _ | show wpAny _ _ (Bind.madeBy _) _ _ _ | show wpAny _ _ (Bind.refreshMaker _) _ _ _ | show wpAny _ _ (Builtin.Slots.install _ _ _ _) _ _ _ | show wpAny _ _ (Builtin.Slots.givesWeak _) _ _ _ | show wpAny _ _ (specialOf _ _) _ _ _ | show wpAny _ _ (updateCls _ _) _ _ _ | show wpAny _ _ (setSlotAt _ _ _) _ _ _ | show wpAny _ _ (newObj _ _ _) _ _ _ | show wpAny _ _ (alloc _) _ _ _)); wp_step)
  refine updCls_at (o' := clsS [.ref a, .type "object"] n2 false ["obj"] #[some (.ref bt), none, some (.str "K" tn), some (.str "cmp_to_key.<locals>.K" (ts 21)), some (.builtin "object.__new__")]) g₁₁ rfl (by kernel_rfl) rfl (by kernel_rfl) fun h₁₂ g₁₂ k₁₂ => ?_
  have n₁₂ := k₁₂ _ _ ne₃ n₁₁
  have m₁₂ := k₁₂ _ _ mne' m₁₁
  repeat ((fail_if_success (with_reducible first | show wpAny _ _ (Builtin.notOverATurnedClass _) _ _ _ | show wpAny _ _ (Builtin.Slots.read _ _ _) _ _ _ | show wpAny _ _ (nsGet _ _) _ _ _ | show wpAny _ _ (nsSet _ _ _) _ _ _ | show wpAny _ _ (nsDel _ _) _ _ _ | show wpAny _ _ (nsSetByValue _ _ _) _ _ _ | show wpAny _ _ (Builtin.linearize _ _) _ _ _ | show wpAny _ _ (Builtin.mroHook? _) _ _ _ | show wpAny _ _ (Bind.madeBy _) _ _ _ | show wpAny _ _ (Bind.refreshMaker _) _ _ _ | show wpAny _ _ (Builtin.Slots.install _ _ _ _) _ _ _ | show wpAny _ _ (Builtin.Slots.givesWeak _) _ _ _ | show wpAny _ _ (specialOf _ _) _ _ _ | show wpAny _ _ (updateCls _ _) _ _ _ | show wpAny _ _ (setSlotAt _ _ _) _ _ _ | show wpAny _ _ (newObj _ _ _) _ _ _ | show wpAny _ _ (alloc _) _ _ _)); wp_step)
  refine wpAny_of_eq (a := false) (by kernel_rfl) ?_
  repeat ((fail_if_success (with_reducible first | show wpAny _ _ (Builtin.notOverATurnedClass _) _ _ _ | show wpAny _ _ (Builtin.Slots.read _ _ _) _ _ _ | show wpAny _ _ (nsGet _ _) _ _ _ | show wpAny _ _ (nsSet _ _ _) _ _ _ | show wpAny _ _ (nsDel _ _) _ _ _ | show wpAny _ _ (nsSetByValue _ _ _) _ _ _ | show wpAny _ _ (Builtin.linearize _ _) _ _ _ | show wpAny _ _ (Builtin.mroHook? _) _ _ _ | show wpAny _ _ (Bind.madeBy _) _ _ _ | show wpAny _ _ (Bind.refreshMaker _) _ _ _ | show wpAny _ _ (Builtin.Slots.install _ _ _ _) _ _ _ | show wpAny _ _ (Builtin.Slots.givesWeak _) _ _ _ | show wpAny _ _ (specialOf _ _) _ _ _ | show wpAny _ _ (updateCls _ _) _ _ _ | show wpAny _ _ (setSlotAt _ _ _) _ _ _ | show wpAny _ _ (newObj _ _ _) _ _ _ | show wpAny _ _ (alloc _) _ _ _)); wp_step)
  refine slot_at (o' := clsObj a n2 bt tn (ts 21)) g₁₂ (by decide) (by kernel_rfl) rfl fun h₁₃ g₁₃ k₁₃ => ?_
  have n₁₃ := k₁₃ _ _ ne₃ n₁₂
  have m₁₃ := k₁₃ _ _ mne' m₁₂
  repeat ((fail_if_success (with_reducible first | show wpAny _ _ (Builtin.notOverATurnedClass _) _ _ _ | show wpAny _ _ (Builtin.Slots.read _ _ _) _ _ _ | show wpAny _ _ (nsGet _ _) _ _ _ | show wpAny _ _ (nsSet _ _ _) _ _ _ | show wpAny _ _ (nsDel _ _) _ _ _ | show wpAny _ _ (nsSetByValue _ _ _) _ _ _ | show wpAny _ _ (Builtin.linearize _ _) _ _ _ | show wpAny _ _ (Builtin.mroHook? _) _ _ _ | show wpAny _ _ (Bind.madeBy _) _ _ _ | show wpAny _ _ (Bind.refreshMaker _) _ _ _ | show wpAny _ _ (Builtin.Slots.install _ _ _ _) _ _ _ | show wpAny _ _ (Builtin.Slots.givesWeak _) _ _ _ | show wpAny _ _ (specialOf _ _) _ _ _ | show wpAny _ _ (updateCls _ _) _ _ _ | show wpAny _ _ (setSlotAt _ _ _) _ _ _ | show wpAny _ _ (newObj _ _ _) _ _ _ | show wpAny _ _ (alloc _) _ _ _)); wp_step)
  refine nsGet_at (r := none) n₁₃ (by kernel_rfl) ?_
  repeat ((fail_if_success (with_reducible first | show wpAny _ _ (Builtin.notOverATurnedClass _) _ _ _ | show wpAny _ _ (Builtin.Slots.read _ _ _) _ _ _ | show wpAny _ _ (nsGet _ _) _ _ _ | show wpAny _ _ (nsSet _ _ _) _ _ _ | show wpAny _ _ (nsDel _ _) _ _ _ | show wpAny _ _ (nsSetByValue _ _ _) _ _ _ | show wpAny _ _ (Builtin.linearize _ _) _ _ _ | show wpAny _ _ (Builtin.mroHook? _) _ _ _ | show wpAny _ _ (Bind.madeBy _) _ _ _ | show wpAny _ _ (Bind.refreshMaker _) _ _ _ | show wpAny _ _ (Builtin.Slots.install _ _ _ _) _ _ _ | show wpAny _ _ (Builtin.Slots.givesWeak _) _ _ _ | show wpAny _ _ (specialOf _ _) _ _ _ | show wpAny _ _ (updateCls _ _) _ _ _ | show wpAny _ _ (setSlotAt _ _ _) _ _ _ | show wpAny _ _ (newObj _ _ _) _ _ _ | show wpAny _ _ (alloc _) _ _ _)); wp_step)
  refine nsSet_at (o' := fun hv' => nsObj (sub1 (sub1 hs 11 hv) 12 hv') (sub1 (sub1 ts 11 (t + 1)) 12 (t + 1 + 1)) line sl ini lt gt eq le ge sa md) n₁₃ (by kernel_rfl) (fun hv' => by kernel_rfl) (fun _ => rfl) fun hv' h₁₄ n₁₄ k₁₄ => ?_
  have g₁₄ := k₁₄ _ _ ne₃.symm g₁₃
  have m₁₄ := k₁₄ _ _ mne m₁₃
  repeat ((fail_if_success (with_reducible first | show wpAny _ _ (Builtin.notOverATurnedClass _) _ _ _ | show wpAny _ _ (Builtin.Slots.read _ _ _) _ _ _ | show wpAny _ _ (nsGet _ _) _ _ _ | show wpAny _ _ (nsSet _ _ _) _ _ _ | show wpAny _ _ (nsDel _ _) _ _ _ | show wpAny _ _ (nsSetByValue _ _ _) _ _ _ | show wpAny _ _ (Builtin.linearize _ _) _ _ _ | show wpAny _ _ (Builtin.mroHook? _) _ _ _ | show wpAny _ _ (Bind.madeBy _) _ _ _ | show wpAny _ _ (Bind.refreshMaker _) _ _ _ | show wpAny _ _ (Builtin.Slots.install _ _ _ _) _ _ _ | show wpAny _ _ (Builtin.Slots.givesWeak _) _ _ _ | show wpAny _ _ (specialOf _ _) _ _ _ | show wpAny _ _ (updateCls _ _) _ _ _ | show wpAny _ _ (setSlotAt _ _ _) _ _ _ | show wpAny _ _ (newObj _ _ _) _ _ _ | show wpAny _ _ (alloc _) _ _ _ | show wpAny _ _ (tryCatch _ _) _ _ _ | show wpAny _ _ (Sem.tryCatch _ _) _ _ _ | show wpAny _ _ (call _ _ _) _ _ _ | show wpAny _ _ (forIn _ _ _) _ _ _)); wp_step)
  refine nsGet_at (r := some (.ref eq)) n₁₄ (by kernel_rfl) ?_
  repeat ((fail_if_success (with_reducible first | show wpAny _ _ (Builtin.notOverATurnedClass _) _ _ _ | show wpAny _ _ (Builtin.Slots.read _ _ _) _ _ _ | show wpAny _ _ (nsGet _ _) _ _ _ | show wpAny _ _ (nsSet _ _ _) _ _ _ | show wpAny _ _ (nsDel _ _) _ _ _ | show wpAny _ _ (nsSetByValue _ _ _) _ _ _ | show wpAny _ _ (Builtin.linearize _ _) _ _ _ | show wpAny _ _ (Builtin.mroHook? _) _ _ _ | show wpAny _ _ (Bind.madeBy _) _ _ _ | show wpAny _ _ (Bind.refreshMaker _) _ _ _ | show wpAny _ _ (Builtin.Slots.install _ _ _ _) _ _ _ | show wpAny _ _ (Builtin.Slots.givesWeak _) _ _ _ | show wpAny _ _ (specialOf _ _) _ _ _ | show wpAny _ _ (updateCls _ _) _ _ _ | show wpAny _ _ (setSlotAt _ _ _) _ _ _ | show wpAny _ _ (newObj _ _ _) _ _ _ | show wpAny _ _ (alloc _) _ _ _ | show wpAny _ _ (tryCatch _ _) _ _ _ | show wpAny _ _ (Sem.tryCatch _ _) _ _ _ | show wpAny _ _ (call _ _ _) _ _ _ | show wpAny _ _ (forIn _ _ _) _ _ _)); wp_step)
  refine nsGet_at (r := some .none) n₁₄ (by kernel_rfl) ?_
  repeat ((fail_if_success (with_reducible first | show wpAny _ _ (Builtin.notOverATurnedClass _) _ _ _ | show wpAny _ _ (Builtin.Slots.read _ _ _) _ _ _ | show wpAny _ _ (nsGet _ _) _ _ _ | show wpAny _ _ (nsSet _ _ _) _ _ _ | show wpAny _ _ (nsDel _ _) _ _ _ | show wpAny _ _ (nsSetByValue _ _ _) _ _ _ | show wpAny _ _ (Builtin.linearize _ _) _ _ _ | show wpAny _ _ (Builtin.mroHook? _) _ _ _ | show wpAny _ _ (Bind.madeBy _) _ _ _ | show wpAny _ _ (Bind.refreshMaker _) _ _ _ | show wpAny _ _ (Builtin.Slots.install _ _ _ _) _ _ _ | show wpAny _ _ (Builtin.Slots.givesWeak _) _ _ _ | show wpAny _ _ (specialOf _ _) _ _ _ | show wpAny _ _ (updateCls _ _) _ _ _ | show wpAny _ _ (setSlotAt _ _ _) _ _ _ | show wpAny _ _ (newObj _ _ _) _ _ _ | show wpAny _ _ (alloc _) _ _ _ | show wpAny _ _ (tryCatch _ _) _ _ _ | show wpAny _ _ (Sem.tryCatch _ _) _ _ _ | show wpAny _ _ (call _ _ _) _ _ _ | show wpAny _ _ (forIn _ _ _) _ _ _)); wp_step)
  have f₂' : hp.get? n2 = none := by
    cases q : hp.get? n2 with
    | none => rfl
    | some o => rw [k₁ _ _ q] at f₂; cases f₂
  have f₃' : hp.get? a = none := by
    cases q : hp.get? a with
    | none => rfl
    | some o => rw [k₂ _ _ (k₁ _ _ q)] at f₃; cases f₃
  have K : Keeps1 hp h₁₄ := fun b o e => by
    have na : b ≠ a := fun q => by rw [q, f₃'] at e; cases e
    have nn : b ≠ n2 := fun q => by rw [q, f₂'] at e; cases e
    exact k₁₄ _ _ nn (k₁₃ _ _ na (k₁₂ _ _ na (k₁₁ _ _ nn (k₁₀ _ _ (k₉ _ _ na (k₈ _ _ na (k₇ _ _ nn (k₆ _ _ na (k₅ _ _ na (k₄ _ _ na (k₃ _ _ (k₂ _ _ (k₁ _ _ e)))))))))))))
  clear k₁ k₂ k₃ k₄ k₅ k₆ k₇ k₈ k₉ k₁₀ k₁₁ k₁₂ k₁₃ k₁₄ g₂ g₃ g₄ g₅ g₆ g₇ g₈ g₉ g₁₀ g₁₁ g₁₂ g₁₃ n₃ n₄ n₅ n₆ n₇ n₈ n₉ n₁₀ n₁₁ n₁₂ n₁₃ m₁₀ m₁₁ m₁₂ m₁₃ f₂ f₃ f₁₀ hb hn
  refine wpAny_of_eq (a := PUnit.unit) (by kernel_rfl) ?_
  repeat ((fail_if_success (with_reducible first | show wpAny _ _ (Builtin.notOverATurnedClass _) _ _ _ | show wpAny _ _ (Builtin.Slots.read _ _ _) _ _ _ | show wpAny _ _ (nsGet _ _) _ _ _ | show wpAny _ _ (nsSet _ _ _) _ _ _ | show wpAny _ _ (nsDel _ _) _ _ _ | show wpAny _ _ (nsSetByValue _ _ _) _ _ _ | show wpAny _ _ (Builtin.linearize _ _) _ _ _ | show wpAny _ _ (Builtin.mroHook? _) _ _ _ | show wpAny _ _ (Bind.madeBy _) _ _ _ | show wpAny _ _ (Bind.refreshMaker _) _ _ _ | show wpAny _ _ (Builtin.Slots.install _ _ _ _) _ _ _ | show wpAny _ _ (Builtin.Slots.givesWeak _) _ _ _ | show wpAny _ _ (specialOf _ _) _ _ _ | show wpAny _ _ (updateCls _ _) _ _ _ | show wpAny _ _ (setSlotAt _ _ _) _ _ _ | show wpAny _ _ (newObj _ _ _) _ _ _ | show wpAny _ _ (alloc _) _ _ _ | show wpAny _ _ (tryCatch _ _) _ _ _ | show wpAny _ _ (Sem.tryCatch _ _) _ _ _ | show wpAny _ _ (call _ _ _) _ _ _ | show wpAny _ _ (forIn _ _ _) _ _ _)); wp_step)
  refine wpAny_tryCatch (wpAny_holding ?_)
  generalize sub1 (sub1 hs 11 hv) 12 hv' = hs2 at n₁₄
  generalize sub1 (sub1 ts 11 (t + 1)) 12 (t + 1 + 1) = ts2 at n₁₄
  have n₁₅ := n₁₄
  unfold nsObj at n₁₅
  repeat ((fail_if_success (with_reducible first | show wpAny _ _ (Builtin.notOverATurnedClass _) _ _ _ | show wpAny _ _ (Builtin.Slots.read _ _ _) _ _ _ | show wpAny _ _ (nsGet _ _) _ _ _ | show wpAny _ _ (nsSet _ _ _) _ _ _ | show wpAny _ _ (nsDel _ _) _ _ _ | show wpAny _ _ (nsSetByValue _ _ _) _ _ _ | show wpAny _ _ (Builtin.linearize _ _) _ _ _ | show wpAny _ _ (Builtin.mroHook? _) _ _ _ | show wpAny _ _ (Bind.madeBy _) _ _ _ | show wpAny _ _ (Bind.refreshMaker _) _ _ _ | show wpAny _ _ (Builtin.Slots.install _ _ _ _) _ _ _ | show wpAny _ _ (Builtin.Slots.givesWeak _) _ _ _ | show wpAny _ _ (specialOf _ _) _ _ _ | show wpAny _ _ (updateCls _ _) _ _ _ | show wpAny _ _ (setSlotAt _ _ _) _ _ _ | show wpAny _ _ (newObj _ _ _) _ _ _ | show wpAny _ _ (alloc _) _ _ _ | show wpAny _ _ (tryCatch _ _) _ _ _ | show wpAny _ _ (Sem.tryCatch _ _) _ _ _ | show wpAny _ _ (call _ _ _) _ _ _ | show wpAny _ _ (forIn _ _ _) _ _ _)); wp_step)
  refine wpAny_of_eq (a := false) (by kernel_rfl) ?_
  repeat ((fail_if_success (with_reducible first | show wpAny _ _ (Builtin.notOverATurnedClass _) _ _ _ | show wpAny _ _ (Builtin.Slots.read _ _ _) _ _ _ | show wpAny _ _ (nsGet _ _) _ _ _ | show wpAny _ _ (nsSet _ _ _) _ _ _ | show wpAny _ _ (nsDel _ _) _ _ _ | show wpAny _ _ (nsSetByValue _ _ _) _ _ _ | show wpAny _ _ (Builtin.linearize _ _) _ _ _ | show wpAny _ _ (Builtin.mroHook? _) _ _ _ | show wpAny _ _ (Bind.madeBy _) _ _ _ | show wpAny _ _ (Bind.refreshMaker _) _ _ _ | show wpAny _ _ (Builtin.Slots.install _ _ _ _) _ _ _ | show wpAny _ _ (Builtin.Slots.givesWeak _) _ _ _ | show wpAny _ _ (specialOf _ _) _ _ _ | show wpAny _ _ (updateCls _ _) _ _ _ | show wpAny _ _ (setSlotAt _ _ _) _ _ _ | show wpAny _ _ (newObj _ _ _) _ _ _ | show wpAny _ _ (alloc _) _ _ _ | show wpAny _ _ (tryCatch _ _) _ _ _ | show wpAny _ _ (Sem.tryCatch _ _) _ _ _ | show wpAny _ _ (call _ _ _) _ _ _ | show wpAny _ _ (forIn _ _ _) _ _ _)); wp_step)
  have fnT : ∀ x ∈ [ini, lt, gt, eq, le, ge], ∃ o, h₁₄.get? x = some o ∧ o.cls = .type "function" := fun x hx => let ⟨o, e, c⟩ := hfn x hx; ⟨o, K _ _ e, c⟩
  rw [← Array.forIn_toList]
  refine loop_same (fun e he => ?_) ?_
  · simp only [List.mem_cons, List.not_mem_nil, or_false] at he
    rcases he with rfl | rfl | rfl | rfl | rfl | rfl | rfl | rfl | rfl | rfl | rfl | rfl | rfl
    · exact wpAny_ite_false (by kernel_rfl) (wpAny_bind (wpAny_specialOf (T := "str") (r := none) (show typeOf _ = _ from rfl) (by rw [typeLookup_type, builtinLookup_eq_fast]; kernel_rfl) (wpAny_pure ⟨rfl, rfl⟩)))
    · exact wpAny_ite_false (by kernel_rfl) (wpAny_bind (wpAny_specialOf (T := "int") (r := none) (show typeOf _ = _ from rfl) (by rw [typeLookup_type, builtinLookup_eq_fast]; kernel_rfl) (wpAny_pure ⟨rfl, rfl⟩)))
    · exact wpAny_ite_false (by kernel_rfl) (wpAny_bind (wpAny_specialOf (T := "list") (r := none) ⟨_, K _ _ hsl, rfl⟩ (by rw [typeLookup_type, builtinLookup_eq_fast]; kernel_rfl) (wpAny_pure ⟨rfl, rfl⟩)))
    · exact wpAny_ite_false (by kernel_rfl) (wpAny_bind (wpAny_specialOf (T := "function") (r := none) (fnT ini (by simp)) (by rw [typeLookup_type, builtinLookup_eq_fast]; kernel_rfl) (wpAny_pure ⟨rfl, rfl⟩)))
    · exact wpAny_ite_false (by kernel_rfl) (wpAny_bind (wpAny_specialOf (T := "function") (r := none) (fnT lt (by simp)) (by rw [typeLookup_type, builtinLookup_eq_fast]; kernel_rfl) (wpAny_pure ⟨rfl, rfl⟩)))
    · exact wpAny_ite_false (by kernel_rfl) (wpAny_bind (wpAny_specialOf (T := "function") (r := none) (fnT gt (by simp)) (by rw [typeLookup_type, builtinLookup_eq_fast]; kernel_rfl) (wpAny_pure ⟨rfl, rfl⟩)))
    · exact wpAny_ite_false (by kernel_rfl) (wpAny_bind (wpAny_specialOf (T := "function") (r := none) (fnT eq (by simp)) (by rw [typeLookup_type, builtinLookup_eq_fast]; kernel_rfl) (wpAny_pure ⟨rfl, rfl⟩)))
    · exact wpAny_ite_false (by kernel_rfl) (wpAny_bind (wpAny_specialOf (T := "function") (r := none) (fnT le (by simp)) (by rw [typeLookup_type, builtinLookup_eq_fast]; kernel_rfl) (wpAny_pure ⟨rfl, rfl⟩)))
    · exact wpAny_ite_false (by kernel_rfl) (wpAny_bind (wpAny_specialOf (T := "function") (r := none) (fnT ge (by simp)) (by rw [typeLookup_type, builtinLookup_eq_fast]; kernel_rfl) (wpAny_pure ⟨rfl, rfl⟩)))
    · exact wpAny_ite_false (by kernel_rfl) (wpAny_bind (wpAny_specialOf (T := "NoneType") (r := none) (show typeOf _ = _ from rfl) (by rw [typeLookup_type, builtinLookup_eq_fast]; kernel_rfl) (wpAny_pure ⟨rfl, rfl⟩)))
    · exact wpAny_ite_false (by kernel_rfl) (wpAny_bind (wpAny_specialOf (T := "tuple") (r := none) (let ⟨o, e, c⟩ := hsa; ⟨o, K _ _ e, c⟩) (by rw [typeLookup_type, builtinLookup_eq_fast]; kernel_rfl) (wpAny_pure ⟨rfl, rfl⟩)))
    · exact wpAny_ite_false (by kernel_rfl) (wpAny_bind (wpAny_specialOf (T := "member_descriptor") (r := none) ⟨_, m₁₄, rfl⟩ (by rw [typeLookup_type, builtinLookup_eq_fast]; kernel_rfl) (wpAny_pure ⟨rfl, rfl⟩)))
    · exact wpAny_ite_false (by kernel_rfl) (wpAny_bind (wpAny_specialOf (T := "NoneType") (r := none) (show typeOf _ = _ from rfl) (by rw [typeLookup_type, builtinLookup_eq_fast]; kernel_rfl) (wpAny_pure ⟨rfl, rfl⟩)))
  repeat ((fail_if_success (with_reducible first | show wpAny _ _ (Builtin.notOverATurnedClass _) _ _ _ | show wpAny _ _ (Builtin.Slots.read _ _ _) _ _ _ | show wpAny _ _ (nsGet _ _) _ _ _ | show wpAny _ _ (nsSet _ _ _) _ _ _ | show wpAny _ _ (nsDel _ _) _ _ _ | show wpAny _ _ (nsSetByValue _ _ _) _ _ _ | show wpAny _ _ (Builtin.linearize _ _) _ _ _ | show wpAny _ _ (Builtin.mroHook? _) _ _ _ | show wpAny _ _ (Bind.madeBy _) _ _ _ | show wpAny _ _ (Bind.refreshMaker _) _ _ _ | show wpAny _ _ (Builtin.Slots.install _ _ _ _) _ _ _ | show wpAny _ _ (Builtin.Slots.givesWeak _) _ _ _ | show wpAny _ _ (specialOf _ _) _ _ _ | show wpAny _ _ (updateCls _ _) _ _ _ | show wpAny _ _ (setSlotAt _ _ _) _ _ _ | show wpAny _ _ (newObj _ _ _) _ _ _ | show wpAny _ _ (alloc _) _ _ _ | show wpAny _ _ (tryCatch _ _) _ _ _ | show wpAny _ _ (Sem.tryCatch _ _) _ _ _ | show wpAny _ _ (call _ _ _) _ _ _ | show wpAny _ _ (forIn _ _ _) _ _ _)); wp_step)
  refine from_top hh (by (exact Nat.le_trans (by assumption) (by decide))) (by (exact Nat.le_trans (by assumption) (by decide))) (sup_call (s := ⟨h₁₄, g, d, _, os⟩) g₁₄ fun sup h₁₅ tk₁₅ k₁₅ f₁₅ p₁₅ => ?_)
  refine wpAny_bind (wpAny_holding (superGet hh (by (exact Nat.le_trans (by assumption) (by decide))) (by (exact Nat.le_trans (by assumption) (by decide))) (k₁₅ _ _ (K _ _ hst)) (k₁₅ _ _ g₁₄) (k₁₅ _ _ n₁₄) p₁₅ fun fb h₁₆ tk₁₆ k₁₆ f₁₆ p₁₆ => ?_))
  refine wpAny_bind (from_top hh (by (exact Nat.le_trans (by assumption) (by decide))) (by (exact Nat.le_trans (by assumption) (by decide))) (ini_call (s := ⟨h₁₆, g, d, tk₁₆, os⟩) (k₁₆ _ _ (k₁₅ _ _ g₁₄)) (k₁₆ _ _ (k₁₅ _ _ n₁₄)) p₁₆ fun h₁₇ tk₁₇ k₁₇ => ?_))
  refine wpAny_pure (wpAny_pure ?_)
  exact hQ a n2 md h₁₇ tk₁₇ _ _ _ (fun b o e => k₁₇ _ _ (k₁₆ _ _ (k₁₅ _ _ (K _ _ e)))) (k₁₇ _ _ (k₁₆ _ _ (k₁₅ _ _ g₁₄))) (k₁₇ _ _ (k₁₆ _ _ (k₁₅ _ _ n₁₄))) (k₁₇ _ _ (k₁₆ _ _ (k₁₅ _ _ m₁₄)))
end Mine
end

section
set_option maxRecDepth 100000
set_option maxHeartbeats 0
set_option linter.unusedVariables false
namespace Mine
open PySem PySem.W PyProof.Rows PySem.W.X
theorem slot_type_init : Slot "type" "__init__" "type.__init__" :=
  .of (owner := "type") (n := "__init__") (by rw [typeLookup_type, builtinLookup_eq_fast]; kernel_rfl) (by decide +kernel) (by decide +kernel) (by decide +kernel)
    (by first | exact .inl (by decide +kernel) | exact .inr (by decide +kernel)) (by rw [isSubtype_type]; kernel_rfl)
theorem args_type_init (a b c e : Value) : argsOk "type.__init__" ⟨[a, b, c, e], []⟩ := by unfold argsOk; kernel_rfl
theorem entry_type_init : entryFor table "type.__init__" = some Builtin.«type.__init__» := entryFor_of_tree (by kernel_rfl)
theorem entry_type_new : entryFor table "type.__new__" = some Builtin.«type.__new__» := entryFor_of_tree (by kernel_rfl)
theorem typeCall {prog : Program} {w : World} {A : Around} {E : Value → Shared → Prop} {Q : Value → Shared → Prop} {hp : Heap} {g : Array GenState} {d : Drawn} {t : Nat} {os : OsState} {bt ns : Addr} {tn : Tok} {hs : Nat → Int} {ts : Nat → Tok} {line : Int} {sl ini lt gt eq le ge sa : Addr} {ep : Nat} {to : Tok} {n : Nat}
    (hb : hp.get? bt = some { cls := .type "tuple", data := .seq #[.type "object"] }) (hn : hp.get? ns = some { cls := .type "dict", data := .dict (nsEnts hs ts line sl ini lt gt eq le ge sa) ep }) (hsm : (ns == sysModules) = false)
    (hsl : hp.get? sl = some { cls := .type "list", data := .seq #[.str "obj" to] n })
    (hfn : ∀ x ∈ [ini, lt, gt, eq, le, ge], ∃ o, hp.get? x = some o ∧ o.cls = .type "function") (hsa : ∃ o, hp.get? sa = some o ∧ o.cls = .type "tuple")
    (hh : A.handled = none) (hd : A.depth ≤ 870) (hu : A.units ≤ 8700) (hst : hp.get? cStatics = some { cls := .none, data := .dict #[] })
    (hQ : ∀ a n2 md h' tk hs' ts' tm, Keeps1 hp h' → h'.get? a = some (clsObj a n2 bt tn (ts 21)) → h'.get? n2 = some (nsObj hs' ts' line sl ini lt gt eq le ge sa md) → h'.get? md = some (mdObj a tm) → Q (.ref a) ⟨h', g, d, tk, os⟩) :
    wpAny (model prog w) A (call (.type "type") [.str "K" tn, .ref bt, .ref ns]) Q E ⟨hp, g, d, t, os⟩ := by
  refine wpAny_call (codeAny_of_tree ?_)
  show wpAny _ _ (callAny (.type "type") _) _ _ _
  refine wpAny_pure ⟨Code.quiet_builtin _ (by decide +kernel), codeAny_builtin F.entry_type_call ?_⟩
  rw [Around.under_plain (weight_type_call_type "type" _ []) (units_type_call_type "type" _ [])]
  repeat ((fail_if_success (with_reducible first | show wpAny _ _ (ite _ _ _) _ _ _ | show wpAny _ _ (checkTypeCall _ _) _ _ _ | show wpAny _ _ (mroOf _) _ _ _ | show wpAny _ _ (Bind.madeBy _) _ _ _ | show wpAny _ _ (call _ _ _) _ _ _ | show wpAny _ _ (isInstance _ _) _ _ _ | show wpAny _ _ (callSpecial? _ _ _ _) _ _ _)); wp_step)
  refine wpAny_ite_true (by kernel_rfl) ?_
  repeat ((fail_if_success (with_reducible first | show wpAny _ _ (ite _ _ _) _ _ _ | show wpAny _ _ (checkTypeCall _ _) _ _ _ | show wpAny _ _ (mroOf _) _ _ _ | show wpAny _ _ (Bind.madeBy _) _ _ _ | show wpAny _ _ (call _ _ _) _ _ _ | show wpAny _ _ (isInstance _ _) _ _ _ | show wpAny _ _ (callSpecial? _ _ _ _) _ _ _)); wp_step)
  refine wpAny_ite_false (by kernel_rfl) ?_
  repeat ((fail_if_success (with_reducible first | show wpAny _ _ (ite _ _ _) _ _ _ | show wpAny _ _ (checkTypeCall _ _) _ _ _ | show wpAny _ _ (mroOf _) _ _ _ | show wpAny _ _ (Bind.madeBy _) _ _ _ | show wpAny _ _ (call _ _ _) _ _ _ | show wpAny _ _ (isInstance _ _) _ _ _ | show wpAny _ _ (callSpecial? _ _ _ _) _ _ _)); wp_step)
  refine wpAny_ite_false (by kernel_rfl) ?_
  repeat ((fail_if_success (with_reducible first | show wpAny _ _ (ite _ _ _) _ _ _ | show wpAny _ _ (checkTypeCall _ _) _ _ _ | show wpAny _ _ (mroOf _) _ _ _ | show wpAny _ _ (Bind.madeBy _) _ _ _ | show wpAny _ _ (call _ _ _) _ _ _ | show wpAny _ _ (isInstance _ _) _ _ _ | show wpAny _ _ (callSpecial? _ _ _ _) _ _ _)); wp_step)
  refine wpAny_ite_false (by kernel_rfl) ?_
  repeat ((fail_if_success (with_reducible first | show wpAny _ _ (ite _ _ _) _ _ _ | show wpAny _ _ (checkTypeCall _ _) _ _ _ | show wpAny _ _ (mroOf _) _ _ _ | show wpAny _ _ (Bind.madeBy _) _ _ _ | show wpAny _ _ (call _ _ _) _ _ _ | show wpAny _ _ (isInstance _ _) _ _ _ | show wpAny _ _ (callSpecial? _ _ _ _) _ _ _)); wp_step)
  refine wpAny_of_eq (a := ()) (by kernel_rfl) ?_
  repeat ((fail_if_success (with_reducible first | show wpAny _ _ (ite _ _ _) _ _ _ | show wpAny _ _ (checkTypeCall _ _) _ _ _ | show wpAny _ _ (mroOf _) _ _ _ | show wpAny _ _ (Bind.madeBy _) _ _ _ | show wpAny _ _ (call _ _ _) _ _ _ | show wpAny _ _ (isInstance _ _) _ _ _ | show wpAny _ _ (callSpecial? _ _ _ _) _ _ _)); wp_step)
  refine wpAny_of_eq (a := [.type "type", .type "object"]) (by kernel_rfl) ?_
  repeat ((fail_if_success (with_reducible first | show wpAny _ _ (ite _ _ _) _ _ _ | show wpAny _ _ (checkTypeCall _ _) _ _ _ | show wpAny _ _ (mroOf _) _ _ _ | show wpAny _ _ (Bind.madeBy _) _ _ _ | show wpAny _ _ (call _ _ _) _ _ _ | show wpAny _ _ (isInstance _ _) _ _ _ | show wpAny _ _ (callSpecial? _ _ _ _) _ _ _)); wp_step)
  refine wpAny_ite_false (by kernel_rfl) ?_
  repeat ((fail_if_success (with_reducible first | show wpAny _ _ (ite _ _ _) _ _ _ | show wpAny _ _ (checkTypeCall _ _) _ _ _ | show wpAny _ _ (mroOf _) _ _ _ | show wpAny _ _ (Bind.madeBy _) _ _ _ | show wpAny _ _ (call _ _ _) _ _ _ | show wpAny _ _ (isInstance _ _) _ _ _ | show wpAny _ _ (callSpecial? _ _ _ _) _ _ _)); wp_step)
  refine wpAny_of_eq (a := some "type.__new__") (by kernel_rfl) ?_
  repeat ((fail_if_success (with_reducible first | show wpAny _ _ (ite _ _ _) _ _ _ | show wpAny _ _ (checkTypeCall _ _) _ _ _ | show wpAny _ _ (mroOf _) _ _ _ | show wpAny _ _ (Bind.madeBy _) _ _ _ | show wpAny _ _ (call _ _ _) _ _ _ | show wpAny _ _ (isInstance _ _) _ _ _ | show wpAny _ _ (callSpecial? _ _ _ _) _ _ _)); wp_step)
  refine wpAny_call (codeAny_call_builtin (by decide +kernel) entry_type_new (wpAny_of_eq (a := ()) (by kernel_rfl) ?_))
  refine typeNew hb hn hsm hsl hfn hsa hh (by show A.depth ≤ 880; (exact Nat.le_trans (by assumption) (by decide))) (by show A.units + 1 + 1 ≤ 8800; (first | lia | omega)) hst fun a n2 md h' tk hs' ts' tm k1 k2 k3 k4 => ?_
  repeat ((fail_if_success (with_reducible first | show wpAny _ _ (ite _ _ _) _ _ _ | show wpAny _ _ (checkTypeCall _ _) _ _ _ | show wpAny _ _ (mroOf _) _ _ _ | show wpAny _ _ (Bind.madeBy _) _ _ _ | show wpAny _ _ (call _ _ _) _ _ _ | show wpAny _ _ (isInstance _ _) _ _ _ | show wpAny _ _ (callSpecial? _ _ _ _) _ _ _)); wp_step)
  refine wpAny_isInstance (v := .ref a) (T := "type") (b := true) (s := ⟨h', g, d, tk, os⟩) ⟨_, k2, rfl⟩ (by kernel_rfl) ?_
  repeat ((fail_if_success (with_reducible first | show wpAny _ _ (ite _ _ _) _ _ _ | show wpAny _ _ (checkTypeCall _ _) _ _ _ | show wpAny _ _ (mroOf _) _ _ _ | show wpAny _ _ (Bind.madeBy _) _ _ _ | show wpAny _ _ (call _ _ _) _ _ _ | show wpAny _ _ (isInstance _ _) _ _ _ | show wpAny _ _ (callSpecial? _ _ _ _) _ _ _)); wp_step)
  refine wpAny_ite_false (by kernel_rfl) ?_
  repeat ((fail_if_success (with_reducible first | show wpAny _ _ (ite _ _ _) _ _ _ | show wpAny _ _ (checkTypeCall _ _) _ _ _ | show wpAny _ _ (mroOf _) _ _ _ | show wpAny _ _ (Bind.madeBy _) _ _ _ | show wpAny _ _ (call _ _ _) _ _ _ | show wpAny _ _ (isInstance _ _) _ _ _ | show wpAny _ _ (callSpecial? _ _ _ _) _ _ _)); wp_step)
  refine wpAny_callSpecial?_slot (T := "type") (s := ⟨h', g, d, tk, os⟩) ⟨_, k2, rfl⟩ slot_type_init (wpAny_call_entry slot_type_init (s := ⟨h', g, d, tk, os⟩) ⟨_, k2, rfl⟩ entry_type_init ?_ (args_type_init _ _ _ _))
  refine wpAny_of_eq (a := .done (.ret .none)) (by kernel_rfl) ?_
  refine ⟨_, rfl, ?_⟩
  repeat ((fail_if_success (with_reducible first | show wpAny _ _ (ite _ _ _) _ _ _ | show wpAny _ _ (checkTypeCall _ _) _ _ _ | show wpAny _ _ (mroOf _) _ _ _ | show wpAny _ _ (Bind.madeBy _) _ _ _ | show wpAny _ _ (call _ _ _) _ _ _ | show wpAny _ _ (isInstance _ _) _ _ _ | show wpAny _ _ (callSpecial? _ _ _ _) _ _ _)); wp_step)
  refine wpAny_ite_false (by kernel_rfl) ?_
  exact wpAny_pure (hQ a n2 md h' tk hs' ts' tm k1 k2 k3 k4)
end Mine
end

section
set_option genInjectivity false
set_option genSizeOf false
set_option genSizeOfSpec false
set_option maxRecDepth 100000
set_option maxHeartbeats 0
set_option linter.unusedVariables false
set_option tactic.hygienic false
namespace Mine
open PySem PySem.W PyProof.Rows PySem.W.X
/-! code records, found or made -/
theorem among_other {p q : Pos} (hne : ¬ (q.line = p.line ∧ q.col = p.col)) (c : Value) : ∀ (l : List Value), TriplesOk l → codeAmong p (l ++ [rawInt q.line, rawInt q.col, c]) = codeAmong p l
  | [], _ => by
    show (if ((q.line : Int) == (p.line : Int) && (q.col : Int) == (p.col : Int)) = true then _ else _) = _
    rw [if_neg (by simp only [Bool.and_eq_true, beq_iff_eq]; (first | lia | omega))]
  | .int a t :: .int b u :: x :: rest, h => by
    show (if _ then _ else codeAmong p (rest ++ _)) = (if _ then _ else codeAmong p rest)
    rw [among_other hne c rest h]
/-- a code record by its name -/
noncomputable def GM (h : Heap) (q : Str) (c : Addr) : Prop := ∃ o vs t, h.get? c = some o ∧ o.cls = .type "code" ∧ o.data = .fields vs ∧ vs[1]? = some (.str q t)
theorem GM.but {h h' : Heap} {q : Str} {c P : Addr} {ps : Array Value} (x : GM h q c) (hp : h.get? P = some { cls := .none, data := .fields ps }) (k : Heap.ExtBut P h h') : GM h' q c := by
  obtain ⟨o, vs, t, e, hc, r⟩ := x
  exact ⟨o, vs, t, k c o (fun z => by rw [z, hp] at e; cases e; cases hc) e, hc, r⟩
theorem GM.keep {h h' : Heap} {q : Str} {c : Addr} (x : GM h q c) (k : Keeps1 h h') : GM h' q c := by
  obtain ⟨o, vs, t, e, r⟩ := x
  exact ⟨o, vs, t, k _ _ e, r⟩
theorem GM.rec {h : Heap} {q : Str} {c : Addr} (x : GM h q c) : h.CodeRec (.ref c) q := by
  obtain ⟨o, vs, t, e, _, hd, hv⟩ := x
  exact ⟨c, o, vs, t, rfl, e, hd, hv⟩
theorem GM.of {h : Heap} {q : Str} {c P : Addr} {ps : Array Value} (x : h.CodeRec (.ref c) q) (y : h.TableAt c P ps) : GM h q c := by
  obtain ⟨c', o, vs, t, e, g, hd, hv⟩ := x
  cases e
  obtain ⟨⟨o', vs', g', hc', _⟩, _⟩ := y
  rw [g] at g'; cases g'
  exact ⟨o, vs, t, g, hc', hd, hv⟩
structure TabIs (h : Heap) (c P : Addr) (ps : Array Value) : Prop where
  code : h.IsCode c P ps
  tab : h.TableAt c P ps
theorem TabIs.keep {h h' : Heap} {c P : Addr} {ps : Array Value} (x : TabIs h c P ps) (k : Keeps1 h h') : TabIs h' c P ps := ⟨x.code.keeps k, x.tab.keeps k⟩
theorem TabIs.two {h h' : Heap} {c P : Addr} {ps : Array Value} (x : TabIs h c P ps) (hc : ∀ o, h.get? c = some o → h'.get? c = some o) (hP : ∀ o, h.get? P = some o → h'.get? P = some o) : TabIs h' c P ps := by
  obtain ⟨⟨o, vs, file, tf, flags, tg, inF, text, tt, op, e1, e2, e3, e4, e5, e6, e7, e8, r⟩, ⟨o', vs', f1, r'⟩, f2⟩ := x
  exact ⟨⟨o, vs, file, tf, flags, tg, inF, text, tt, op, hc _ e1, e2, e3, e4, e5, e6, e7, hP _ e8, r⟩, ⟨o', vs', hc _ f1, r'⟩, hP _ f2⟩
/-- a table whose entries, where they stand, are right -/
noncomputable def GoodM (h : Heap) (c P : Addr) (qs : List (Pos × Str)) : Prop := ∃ ps, TabIs h c P ps ∧ ∀ p ∈ qs, codeAmong p.1 ps.toList = none ∨ ∃ c', codeAmong p.1 ps.toList = some (.ref c') ∧ GM h p.2 c'
theorem GoodM.keep {h h' : Heap} {c P : Addr} {qs : List (Pos × Str)} (x : GoodM h c P qs) (k : Keeps1 h h') : GoodM h' c P qs := by
  obtain ⟨ps, t, q⟩ := x
  exact ⟨ps, t.keep k, fun p hp => (q p hp).imp id fun ⟨c', e, g⟩ => ⟨c', e, g.keep k⟩⟩
/-- over a turn of another table -/
theorem TabIs.but {h h' : Heap} {c P P' : Addr} {ps ps' : Array Value} (x : TabIs h c P ps) (hp : h.get? P' = some { cls := .none, data := .fields ps' }) (hne : P ≠ P') (k : Heap.ExtBut P' h h') : TabIs h' c P ps := by
  have hc : c ≠ P' := fun z => by
    obtain ⟨⟨o, vs, e, hcl, _⟩, _⟩ := x.tab
    rw [z, hp] at e; cases e; cases hcl
  exact ⟨x.code.extBut k hc hne, x.tab.extBut k hc hne⟩
theorem GoodM.but {h h' : Heap} {c P P' : Addr} {qs : List (Pos × Str)} {ps' : Array Value} (x : GoodM h c P qs) (hp : h.get? P' = some { cls := .none, data := .fields ps' }) (hne : P ≠ P') (k : Heap.ExtBut P' h h') : GoodM h' c P qs := by
  obtain ⟨ps, t, q⟩ := x
  exact ⟨ps, t.but hp hne k, fun p hz => (q p hz).imp id fun ⟨c', e, g⟩ => ⟨c', e, g.but hp k⟩⟩
noncomputable def Apart (qs : List (Pos × Str)) : Prop := ∀ p ∈ qs, ∀ q ∈ qs, p = q ∨ ¬ (q.1.line = p.1.line ∧ q.1.col = p.1.col)
/-- a table that has but grown -/
noncomputable def Grew (P : Addr) (h h' : Heap) : Prop := ∀ ps, h.get? P = some (tableObj ps) → ∃ more, h'.get? P = some (tableObj (ps ++ more))
theorem Grew.refl (P : Addr) (h : Heap) : Grew P h h := fun ps e => ⟨#[], by rw [e]; simp⟩
theorem Grew.trans {P : Addr} {h₁ h₂ h₃ : Heap} (x : Grew P h₁ h₂) (y : Grew P h₂ h₃) : Grew P h₁ h₃ := fun ps e => by
  obtain ⟨m, e⟩ := x ps e
  obtain ⟨m', e⟩ := y _ e
  exact ⟨m ++ m', by rw [e, Array.append_assoc]⟩
section
variable {M : Model} {A : Around} {E : Value → Shared → Prop} {s : Shared}
theorem functionCode_good {env : Env} {c P : Addr} {qs : List (Pos × Str)} {pos : Pos} {fl : Nat} {name q : Str} {p : Arguments} {scope : Scope} {body : FuncBody} {Q : Value → Shared → Prop} (hc : env.code = .ref c) (G : GoodM s.heap c P qs) (hm : (pos, q) ∈ qs) (ap : Apart qs)
    (hQ : ∀ c' h' tk, Heap.ExtBut P s.heap h' → GM h' q c' → GoodM h' c P qs → Grew P s.heap h' → Q (.ref c') { s with heap := h', toks := tk }) : wpAny M A (functionCode env pos fl name q p scope body) Q E s := by
  obtain ⟨ps, T, g⟩ := G
  rcases g _ hm with hn | ⟨c', hf, gm⟩
  · refine wpAny_functionCodeX hc T.code T.tab hn fun c' h' tk hx hge hlt hcode hrec htab hnew => ?_
    obtain ⟨P', hP', hc2, ht2⟩ := hnew
    have hPo := T.tab.2
    have gm : GM h' q c' := GM.of hrec ht2
    have grew : Grew P s.heap h' := fun ps₁ e₁ => by
      have z := Option.some.inj (hPo.symm.trans e₁)
      cases z
      exact ⟨_, htab.2⟩
    refine hQ c' h' tk hx gm ⟨_, ⟨hcode, htab⟩, fun p' hp' => ?_⟩ grew
    have hl : (ps ++ #[rawInt pos.line, rawInt pos.col, Value.ref c']).toList = ps.toList ++ [rawInt pos.line, rawInt pos.col, .ref c'] := by simp
    rw [hl]
    have htr : TriplesOk ps.toList := by
      obtain ⟨o, vs, file, tf, flags, tg, inF, text, tt, op, ho, hd, h11, h2, h7, h9, h10, hop, hpd, htr, hne⟩ := T.code
      exact htr
    rcases ap p' hp' (pos, q) hm with e | hne
    · subst e
      exact .inr ⟨c', codeAmong_snoc _ htr hn, gm⟩
    · rw [among_other hne _ _ htr]
      exact (g p' hp').imp id fun ⟨c₂, e₂, g₂⟩ => ⟨c₂, e₂, g₂.but hPo hx⟩
  · exact wpAny_functionCode_hit hc T.code hf (hQ c' s.heap s.toks (fun _ _ _ e => e) gm ⟨ps, T, g⟩ (.refl _ _))
/-- the class's record and the table of its methods -/
noncomputable def GoodC (h : Heap) (c P : Addr) (pos : Pos) (q : Str) (qs : List (Pos × Str)) : Prop := ∃ ps, TabIs h c P ps ∧ (codeAmong pos ps.toList = none ∨ ∃ c' P', codeAmong pos ps.toList = some (.ref c') ∧ GM h q c' ∧ P' ≠ P ∧ GoodM h c' P' qs)
theorem GoodC.keep {h h' : Heap} {c P : Addr} {pos : Pos} {q : Str} {qs : List (Pos × Str)} (x : GoodC h c P pos q qs) (k : Keeps1 h h') : GoodC h' c P pos q qs := by
  obtain ⟨ps, t, g⟩ := x
  exact ⟨ps, t.keep k, g.imp id fun ⟨c', P', e, gm, hne, gg⟩ => ⟨c', P', e, gm.keep k, hne, gg.keep k⟩⟩
theorem classCode_good {env : Env} {c P : Addr} {qs : List (Pos × Str)} {pos : Pos} {fl : Nat} {name q : Str} {scope : Scope} {Q : Value → Shared → Prop} (hc : env.code = .ref c) (G : GoodC s.heap c P pos q qs)
    (hQ : ∀ c' P' ps h' tk, Heap.ExtBut P s.heap h' → TabIs h' c P ps → codeAmong pos ps.toList = some (.ref c') → GM h' q c' → P' ≠ P → GoodM h' c' P' qs → (s.heap.get? P' = none ∨ ∃ ps₀ c₀, TabIs s.heap c P ps₀ ∧ codeAmong pos ps₀.toList = some (.ref c₀)) → Grew P s.heap h' → Q (.ref c') { s with heap := h', toks := tk }) : wpAny M A (classCode env pos fl name q scope) Q E s := by
  obtain ⟨ps, T, g⟩ := G
  unfold classCode
  rcases g with hn | ⟨c', P', hf, gm, hne, gg⟩
  · obtain ⟨o, vs, file, tf, flags, tg, inF, text, tt, op, ho, hd, h11, h2, h7, h9, h10, hop, hpd, htr, hcP⟩ := id T.code
    have hPo := T.tab.2
    have e1 : op = { cls := .none, data := .fields ps } := Option.some.inj (hop.symm.trans hPo)
    subst e1
    unfold codeAt
    rw [hc, if_neg (show ¬ ((Value.ref c == Value.none) = true) from Bool.false_ne_true)]
    refine wpAny_bind (wpAny_fieldsOf ho hd ?_)
    rw [h11]
    refine wpAny_bind (wpAny_fieldsOf hPo rfl ?_)
    rw [hn, h2, h7, h9, h10]
    refine wpAny_bind (wpAny_newCodeX fun c' P' h' tk hk hc' hP' hcode' htab' hrec' => ?_)
    have hop' := hk _ _ hPo
    refine wpAny_bind (wpAny_updateFieldsOfTheText hop' rfl ?_)
    have e2 : (Obj.mapFields (fun vs => if (codeAmong pos vs.toList).isSome = true then vs else vs ++ #[rawInt pos.line, rawInt pos.col, .ref c']) { cls := .none, data := .fields ps }) = { cls := .none, data := .fields (ps ++ #[rawInt pos.line, rawInt pos.col, .ref c']) } := by
      simp only [Obj.mapFields, hn]
      rfl
    have hget := Heap.get?_update_self (h := h') (fun o => Obj.mapFields (fun vs => if (codeAmong pos vs.toList).isSome = true then vs else vs ++ #[rawInt pos.line, rawInt pos.col, .ref c']) o) hop' (by rw [e2]; rfl)
    rw [e2] at hget
    refine wpAny_bind (wpAny_fieldsOf hget rfl ?_)
    have hl : (ps ++ #[rawInt pos.line, rawInt pos.col, Value.ref c']).toList = ps.toList ++ [rawInt pos.line, rawInt pos.col, .ref c'] := by simp
    have hfnd : codeAmong pos (ps ++ #[rawInt pos.line, rawInt pos.col, Value.ref c']).toList = some (.ref c') := by rw [hl]; exact codeAmong_snoc _ htr hn
    rw [hfnd]
    have hP'P : P' ≠ P := Nat.ne_of_gt (Nat.lt_of_lt_of_le (Heap.lt_size hPo) hP')
    have xb : Heap.ExtBut P h' _ := (Heap.SameBut.update h' P (Obj.mapFields fun vs => if (codeAmong pos vs.toList).isSome = true then vs else vs ++ #[rawInt pos.line, rawInt pos.col, .ref c'])).extBut
    have ht' : TabIs h' c' P' #[] := ⟨hcode', htab'⟩
    have grew : Grew P s.heap (h'.update P (Obj.mapFields fun vs => if (codeAmong pos vs.toList).isSome = true then vs else vs ++ #[rawInt pos.line, rawInt pos.col, .ref c'])) := fun ps₁ e₁ => by
      have z := Option.some.inj (hPo.symm.trans e₁)
      cases z
      exact ⟨_, hget⟩
    refine wpAny_pure (hQ c' P' _ _ _ (fun b o' hb e => xb b o' hb (hk b o' e)) ⟨?_, ?_⟩ hfnd ((GM.of hrec' htab').but hop' xb) hP'P ⟨#[], ht'.but hop' hP'P xb, fun p _ => .inl rfl⟩ (.inl (by cases e : s.heap.get? P' with | none => rfl | some o => exact absurd (Heap.lt_size e) (Nat.not_lt.mpr hP'))) grew)
    · exact ⟨o, vs, file, tf, flags, tg, inF, text, tt, _, xb _ _ hcP (hk _ _ ho), hd, h11, h2, h7, h9, h10, hget, rfl, by rw [hl]; exact TriplesOk_snoc _ _ _ _ htr, hcP⟩
    · obtain ⟨⟨oc, vc, hoc, hcc, hdc, h11c⟩, _⟩ := T.tab
      exact ⟨⟨oc, vc, xb _ _ hcP (hk _ _ hoc), hcc, hdc, h11c⟩, hget⟩
  · exact wpAny_codeAt_hit hc T.code hf (hQ c' P' ps s.heap s.toks (fun _ _ _ e => e) T hf gm hne gg (.inr ⟨ps, c', T, hf⟩) (.refl _ _))
end
end Mine
end

section
set_option genInjectivity false
set_option genSizeOf false
set_option genSizeOfSpec false
set_option maxRecDepth 100000
set_option maxHeartbeats 0
set_option linter.unusedVariables false
set_option tactic.hygienic false
namespace Mine
open PySem PySem.W PyProof.Rows PySem.W.X
/-- what the text's names stand for -/
structure GlobK (h : Heap) (nm : Value) (bm : Addr) : Prop where
  gl : ∃ es ep c dd sl, h.get? mainGlobals = some { cls := c, dict := dd, data := .dict es ep, slots := sl } ∧ nsLook "__name__" { cls := c, dict := dd, data := .dict es ep, slots := sl } = pure (some nm) ∧ nsLook "__builtins__" { cls := c, dict := dd, data := .dict es ep, slots := sl } = pure (some (.ref bm))
  mo : ∃ sl, h.get? bm = some { cls := .type "module", dict := some builtinsNs, slots := sl }
  nb : (bm == builtinsNs) = false
theorem GlobK.but {h h' : Heap} {nm : Value} {bm P : Addr} {ps : Array Value} (x : GlobK h nm bm) (hp : h.get? P = some { cls := .none, data := .fields ps }) (k : Heap.ExtBut P h h') : GlobK h' nm bm := by
  obtain ⟨⟨es, ep, c, dd, sl, e1, e2, e3⟩, ⟨sl', e4⟩, nb⟩ := x
  exact ⟨⟨es, ep, c, dd, sl, k _ _ (fun z => by rw [z, hp] at e1; cases e1) e1, e2, e3⟩, ⟨sl', k _ _ (fun z => by rw [z, hp] at e4; cases e4) e4⟩, nb⟩
theorem GlobK.keep {h h' : Heap} {nm : Value} {bm : Addr} (x : GlobK h nm bm) (k : Keeps1 h h') : GlobK h' nm bm := by
  obtain ⟨⟨es, ep, c, dd, sl, e1, e2, e3⟩, ⟨sl', e4⟩, nb⟩ := x
  exact ⟨⟨es, ep, c, dd, sl, k _ _ e1, e2, e3⟩, ⟨sl', k _ _ e4⟩, nb⟩
section
variable {M : Model} {A : Around} {E : Value → Shared → Prop} {h : Heap} {g : Array GenState} {d : Drawn} {t : Nat} {os : OsState}
theorem bf_at {nm : Value} {bm : Addr} {Q : Addr → Shared → Prop} (x : GlobK h nm bm) (hq : Q builtinsNs ⟨h, g, d, t, os⟩) : wpAny M A (builtinsFor mainGlobals builtinsNs) Q E ⟨h, g, d, t, os⟩ := by
  obtain ⟨⟨es, ep, c, dd, sl, e1, e2, e3⟩, ⟨sl', e4⟩, nb⟩ := x
  unfold builtinsFor
  refine wpAny_bind (nsGet_at e1 e3 ?_)
  dsimp only
  rw [nb, if_neg (by decide)]
  refine wpAny_bind (wpAny_load' e4 ?_)
  dsimp only
  rw [if_pos (by rfl)]
  exact wpAny_pure hq
theorem name_at {nm : Value} {bm : Addr} {Q : Option Value → Shared → Prop} (x : GlobK h nm bm) (hq : Q (some nm) ⟨h, g, d, t, os⟩) : wpAny M A (nsGet mainGlobals "__name__") Q E ⟨h, g, d, t, os⟩ := by
  obtain ⟨⟨es, ep, c, dd, sl, e1, e2, e3⟩, _, _⟩ := x
  exact nsGet_at e1 e2 hq
theorem storeK {env : Env} {x : Str} {v : Value} {es : Array DictEntry} {ep : Nat} {o' : Int → Obj} {Q : Unit → Shared → Prop} (hs : storeName env x v = localSet env x v) (ho : h.get? env.locals = some { cls := .type "dict", data := .dict es ep }) (hm : aRefKeyMayBeTheName x es = false)
    (he : ∀ hv, Obj.putName x hv (.str x t) v { cls := .type "dict", data := .dict es ep } = o' hv) (hf : ∀ hv, (o' hv).isFreed = false) (hq : ∀ hv h', h'.get? env.locals = some (o' hv) → KeepsBut env.locals h h' → Q () ⟨h', g, d, t + 1, os⟩) : wpAny M A (storeName env x v) Q E ⟨h, g, d, t, os⟩ := by
  rw [hs]
  unfold localSet
  refine wpAny_bind (wpAny_load' ho ?_)
  dsimp only
  rw [if_pos (by rfl)]
  exact nsSet_at ho hm he hf hq
theorem bindK {env : Env} {x : Str} {v : Value} {es : Array DictEntry} {ep : Nat} {o' : Int → Obj} {Q : Unit → Shared → Prop} (hs : storeName env x v = localSet env x v) (ho : h.get? env.locals = some { cls := .type "dict", data := .dict es ep }) (hm : aRefKeyMayBeTheName x es = false)
    (he : ∀ hv, Obj.putName x hv (.str x t) v { cls := .type "dict", data := .dict es ep } = o' hv) (hf : ∀ hv, (o' hv).isFreed = false) (hq : ∀ hv h', h'.get? env.locals = some (o' hv) → KeepsBut env.locals h h' → Q () ⟨h', g, d, t + 1, os⟩) : wpAny M A (bindName env x v) Q E ⟨h, g, d, t, os⟩ := by
  unfold bindName
  refine wpAny_bind (wpAny_holding (wpAny_point (wpAny_bind (storeK hs ho hm he hf fun hv h' h1 h2 => wpAny_point (hq hv h' h1 h2)))))
noncomputable def methOf (name q : Str) (params : Arguments) (body : List Stmt) (scope : Scope) (nm : Value) (cd : Addr) (clos : List (Str × Addr)) (ct : Value) : FuncData :=
  { name, qualname := q, params, body := .stmts body, scope, globals := mainGlobals, closure := clos, defaults := .none, kwdefaults := .none, pyModule := nm, code := .ref cd, closureTuple := ct, builtins := builtinsNs }
theorem makeMeth {env : Env} {name q : Str} {params : Arguments} {body : List Stmt} {scope : Scope} {pos : Pos} {fl : Nat} {kc P bm : Addr} {nm : Value} {qs : List (Pos × Str)} {clos : List (Str × Addr)} {Q : Value → Shared → Prop}
    (hkw : params.kwonlyargs = []) (hcl : closureFor scope env = pure clos) (hdoc : docOf body = none) (hg : env.globals = mainGlobals) (hb : env.builtins = builtinsNs) (hcode : env.code = .ref kc) (G : GoodM h kc P qs) (hm : (pos, q) ∈ qs) (ap : Apart qs) (gk : GlobK h nm bm)
    (hq : ∀ f c' ct h' tk, h.get? f = none → Heap.ExtBut P h h' → h'.get? f = some (fnObj (methOf name q params body scope nm c' clos ct)) → GM h' q c' → GoodM h' kc P qs → GlobK h' nm bm → (clos = [] → ct = .none) → Grew P h h' → Q (.ref f) ⟨h', g, d, tk, os⟩) :
    wpAny M A (makeFunction name q params (.stmts body) scope env [] [] [] pos fl) Q E ⟨h, g, d, t, os⟩ := by
  have tail : ∀ (ct : Value) (h₁ : Heap) (t₁ : Nat), Keeps1 h h₁ → (clos = [] → ct = .none) → wpAny M A (do
      let cd ← functionCode env pos fl name q params scope (.stmts body)
      let bi ← builtinsFor mainGlobals builtinsNs
      let nmv ← nsGet mainGlobals "__name__"
      let dc ← (match docOf body with | some s => mkText s | none => pure .none : Sem Value)
      newObj (.type "function") (.func { name, qualname := q, params, body := .stmts body, scope, globals := mainGlobals, closure := clos, closureTuple := ct, code := cd, builtins := bi, defaults := .none, kwdefaults := .none, annotations := none, pyModule := nmv.getD .none, doc := dc })) Q E ⟨h₁, g, d, t₁, os⟩ := fun ct h₁ t₁ k₁ hct => by
    refine wpAny_bind (functionCode_good (s := ⟨h₁, g, d, t₁, os⟩) hcode (G.keep k₁) hm ap fun c' h₂ tk hx gm G₂ gr => ?_)
    obtain ⟨ps, T, _⟩ := G.keep k₁
    have gk₂ := (gk.keep k₁).but T.tab.2 hx
    refine wpAny_bind (bf_at gk₂ (wpAny_bind (name_at gk₂ ?_)))
    rw [hdoc]
    refine wpAny_bind (wpAny_pure (wpAny_newObj_type ?_ (by size_fits)))
    have nf : h.get? h₂.objs.size = none := by
      cases e : h.get? h₂.objs.size with
      | none => rfl
      | some o =>
        by_cases hz : h₂.objs.size = P
        · obtain ⟨ps2, T2, _⟩ := G₂
          exact absurd (hz ▸ Heap.lt_size T2.tab.2) (Nat.lt_irrefl _)
        · exact absurd (Heap.lt_size (hx _ _ hz (k₁ _ _ e))) (Nat.lt_irrefl _)
    refine hq h₂.objs.size c' ct _ tk nf (fun b o hb e => Heap.get?_push_of_some _ (hx b o hb (k₁ b o e))) (Heap.get?_push_size _ rfl) (gm.keep fun _ _ e => Heap.get?_push_of_some _ e) (G₂.keep fun _ _ e => Heap.get?_push_of_some _ e) (gk₂.keep fun _ _ e => Heap.get?_push_of_some _ e) hct fun ps₁ e₁ => (by
      obtain ⟨m, e₂⟩ := gr ps₁ (k₁ _ _ e₁)
      exact ⟨m, Heap.get?_push_of_some _ e₂⟩)
  rw [makeFunction_eq]
  simp only [hkw, List.zip_nil_left, List.zip_nil_right, List.filterMap_nil, List.isEmpty_nil, if_true, pure_bind]
  unfold makeTail
  rw [hcl, hg, hb]
  refine wpAny_bind (wpAny_pure ?_)
  cases clos with
  | nil =>
    simp only [List.isEmpty_nil, if_true]
    refine wpAny_bind (wpAny_pure ?_)
    exact tail .none h t (fun _ _ e => e) fun _ => rfl
  | cons c r =>
    simp only [List.isEmpty_cons, Bool.false_eq_true, if_false]
    refine wpAny_bind (wpAny_newTextTuple ?_)
    exact tail _ _ t (fun _ _ e => Heap.get?_push_of_some _ e) fun z => by cases z
end
end Mine
end

section
set_option genInjectivity false
set_option genSizeOf false
set_option genSizeOfSpec false
set_option maxRecDepth 100000
set_option maxHeartbeats 0
set_option linter.unusedVariables false
set_option tactic.hygienic false
namespace Mine
open PySem PySem.W PyProof.Rows PySem.W.X
/-! the class's own text -/
theorem GM.butD {h h' : Heap} {q : Str} {c a : Addr} {o : Obj} (x : GM h q c) (ha : h.get? a = some o) (hc : o.cls ≠ .type "code") (k : KeepsBut a h h') : GM h' q c := by
  obtain ⟨o', vs, t, e, hc', r⟩ := x
  exact ⟨o', vs, t, k c o' (fun z => by rw [z, ha] at e; cases e; exact hc hc') e, hc', r⟩
theorem GoodM.butD {h h' : Heap} {c P a : Addr} {qs : List (Pos × Str)} {o : Obj} (x : GoodM h c P qs) (ha : h.get? a = some o) (hc : o.cls ≠ .type "code") (hn : o.cls ≠ .none) (k : KeepsBut a h h') : GoodM h' c P qs := by
  obtain ⟨ps, t, q⟩ := x
  have h1 : c ≠ a := fun z => by
    obtain ⟨⟨o', vs, e, hcl, _⟩, _⟩ := t.tab
    rw [z, ha] at e; cases e; exact hc hcl
  have h2 : P ≠ a := fun z => by
    have e := t.tab.2
    rw [z, ha] at e; cases e; exact hn rfl
  exact ⟨ps, ⟨t.code.extBut k h1 h2, t.tab.extBut k h1 h2⟩, fun p hz => (q p hz).imp id fun ⟨c', e, g⟩ => ⟨c', e, g.butD ha hc k⟩⟩
theorem dict_code : Value.type "dict" ≠ Value.type "code" := by decide
theorem dict_none : Value.type "dict" ≠ Value.none := by decide
theorem dict_mod : Value.type "dict" ≠ Value.type "module" := by decide
structure CB (h : Heap) (ns kc P bm : Addr) (nm : Value) (qs : List (Pos × Str)) (es : Array DictEntry) (ep : Nat) : Prop where
  hn : h.get? ns = some { cls := .type "dict", data := .dict es ep }
  good : GoodM h kc P qs
  gl : GlobK h nm bm
  ne : ns ≠ mainGlobals
structure Off (P ns : Addr) (h h' : Heap) : Prop where
  at' : ∀ b o, b ≠ P → b ≠ ns → h.get? b = some o → h'.get? b = some o
  gr : Grew P h h'
theorem Off.refl {P ns : Addr} {h : Heap} : Off P ns h h := ⟨fun _ _ _ _ e => e, .refl _ _⟩
theorem Off.trans {P ns : Addr} {h h₁ h₂ : Heap} (x : Off P ns h h₁) (y : Off P ns h₁ h₂) : Off P ns h h₂ := ⟨fun b o h1 h2 e => y.at' b o h1 h2 (x.at' b o h1 h2 e), x.gr.trans y.gr⟩
theorem Off.of_but {P ns : Addr} {h h' : Heap} (k : KeepsBut ns h h') (hn : P ≠ ns) : Off P ns h h' := ⟨fun b o _ h2 e => k b o h2 e, fun ps e => ⟨#[], by rw [k _ _ hn e]; simp⟩⟩
theorem Off.of_keep {P ns : Addr} {h h' : Heap} (k : Keeps1 h h') : Off P ns h h' := ⟨fun b o _ _ e => k b o e, fun ps e => ⟨#[], by rw [k _ _ e]; simp⟩⟩
theorem CB.tab {h : Heap} {ns kc P bm : Addr} {nm : Value} {qs : List (Pos × Str)} {es : Array DictEntry} {ep : Nat} (c : CB h ns kc P bm nm qs es ep) : ∃ ps, h.get? P = some { cls := .none, data := .fields ps } := by
  obtain ⟨ps, t, _⟩ := c.good
  exact ⟨ps, t.tab.2⟩
theorem CB.off {h h' : Heap} {ns kc P bm b : Addr} {nm : Value} {qs : List (Pos × Str)} {es : Array DictEntry} {ep : Nat} {ob : Obj} (c : CB h ns kc P bm nm qs es ep) (o : Off P ns h h') (e : h.get? b = some ob) (hc : ob.cls ≠ .none) (hn : b ≠ ns) : h'.get? b = some ob := by
  obtain ⟨ps, hP⟩ := c.tab
  exact o.at' b ob (fun z => by rw [z, hP] at e; cases e; exact hc rfl) hn e
theorem CB.neP {h : Heap} {ns kc P bm : Addr} {nm : Value} {qs : List (Pos × Str)} {es : Array DictEntry} {ep : Nat} (c : CB h ns kc P bm nm qs es ep) : P ≠ ns := fun z => by
  obtain ⟨ps, hP⟩ := c.tab
  have := c.hn
  rw [← z, hP] at this; cases this
theorem CB.put {h h' : Heap} {ns kc P bm : Addr} {nm : Value} {qs : List (Pos × Str)} {es es' : Array DictEntry} {ep ep' : Nat} (c : CB h ns kc P bm nm qs es ep) (h1 : h'.get? ns = some { cls := .type "dict", data := .dict es' ep' }) (k : KeepsBut ns h h') : CB h' ns kc P bm nm qs es' ep' :=
  ⟨h1, c.good.butD c.hn dict_code dict_none k, by
    obtain ⟨⟨gs, gp, gc, dd, sl, e1, e2, e3⟩, ⟨sl', e4⟩, nb⟩ := c.gl
    exact ⟨⟨gs, gp, gc, dd, sl, k _ _ (fun z => c.ne z.symm) e1, e2, e3⟩, ⟨sl', k _ _ (fun z => by rw [z, c.hn] at e4; exact dict_mod (congrArg Obj.cls (Option.some.inj e4))) e4⟩, nb⟩, c.ne⟩
theorem CB.keep {h h' : Heap} {ns kc P bm : Addr} {nm : Value} {qs : List (Pos × Str)} {es : Array DictEntry} {ep : Nat} (c : CB h ns kc P bm nm qs es ep) (k : Keeps1 h h') : CB h' ns kc P bm nm qs es ep := ⟨k _ _ c.hn, c.good.keep k, c.gl.keep k, c.ne⟩
section
variable {M : Model} {A : Around} {E : Value → Shared → Prop} {h : Heap} {g : Array GenState} {d : Drawn} {t : Nat} {os : OsState}
/-- a name set in the class's text -/
theorem setK {env : Env} {x : Str} {v : Value} {ns kc P bm : Addr} {nm : Value} {qs : List (Pos × Str)} {es : Array DictEntry} {es' : Int → Array DictEntry} {ep ep' : Nat} {Q : Unit → Shared → Prop} (hs : ∀ v, storeName env x v = localSet env x v) (hl : env.locals = ns) (hm : aRefKeyMayBeTheName x es = false)
    (he : ∀ hv, Obj.putName x hv (.str x t) v { cls := .type "dict", data := .dict es ep } = { cls := .type "dict", data := .dict (es' hv) ep' }) (c : CB h ns kc P bm nm qs es ep) (hq : ∀ hv h', Off P ns h h' → CB h' ns kc P bm nm qs (es' hv) ep' → Q () ⟨h', g, d, t + 1, os⟩) : wpAny M A (storeName env x v) Q E ⟨h, g, d, t, os⟩ := by
  subst hl
  exact storeK (hs v) c.hn hm he (fun _ => rfl) fun hv h' h1 h2 => hq hv h' (.of_but h2 c.neP) (c.put h1 h2)
theorem defK {env : Env} {name q : Str} {params : Arguments} {body : List Stmt} {scope : Scope} {pos : Pos} {ns kc P bm : Addr} {nm : Value} {qs : List (Pos × Str)} {clos : List (Str × Addr)} {es : Array DictEntry} {ep : Nat} {Q : Flow → Shared → Prop}
    (hkw : params.kwonlyargs = []) (hdf : params.defaults = []) (hkd : params.kw_defaults = []) (hann : annTrees params none env = []) (hcl : closureFor scope env = pure clos) (hdoc : docOf body = none) (hg : env.globals = mainGlobals) (hb : env.builtins = builtinsNs) (hcode : env.code = .ref kc)
    (hqn : qualnameIn env name name = q) (hm : (pos, q) ∈ qs) (ap : Apart qs) (hs : ∀ v, storeName env name v = localSet env name v) (hl : env.locals = ns) (hmay : aRefKeyMayBeTheName name es = false)
    (hput : ∀ hv k v, Obj.putName name hv k v { cls := .type "dict", data := .dict es ep } = { cls := .type "dict", data := .dict (es.push ⟨hv, k, v⟩) (ep + 1) }) (c : CB h ns kc P bm nm qs es ep)
    (hQ : ∀ f c' ct hv u h' tk, Off P ns h h' → h'.get? f = some (fnObj (methOf name q params body scope nm c' clos ct)) → f ≠ ns → GM h' q c' → (clos = [] → ct = .none) → CB h' ns kc P bm nm qs (es.push ⟨hv, .str name u, .ref f⟩) (ep + 1) → Q .next ⟨h', g, d, tk, os⟩) :
    wpAny M A (exec (.FunctionDef name params body [] none [] scope none name pos) env) Q E ⟨h, g, d, t, os⟩ := by
  rw [exec_def, hqn, defaultsOf_eq, hkd, hdf, hann]
  refine wpAny_bind (wpAny_standAt (wpAny_bind (wpAny_holding ?_)))
  refine wpAny_bind (wpAny_pure (wpAny_bind (wpAny_holding (wpAny_pure (wpAny_holding (wpAny_bind (wpAny_pure ?_)))))))
  refine makeMeth hkw hcl hdoc hg hb hcode c.good hm ap c.gl fun f c' ct h₁ tk hf hx ho gm G gl hct gr => wpAny_bind (wpAny_standAt (wpAny_bind ?_))
  subst hl
  obtain ⟨ps, hP⟩ := c.tab
  have hnP : env.locals ≠ P := fun z => by have := c.hn; rw [z, hP] at this; cases this
  have c₁ : CB h₁ env.locals kc P bm nm qs es ep := ⟨hx _ _ hnP c.hn, G, gl, c.ne⟩
  refine bindK (hs _) c₁.hn hmay (fun hv => hput hv _ _) (fun _ => rfl) fun hv h' h1 h2 => wpAny_pure ?_
  have hfn : f ≠ env.locals := fun z => by rw [z, c.hn] at hf; cases hf
  exact hQ f c' ct hv _ h' _ ⟨fun b o h3 h4 e => h2 _ _ h4 (hx _ _ h3 e), fun ps₁ e₁ => (by
    obtain ⟨m, e₂⟩ := gr ps₁ e₁
    exact ⟨m, h2 _ _ (Ne.symm hnP) e₂⟩)⟩ (h2 _ _ hfn ho) hfn (gm.butD c₁.hn dict_code h2) hct (c₁.put h1 h2)
end
end Mine
end

section
set_option genInjectivity false
set_option genSizeOf false
set_option genSizeOfSpec false
set_option maxRecDepth 100000
set_option maxHeartbeats 0
set_option linter.unusedVariables false
set_option tactic.hygienic false
namespace Mine
open PySem PySem.Calls PySem.SeqAt PySem.W PyProof.Rows PySem.W.X
noncomputable def methQs (b : List Stmt) (i : Nat) : List (Pos × Str) := (clsBody b i).filterMap fun s => match s with | .FunctionDef name _ _ _ _ _ _ _ _ pos => some (pos, "cmp_to_key.<locals>.K." ++ name) | _ => none
noncomputable def clsScope (b : List Stmt) (i : Nat) : Scope := match bodyOf b i with | .ClassDef _ _ _ _ _ _ scope _ _ _ _ :: _ => scope | _ => default
noncomputable def clsEnv (ns kc fr cell : Addr) : Env := { scope := clsScope PB 13, locals := ns, globals := mainGlobals, qual := "cmp_to_key.<locals>.K.", code := .ref kc, frame := some fr, builtins := builtinsNs, cells := [("mycmp", cell)] }
theorem list_none : Value.type "list" ≠ Value.none := by decide
theorem apQs : Apart (methQs PB 13) := by unfold Apart; decide +kernel
noncomputable def bodyEnts (hs : Nat → Int) (ts : Nat → Tok) (line : Int) (sl ini lt gt eq le ge : Addr) : Array DictEntry := #[
  ⟨hs 0, .str "__module__" (ts 0), .str "cpy313.functools" (ts 13)⟩, ⟨hs 20, .str "__qualname__" (ts 20), .str "cmp_to_key.<locals>.K" (ts 21)⟩, ⟨hs 1, .str "__firstlineno__" (ts 1), .int line (ts 14)⟩, ⟨hs 2, .str "__slots__" (ts 2), .ref sl⟩, ⟨hs 3, .str "__init__" (ts 3), .ref ini⟩,
  ⟨hs 4, .str "__lt__" (ts 4), .ref lt⟩, ⟨hs 5, .str "__gt__" (ts 5), .ref gt⟩, ⟨hs 6, .str "__eq__" (ts 6), .ref eq⟩, ⟨hs 7, .str "__le__" (ts 7), .ref le⟩, ⟨hs 8, .str "__ge__" (ts 8), .ref ge⟩, ⟨hs 9, .str "__hash__" (ts 9), .none⟩]
section
variable {M : Model} {A : Around} {E : Value → Shared → Prop} {h : Heap} {g : Array GenState} {d : Drawn} {t : Nat} {os : OsState}
theorem clsText1 {ns kc fr cell P bm : Addr} {nm : Value} {line : Int} {h0 h1 h2 : Int} {t0 t1 u1 t2 u2 : Tok} {Q : Flow → Shared → Prop}
    (c : CB h ns kc P bm nm (methQs PB 13) #[⟨h0, .str "__module__" t0, nm⟩, ⟨h1, .str "__qualname__" t1, .str "cmp_to_key.<locals>.K" u1⟩, ⟨h2, .str "__firstlineno__" t2, .int line u2⟩] 3)
    (hQ : ∀ h' tk sl v2 h3 t3 to n, Off P ns h h' → h'.get? sl = some { cls := .type "list", data := .seq #[.str "obj" to] n } → sl ≠ ns →
      CB h' ns kc P bm nm (methQs PB 13) #[⟨h0, .str "__module__" t0, .str "cpy313.functools" v2⟩, ⟨h1, .str "__qualname__" t1, .str "cmp_to_key.<locals>.K" u1⟩, ⟨h2, .str "__firstlineno__" t2, .int line u2⟩, ⟨h3, .str "__slots__" t3, .ref sl⟩] 4 → wpAny M A (execs ((clsBody PB 13).drop 2) (clsEnv ns kc fr cell)) Q E ⟨h', g, d, tk, os⟩) :
    wpAny M A (execs (clsBody PB 13) (clsEnv ns kc fr cell)) Q E ⟨h, g, d, t, os⟩ := by
  refine wpAny_execs_cons (wpAny_Assign_Name (wpAny_eval_const rfl fun v tk hv => ?_))
  obtain ⟨v2, rfl⟩ := hv
  refine setK (es' := fun _ => #[⟨h0, .str "__module__" t0, .str "cpy313.functools" v2⟩, ⟨h1, .str "__qualname__" t1, .str "cmp_to_key.<locals>.K" u1⟩, ⟨h2, .str "__firstlineno__" t2, .int line u2⟩]) (ep' := 3) (fun _ => by kernel_rfl) rfl (by kernel_rfl) (fun _ => by kernel_rfl) c fun hv h₁ o₁ c₁ => ?_
  refine wpAny_execs_cons (wpAny_Assign_Name (List_ (spliced_cons (wpAny_mkText (spliced_nil (wpAny_newList ?_ (by rw [sizeLine_eq]; exact Nat.le_add_left 1 _)))))))
  have c₂ := c₁.keep (h' := h₁.push { cls := .type "list", data := .seq #[.str "obj" (tk + 1)] }) fun _ _ e => Heap.get?_push_of_some _ e
  have hsz := Heap.lt_size c₁.hn
  refine setK (es' := fun hv => #[⟨h0, .str "__module__" t0, .str "cpy313.functools" v2⟩, ⟨h1, .str "__qualname__" t1, .str "cmp_to_key.<locals>.K" u1⟩, ⟨h2, .str "__firstlineno__" t2, .int line u2⟩, ⟨hv, .str "__slots__" (tk + 1 + 1), .ref h₁.objs.size⟩]) (ep' := 4) (fun _ => by kernel_rfl) rfl (by kernel_rfl) (fun _ => by kernel_rfl) c₂ fun hv h₂ o₂ c₃ => ?_
  have hp : (h₁.push { cls := .type "list", data := .seq #[.str "obj" (tk + 1)] }).get? h₁.objs.size = some { cls := .type "list", data := .seq #[.str "obj" (tk + 1)] } := Heap.get?_push_size _ rfl
  have ho := c₂.off o₂ hp list_none (Nat.ne_of_gt hsz)
  exact hQ h₂ _ _ _ _ _ _ _ (o₁.trans (.trans (.of_keep fun _ _ e => Heap.get?_push_of_some _ e) o₂)) ho (Nat.ne_of_gt hsz) c₃
structure BodyOk (h : Heap) (sl ini inc lt ltc gt eq le ge cell : Addr) (nm : Value) : Prop where
  sl : ∃ to n, h.get? sl = some { cls := .type "list", data := .seq #[.str "obj" to] n }
  ini : h.get? ini = some (fnObj (methFd PB 13 2 nm inc [] .none))
  inc : GM h "cmp_to_key.<locals>.K.__init__" inc
  lt : ∃ ct, h.get? lt = some (fnObj (methFd PB 13 3 nm ltc [("mycmp", cell)] ct))
  ltc : GM h "cmp_to_key.<locals>.K.__lt__" ltc
  gt : ∃ o, h.get? gt = some o ∧ o.cls = .type "function"
  eq : ∃ o, h.get? eq = some o ∧ o.cls = .type "function"
  le : ∃ o, h.get? le = some o ∧ o.cls = .type "function"
  ge : ∃ o, h.get? ge = some o ∧ o.cls = .type "function"
theorem fn_none : Value.type "function" ≠ Value.none := by decide
theorem code_none : Value.type "code" ≠ Value.none := by decide
theorem code_dict : Value.type "code" ≠ Value.type "dict" := by decide
theorem GM.off {h h' : Heap} {ns kc P bm a : Addr} {nm : Value} {qs : List (Pos × Str)} {es : Array DictEntry} {ep : Nat} {q : Str} (x : GM h q a) (c : CB h ns kc P bm nm qs es ep) (o : Off P ns h h') : GM h' q a := by
  obtain ⟨ob, vs, t, e, hc, r⟩ := x
  exact ⟨ob, vs, t, c.off o e (by rw [hc]; exact code_none) (fun z => by have := c.hn; rw [← z, e] at this; cases this; exact code_dict hc.symm), hc, r⟩
theorem clsText2 {ns kc fr cell P bm sl : Addr} {nm : Value} {line : Int} {h0 h1 h2 h3 : Int} {t0 t1 u1 t2 u2 v2 t3 to : Tok} {n : Nat} {Q : Flow → Shared → Prop}
    (hsl : h.get? sl = some { cls := .type "list", data := .seq #[.str "obj" to] n }) (hsn : sl ≠ ns)
    (c : CB h ns kc P bm nm (methQs PB 13) #[⟨h0, .str "__module__" t0, .str "cpy313.functools" v2⟩, ⟨h1, .str "__qualname__" t1, .str "cmp_to_key.<locals>.K" u1⟩, ⟨h2, .str "__firstlineno__" t2, .int line u2⟩, ⟨h3, .str "__slots__" t3, .ref sl⟩] 4)
    (hQ : ∀ h' tk hs ts ini inc lt ltc gt eq le ge, Off P ns h h' → BodyOk h' sl ini inc lt ltc gt eq le ge cell nm → CB h' ns kc P bm nm (methQs PB 13) (bodyEnts hs ts line sl ini lt gt eq le ge) 11 → Q .next ⟨h', g, d, tk, os⟩) :
    wpAny M A (execs ((clsBody PB 13).drop 2) (clsEnv ns kc fr cell)) Q E ⟨h, g, d, t, os⟩ := by
  refine wpAny_execs_cons (defK (q := "cmp_to_key.<locals>.K.__init__") (clos := []) rfl rfl rfl rfl (by kernel_rfl) rfl rfl rfl rfl (by kernel_rfl) (List.mem_of_getElem? (i := 0) (by kernel_rfl)) apQs (fun _ => by kernel_rfl) rfl (by kernel_rfl) (fun _ _ _ => by kernel_rfl) c fun ini inc ct k4 u4 h₁ tk₁ o₁ e₁ n₁ m₁ z₁ c₁ => ?_)
  have e₁' : h₁.get? ini = some (fnObj (methFd PB 13 2 nm inc [] .none)) := by rw [e₁, z₁ rfl]; kernel_rfl
  clear e₁ z₁
  refine wpAny_execs_cons (defK (q := "cmp_to_key.<locals>.K.__lt__") (clos := [("mycmp", cell)]) rfl rfl rfl rfl (by kernel_rfl) rfl rfl rfl rfl (by kernel_rfl) (List.mem_of_getElem? (i := 1) (by kernel_rfl)) apQs (fun _ => by kernel_rfl) rfl (by kernel_rfl) (fun _ _ _ => by kernel_rfl) c₁ fun lt ltc ctl k5 u5 h₂ tk₂ o₂ e₂ n₂ m₂ z₂ c₂ => ?_)
  have e₂' : h₂.get? lt = some (fnObj (methFd PB 13 3 nm ltc [("mycmp", cell)] ctl)) := by rw [e₂]; kernel_rfl
  clear e₂ z₂
  refine wpAny_execs_cons (defK (q := "cmp_to_key.<locals>.K.__gt__") (clos := [("mycmp", cell)]) rfl rfl rfl rfl (by kernel_rfl) rfl rfl rfl rfl (by kernel_rfl) (List.mem_of_getElem? (i := 2) (by kernel_rfl)) apQs (fun _ => by kernel_rfl) rfl (by kernel_rfl) (fun _ _ _ => by kernel_rfl) c₂ fun gt gtc ctg k6 u6 h₃ tk₃ o₃ e₃ n₃ m₃ z₃ c₃ => ?_)
  refine wpAny_execs_cons (defK (q := "cmp_to_key.<locals>.K.__eq__") (clos := [("mycmp", cell)]) rfl rfl rfl rfl (by kernel_rfl) rfl rfl rfl rfl (by kernel_rfl) (List.mem_of_getElem? (i := 3) (by kernel_rfl)) apQs (fun _ => by kernel_rfl) rfl (by kernel_rfl) (fun _ _ _ => by kernel_rfl) c₃ fun eq eqc cte k7 u7 h₄ tk₄ o₄ e₄ n₄ m₄ z₄ c₄ => ?_)
  refine wpAny_execs_cons (defK (q := "cmp_to_key.<locals>.K.__le__") (clos := [("mycmp", cell)]) rfl rfl rfl rfl (by kernel_rfl) rfl rfl rfl rfl (by kernel_rfl) (List.mem_of_getElem? (i := 4) (by kernel_rfl)) apQs (fun _ => by kernel_rfl) rfl (by kernel_rfl) (fun _ _ _ => by kernel_rfl) c₄ fun le lec ctle k8 u8 h₅ tk₅ o₅ e₅ n₅ m₅ z₅ c₅ => ?_)
  refine wpAny_execs_cons (defK (q := "cmp_to_key.<locals>.K.__ge__") (clos := [("mycmp", cell)]) rfl rfl rfl rfl (by kernel_rfl) rfl rfl rfl rfl (by kernel_rfl) (List.mem_of_getElem? (i := 5) (by kernel_rfl)) apQs (fun _ => by kernel_rfl) rfl (by kernel_rfl) (fun _ _ _ => by kernel_rfl) c₅ fun ge gec ctge k9 u9 h₆ tk₆ o₆ e₆ n₆ m₆ z₆ c₆ => ?_)
  refine wpAny_execs_cons (wpAny_Assign_Name (wpAny_eval_const rfl fun v tk hv => ?_))
  cases hv
  refine setK (es' := fun hv => bodyEnts (fun | 0 => h0 | 20 => h1 | 1 => h2 | 2 => h3 | 3 => k4 | 4 => k5 | 5 => k6 | 6 => k7 | 7 => k8 | 8 => k9 | _ => hv) (fun | 0 => t0 | 13 => v2 | 20 => t1 | 21 => u1 | 1 => t2 | 14 => u2 | 2 => t3 | 3 => u4 | 4 => u5 | 5 => u6 | 6 => u7 | 7 => u8 | 8 => u9 | _ => tk) line sl ini lt gt eq le ge) (ep' := 11) (fun _ => by kernel_rfl) rfl (by kernel_rfl) (fun _ => by kernel_rfl) c₆ fun hv h₇ o₇ c₇ => ?_
  have p6 := o₇
  have p5 := o₆.trans p6
  have p4 := o₅.trans p5
  have p3 := o₄.trans p4
  have p2 := o₃.trans p3
  have p1 := o₂.trans p2
  have p0 := o₁.trans p1
  exact wpAny_pure (hQ h₇ _ _ _ ini inc lt ltc gt eq le ge p0 ⟨⟨to, n, c.off p0 hsl list_none hsn⟩, c₁.off p1 e₁' fn_none n₁, m₁.off c₁ p1, ⟨ctl, c₂.off p2 e₂' fn_none n₂⟩, m₂.off c₂ p2, ⟨_, c₃.off p3 e₃ fn_none n₃, rfl⟩, ⟨_, c₄.off p4 e₄ fn_none n₄, rfl⟩, ⟨_, c₅.off p5 e₅ fn_none n₅, rfl⟩, ⟨_, c₆.off p6 e₆ fn_none n₆, rfl⟩⟩ c₇)
end
end Mine
end

section
set_option maxRecDepth 100000
set_option maxHeartbeats 0
set_option linter.unusedVariables false
set_option tactic.hygienic false
namespace Mine
open PySem PySem.W PyProof.Rows PySem.W.X
local macro_rules | `(tactic| x_close) => `(tactic| ((with_reducible rename NewQ _ _ _ => hq'); exact newQ_by hq' 0 (by assumption) rfl (by kernel_rfl)))
theorem prep_call {prog : Program} {w : World} {s : Shared} {b bt : Addr} {tn : Tok} (h1 : s.heap.get? b = some { cls := .type "builtin_function_or_method", data := .fields #[.builtin "type.__prepare__", .type "type"] }) (h2 : s.heap.get? bt = some { cls := .type "tuple", data := .seq #[.type "object"] }) {Q : Value → Shared → Prop} {E : Value → Shared → Prop}
    (hQ : NewQ s { cls := .type "dict", data := .dict #[] } Q) : wpAny (model prog w) At9 (call (.ref b) [.str "K" tn, .ref bt]) Q E s := by
  x_run
theorem prep_get {prog : Program} {w : World} {s : Shared} {u : Tok} {Q : Value → Shared → Prop} {E : Value → Shared → Prop}
    (hQ : NewQ s { cls := .type "builtin_function_or_method", data := .fields #[.builtin "type.__prepare__", .type "type"] } Q) : wpAny (model prog w) At9 (call (.builtin "type.__getattribute__") [.type "type", .str "__prepare__" u]) Q E s := by
  x_run
theorem prepGet {prog : Program} {w : World} {A : Around} {s : Shared} {u : Tok} {Q : Value → Shared → Prop} {E : Value → Shared → Prop} (hh : A.handled = none) (hd : A.depth ≤ 890) (hu : A.units ≤ 8900)
    (hQ : NewQ s { cls := .type "builtin_function_or_method", data := .fields #[.builtin "type.__prepare__", .type "type"] } Q) : wpAny (model prog w) A (getAttrBy (.type "type") (.str "__prepare__" u) false) Q E s := by
  unfold getAttrBy
  refine wpAny_holding (wpAny_bind (wpAny_of_eq (a := .type "type") (by kernel_rfl) ?_))
  refine wpAny_bind (wpAny_of_eq (a := some (.builtin "type.__getattribute__")) (by rw [typeLookup_type, builtinLookup_eq_fast]; kernel_rfl) ?_)
  dsimp only
  rw [if_neg (by decide +kernel)]
  unfold getAttrByItsOwn
  refine wpAny_bind (wpAny_of_eq (a := none) (by kernel_rfl) ?_)
  refine wpAny_bind (wpAny_attempt (wpAny_holding ?_))
  unfold callGetattribute
  repeat wp_step
  refine wpAny_of_eq (a := (.builtin "type.__getattribute__", [.type "type"])) (by kernel_rfl) ?_
  exact from_top hh (by (exact Nat.le_trans (by assumption) (by decide))) (by (exact Nat.le_trans (by assumption) (by decide))) (prep_get fun x h' tk k1 k2 k3 => wpAny_of_eq (a := .ref x) rfl (hQ x h' tk k1 k2 k3))
end Mine
end

section
set_option genInjectivity false
set_option genSizeOf false
set_option genSizeOfSpec false
set_option maxRecDepth 100000
set_option maxHeartbeats 0
set_option linter.unusedVariables false
namespace Mine
open PySem PySem.Calls PySem.SeqAt PySem.W PyProof.Rows PySem.W.X
/-- at cls stands a class of cmp_to_key's -/
structure KC (h : Heap) (cls : Addr) (a : KAddrs) : Prop where
  hCls : ∃ t1 t2, h.get? cls = some (clsObj cls a.ns a.bt t1 t2)
  hNs : ∃ hs ts line sl gt eq le ge sa, h.get? a.ns = some (nsObj hs ts line sl a.ini a.lt gt eq le ge sa a.md)
  hMd : ∃ t, h.get? a.md = some (mdObj cls t)
  hIni : ∃ pm, h.get? a.ini = some (fnObj (methFd PB 13 2 pm a.inc [] .none))
  hInc : GM h "cmp_to_key.<locals>.K.__init__" a.inc
  hLt : ∃ pm ct, h.get? a.lt = some (fnObj (methFd PB 13 3 pm a.ltc [("mycmp", a.cell)] ct))
  hLtc : GM h "cmp_to_key.<locals>.K.__lt__" a.ltc
theorem tup_none : Value.type "tuple" ≠ Value.none := by decide
theorem list_dict : Value.type "list" ≠ Value.type "dict" := by decide
theorem fn_dict : Value.type "function" ≠ Value.type "dict" := by decide
theorem tup_dict : Value.type "tuple" ≠ Value.type "dict" := by decide
theorem nameK {M : Model} {A : Around} {E : Value → Shared → Prop} {h : Heap} {g : Array GenState} {d : Drawn} {t : Nat} {os : OsState} {ns kc fr cell P bm : Addr} {nm : Value} {qs : List (Pos × Str)} {Q : Value → Shared → Prop} (c : CB h ns kc P bm nm qs #[] 0) (hq : Q nm ⟨h, g, d, t, os⟩) : wpAny M A (loadName (clsEnv ns kc fr cell) "__name__") Q E ⟨h, g, d, t, os⟩ := by
  have e : loadName (clsEnv ns kc fr cell) "__name__" = (do
      if let some v ← localGet (clsEnv ns kc fr cell) "__name__" then return v
      loadGlobal (clsEnv ns kc fr cell) "__name__") := by kernel_rfl
  rw [e]
  unfold localGet loadGlobal
  refine wpAny_bind (wpAny_bind (wpAny_load' (a := ns) c.hn ?_))
  rw [if_pos (by rfl)]
  refine nsGet_at (a := ns) (r := none) c.hn (by kernel_rfl) ?_
  dsimp only
  exact wpAny_bind (name_at c.gl (wpAny_pure hq))
/-- the class is made, and its text's table is P' -/
noncomputable def GoodP (h : Heap) (c P P' : Addr) (pos : Pos) (q : Str) (qs : List (Pos × Str)) : Prop := ∃ ps c', TabIs h c P ps ∧ codeAmong pos ps.toList = some (.ref c') ∧ GM h q c' ∧ P' ≠ P ∧ GoodM h c' P' qs
theorem noLim {h : Heap} (e : h.get? cStatics = some { cls := .none, data := .dict #[] }) : h.NoLimit :=
  ⟨fun _ => none, ⟨_, #[], 0, e, rfl, fun _ he => by simp at he, fun _ => rfl⟩, rfl⟩
theorem buildK {prog : Program} {w : World} {A : Around} {E : Value → Shared → Prop} {Q : Value → Shared → Prop} {h : Heap} {g : Array GenState} {d : Drawn} {t : Nat} {os : OsState} {env : Env} {c0 P0 bm cell : Addr} {nm : Value} {pos : Pos} {fl : Nat}
    (hg : env.globals = mainGlobals) (hb : env.builtins = builtinsNs) (hcode : env.code = .ref c0) (hcl : closureFor (clsScope PB 13) env = pure [(("mycmp" : Str), cell)])
    (G : GoodC h c0 P0 pos "cmp_to_key.<locals>.K" (methQs PB 13)) (gl : GlobK h nm bm) (hst : h.get? cStatics = some { cls := .none, data := .dict #[] })
    (hh : A.handled = none) (hd : A.depth ≤ 800) (hu : A.units ≤ 8000) (hsm : ∃ o, h.get? sysModules = some o)
    (hQ : ∀ cls a P h' tk, (∀ b o, b ≠ P0 → b ≠ P → h.get? b = some o → h'.get? b = some o) → (h.get? P = none ∨ ∃ ps₀ c₀, TabIs h c0 P0 ps₀ ∧ codeAmong pos ps₀.toList = some (.ref c₀)) → (∀ o, h.get? P = some o → ∃ ps, o.data = .fields ps) → a.cell = cell → KC h' cls a → Grew P0 h h' → GoodP h' c0 P0 P pos "cmp_to_key.<locals>.K" (methQs PB 13) → Grew P h h' → Q (.ref cls) ⟨h', g, d, tk, os⟩) :
    wpAny (model prog w) A (buildClass "K" "cmp_to_key.<locals>.K" [.type "object"] [] (clsBody PB 13) (clsScope PB 13) ["obj"] fl env pos none) Q E ⟨h, g, d, t, os⟩ := by
  unfold buildClass
  repeat ((fail_if_success (with_reducible first | show wpAny _ _ (ite _ _ _) _ _ _ | show wpAny _ _ (newTuple _) _ _ _ | show wpAny _ _ (isType _) _ _ _ | show wpAny _ _ (typeOf _) _ _ _ | show wpAny _ _ (isSubtype _ _) _ _ _ | show wpAny _ _ (call _ _ _) _ _ _ | show wpAny _ _ (getAttrBy _ _ _ _) _ _ _ | show wpAny _ _ (notTheModulesDict _ _) _ _ _ | show wpAny _ _ (specialOf _ _) _ _ _ | show wpAny _ _ (classCode _ _ _ _ _ _) _ _ _)); wp_step)
  refine wpAny_newTuple ?_ (by rw [sizeLine_eq]; exact Nat.le_add_left 1 _)
  repeat ((fail_if_success (with_reducible first | show wpAny _ _ (ite _ _ _) _ _ _ | show wpAny _ _ (newTuple _) _ _ _ | show wpAny _ _ (isType _) _ _ _ | show wpAny _ _ (typeOf _) _ _ _ | show wpAny _ _ (isSubtype _ _) _ _ _ | show wpAny _ _ (call _ _ _) _ _ _ | show wpAny _ _ (getAttrBy _ _ _ _) _ _ _ | show wpAny _ _ (notTheModulesDict _ _) _ _ _ | show wpAny _ _ (specialOf _ _) _ _ _ | show wpAny _ _ (classCode _ _ _ _ _ _) _ _ _)); wp_step)
  refine wpAny_of_eq (a := true) (by kernel_rfl) ?_
  repeat ((fail_if_success (with_reducible first | show wpAny _ _ (ite _ _ _) _ _ _ | show wpAny _ _ (newTuple _) _ _ _ | show wpAny _ _ (isType _) _ _ _ | show wpAny _ _ (typeOf _) _ _ _ | show wpAny _ _ (isSubtype _ _) _ _ _ | show wpAny _ _ (call _ _ _) _ _ _ | show wpAny _ _ (getAttrBy _ _ _ _) _ _ _ | show wpAny _ _ (notTheModulesDict _ _) _ _ _ | show wpAny _ _ (specialOf _ _) _ _ _ | show wpAny _ _ (classCode _ _ _ _ _ _) _ _ _)); wp_step)
  refine wpAny_ite_true rfl ?_
  repeat ((fail_if_success (with_reducible first | show wpAny _ _ (ite _ _ _) _ _ _ | show wpAny _ _ (newTuple _) _ _ _ | show wpAny _ _ (isType _) _ _ _ | show wpAny _ _ (typeOf _) _ _ _ | show wpAny _ _ (isSubtype _ _) _ _ _ | show wpAny _ _ (call _ _ _) _ _ _ | show wpAny _ _ (getAttrBy _ _ _ _) _ _ _ | show wpAny _ _ (notTheModulesDict _ _) _ _ _ | show wpAny _ _ (specialOf _ _) _ _ _ | show wpAny _ _ (classCode _ _ _ _ _ _) _ _ _)); wp_step)
  refine wpAny_of_eq (a := ForInStep.yield ([Value.type "object"], false)) (by kernel_rfl) ?_
  refine wpAny_of_eq (a := ([Value.type "object"], false)) (by kernel_rfl) ?_
  dsimp only [List.lookup]
  repeat ((fail_if_success (with_reducible first | show wpAny _ _ (ite _ _ _) _ _ _ | show wpAny _ _ (newTuple _) _ _ _ | show wpAny _ _ (isType _) _ _ _ | show wpAny _ _ (typeOf _) _ _ _ | show wpAny _ _ (isSubtype _ _) _ _ _ | show wpAny _ _ (call _ _ _) _ _ _ | show wpAny _ _ (getAttrBy _ _ _ _) _ _ _ | show wpAny _ _ (notTheModulesDict _ _) _ _ _ | show wpAny _ _ (specialOf _ _) _ _ _ | show wpAny _ _ (classCode _ _ _ _ _ _) _ _ _)); wp_step)
  refine wpAny_of_eq (a := .type "type") (by kernel_rfl) ?_
  refine wpAny_bind (wpAny_of_eq (a := true) (by kernel_rfl) ?_)
  rw [if_pos rfl]
  refine wpAny_bind (wpAny_of_eq (a := .type "type") (by kernel_rfl) ?_)
  repeat ((fail_if_success (with_reducible first | show wpAny _ _ (ite _ _ _) _ _ _ | show wpAny _ _ (newTuple _) _ _ _ | show wpAny _ _ (isType _) _ _ _ | show wpAny _ _ (typeOf _) _ _ _ | show wpAny _ _ (isSubtype _ _) _ _ _ | show wpAny _ _ (call _ _ _) _ _ _ | show wpAny _ _ (getAttrBy _ _ _ _) _ _ _ | show wpAny _ _ (notTheModulesDict _ _) _ _ _ | show wpAny _ _ (specialOf _ _) _ _ _ | show wpAny _ _ (classCode _ _ _ _ _ _) _ _ _)); wp_step)
  rw [if_neg Bool.false_ne_true]
  repeat ((fail_if_success (with_reducible first | show wpAny _ _ (ite _ _ _) _ _ _ | show wpAny _ _ (newTuple _) _ _ _ | show wpAny _ _ (isType _) _ _ _ | show wpAny _ _ (typeOf _) _ _ _ | show wpAny _ _ (isSubtype _ _) _ _ _ | show wpAny _ _ (call _ _ _) _ _ _ | show wpAny _ _ (getAttrBy _ _ _ _) _ _ _ | show wpAny _ _ (notTheModulesDict _ _) _ _ _ | show wpAny _ _ (specialOf _ _) _ _ _ | show wpAny _ _ (classCode _ _ _ _ _ _) _ _ _)); wp_step)
  refine prepGet hh (by (exact Nat.le_trans (by assumption) (by decide))) (by (exact Nat.le_trans (by assumption) (by decide))) fun b h₂ tk₂ k₂ n₂ e₂ => ?_
  dsimp only
  refine wpAny_pure ?_
  dsimp only
  have hbt : (h.push { cls := .type "tuple", data := .seq #[.type "object"] }).get? h.objs.size = some { cls := .type "tuple", data := .seq #[.type "object"] } := Heap.get?_push_size _ rfl
  refine wpAny_bind (from_top hh (by (exact Nat.le_trans (by assumption) (by decide))) (by (exact Nat.le_trans (by assumption) (by decide))) (prep_call (s := ⟨h₂, g, d, tk₂, os⟩) e₂ (k₂ _ _ hbt) fun ns h₃ tk₃ k₃ n₃ e₃ => ?_))
  dsimp only
  have k03 : Keeps1 h h₃ := fun a o e => k₃ _ _ (k₂ _ _ (Heap.get?_push_of_some _ e))
  have hnew : ∀ a o, h.get? a = some o → ns ≠ a := fun a o e z => by rw [z] at n₃; exact absurd ((k₂ _ _ (Heap.get?_push_of_some _ e)).symm.trans n₃) (fun z => nomatch z)
  have hns : (ns == sysModules) = false := by obtain ⟨o, e⟩ := hsm; exact beq_eq_false_iff_ne.mpr (hnew _ _ e)
  have gl₃ := gl.keep k03
  unfold notTheModulesDict
  rw [hns]
  refine wpAny_bind (wpAny_ite_false rfl (wpAny_pure ?_))
  refine wpAny_bind (wpAny_specialOf (T := "dict") (s := ⟨h₃, g, d, tk₃, os⟩) ⟨_, e₃, rfl⟩ (r := some (.builtin "dict.__getitem__")) (by rw [typeLookup_type, builtinLookup_eq_fast]; kernel_rfl) ?_)
  refine wpAny_ite_false rfl (wpAny_holding ?_)
  refine wpAny_ite_false (by kernel_rfl) (wpAny_bind (wpAny_pure ?_))
  refine wpAny_ite_false (by kernel_rfl) (wpAny_bind (wpAny_pure ?_))
  refine wpAny_bind (classCode_good (s := ⟨h₃, g, d, tk₃, os⟩) hcode (G.keep k03) fun kc P ps h₄ tk₄ x₄ T₄ f₄ m₄ p₄ G₄ w₄ gr₄ => ?_)
  dsimp only
  have hP0 : ∃ qs, h₃.get? P0 = some { cls := .none, data := .fields qs } := by
    obtain ⟨qs, T, _⟩ := G.keep k03
    exact ⟨qs, T.tab.2⟩
  obtain ⟨qs0, hP0b⟩ := hP0
  have gl₄ := gl₃.but hP0b x₄
  have hnP : ns ≠ P0 := fun z => by rw [z, hP0b] at e₃; cases e₃
  have hst₄ : h₄.get? cStatics = some { cls := .none, data := .dict #[] } := x₄ _ _ (fun z => by have := k03 _ _ hst; rw [z, hP0b] at this; cases this) (k03 _ _ hst)
  have hneG : ns ≠ mainGlobals := by obtain ⟨es, ep, c, dd, sl, e1, _⟩ := gl.gl; exact hnew _ _ e1
  have c₄ : CB h₄ ns kc P bm nm (methQs PB 13) #[] 0 := ⟨x₄ _ _ hnP e₃, G₄, gl₄, hneG⟩
  have hqual : (Str.ofString "cmp_to_key.<locals>.K" ++ Str.ofString "." : Str) = "cmp_to_key.<locals>.K." := by kernel_rfl
  rw [hg, hb, hcl, hqual]
  dsimp only [Option.map, Option.toList, List.nil_append]
  refine wpAny_bind (bf_at gl₄ ?_)
  unfold newBodyFrame
  refine wpAny_bind (wpAny_bind (name_at gl₄ (wpAny_alloc ?_)))
  refine wpAny_bind (wpAny_pure (wpAny_holding ?_))
  dsimp only
  have kf : Keeps1 h₄ (h₄.push { cls := .type "frame", slots := #[some (.ref kc), some (.ref mainGlobals), some (.ref ns), none, some nm, none, some (.ref builtinsNs)] }) := fun _ _ e => Heap.get?_push_of_some _ e
  have c₅ := c₄.keep kf
  refine wpAny_bind (wpAny_enterFrame (noLim (kf _ _ hst₄)) (by show A.depth < 1000; (exact Nat.lt_of_le_of_lt (by assumption) (by decide))) ?_)
  refine wpAny_bind (wpAny_onRaise ?_)
  refine wpAny_bind (nameK (fr := h₄.objs.size) c₅ ?_)
  refine wpAny_bind (setK (env := clsEnv ns kc h₄.objs.size cell) (es' := fun hv => #[⟨hv, .str "__module__" tk₄, nm⟩]) (ep' := 1) (fun _ => by kernel_rfl) rfl (by kernel_rfl) (fun _ => by kernel_rfl) c₅ fun v0 h₆ o₆ c₆ => ?_)
  refine wpAny_bind (wpAny_mkText ?_)
  refine wpAny_bind (setK (env := clsEnv ns kc h₄.objs.size cell) (es' := fun hv => #[⟨v0, .str "__module__" tk₄, nm⟩, ⟨hv, .str "__qualname__" (tk₄ + 1 + 1), .str "cmp_to_key.<locals>.K" (tk₄ + 1)⟩]) (ep' := 2) (fun _ => by kernel_rfl) rfl (by kernel_rfl) (fun _ => by kernel_rfl) c₆ fun v1 h₇ o₇ c₇ => ?_)
  refine wpAny_bind (wpAny_mkInt ?_)
  refine wpAny_bind (setK (env := clsEnv ns kc h₄.objs.size cell) (es' := fun hv => #[⟨v0, .str "__module__" tk₄, nm⟩, ⟨v1, .str "__qualname__" (tk₄ + 1 + 1), .str "cmp_to_key.<locals>.K" (tk₄ + 1)⟩, ⟨hv, .str "__firstlineno__" (tk₄ + 1 + 1 + 1 + 1), .int fl (tk₄ + 1 + 1 + 1)⟩]) (ep' := 3) (fun _ => by kernel_rfl) rfl (by kernel_rfl) (fun _ => by kernel_rfl) c₇ fun v2 h₈ o₈ c₈ => ?_)
  refine wpAny_pure ?_
  refine wpAny_bind (wpAny_run (codeAny_body (env := clsEnv ns kc h₄.objs.size cell) (by kernel_rfl) (by kernel_rfl) (clsText1 c₈ fun h₉ tk₉ sl v2 h3 t3 to n o₉ e₉ n₉ c₉ => clsText2 e₉ n₉ c₉ fun h₁ tk₁ hs ts ini inc lt ltc gt eq le ge o₁ B₁ c₁ => ?_)))
  refine wpAny_bind (wpAny_onRaise ?_)
  rw [List.mapM_cons, List.mapM_nil]
  refine wpAny_bind (wpAny_bind (wpAny_mkText (wpAny_bind (wpAny_pure (wpAny_pure ?_)))))
  refine wpAny_bind (wpAny_newTextTuple ?_)
  dsimp only
  have ks : Keeps1 h₁ (h₁.push { cls := .type "tuple", data := .seq #[.str "obj" tk₁] }) := fun _ _ e => Heap.get?_push_of_some _ e
  have hsa : (h₁.push { cls := .type "tuple", data := .seq #[.str "obj" tk₁] }).get? h₁.objs.size = some { cls := .type "tuple", data := .seq #[.str "obj" tk₁] } := Heap.get?_push_size _ rfl
  have cs := c₁.keep ks
  refine wpAny_bind (setK (env := clsEnv ns kc h₄.objs.size cell) (es' := fun hv => nsEnts (fun i => if i = 10 then hv else hs i) (fun i => if i = 10 then tk₁ + 1 else ts i) fl sl ini lt gt eq le ge h₁.objs.size) (ep' := 12) (fun _ => by kernel_rfl) rfl (by kernel_rfl) (fun _ => by kernel_rfl) cs fun v3 h₂' o₂ c₂ => wpAny_pure ?_)
  rw [if_neg Bool.false_ne_true]
  have off : Off P ns _ h₂' := o₆.trans (o₇.trans (o₈.trans (o₉.trans (o₁.trans (.trans (.of_keep ks) o₂)))))
  have hc0P : c0 ≠ P := fun z => by
    obtain ⟨⟨o', vs', e', hcl, _⟩, _⟩ := T₄.tab
    obtain ⟨pt, hpt⟩ := c₄.tab
    rw [z, hpt] at e'; cases e'; cases hcl
  have hc0n : c0 ≠ ns := fun z => by
    obtain ⟨⟨o', vs', e', hcl, _⟩, _⟩ := T₄.tab
    have := c₄.hn
    rw [z, this] at e'; cases e'; exact dict_code hcl
  have keep : ∀ b o, b ≠ P0 → b ≠ P → h.get? b = some o → h₂'.get? b = some o := fun b o h1 h2 e => off.at' b o h2 (Ne.symm (hnew b o e)) (kf _ _ (x₄ b o h1 (k03 _ _ e)))
  have hb3 := k₃ _ _ (k₂ _ _ hbt)
  have hbns : h.objs.size ≠ ns := fun z => by rw [← z, k₂ _ _ hbt] at n₃; cases n₃
  have hb4 : h₂'.get? h.objs.size = some { cls := .type "tuple", data := .seq #[.type "object"] } := c₅.off off (kf _ _ (x₄ _ _ (fun z => by rw [z, hP0b] at hb3; cases hb3) hb3)) tup_none hbns
  have hst2 : h₂'.get? cStatics = some { cls := .none, data := .dict #[] } := by
    obtain ⟨pt, hpt⟩ := c₄.tab
    exact off.at' _ _ (fun z => by rw [z, hpt] at hst₄; cases hst₄) (fun z => by have := c₄.hn; rw [← z, hst₄] at this; cases this) (kf _ _ hst₄)
  have mv : ∀ x o, h₁.get? x = some o → o.cls ≠ .none → o.cls ≠ .type "dict" → h₂'.get? x = some o := fun x o e h1 h2 => cs.off o₂ (ks _ _ e) h1 fun z => by
    have := c₁.hn; rw [← z, e] at this; cases this; exact h2 rfl
  have mvg : ∀ q x, GM h₁ q x → GM h₂' q x := fun q x y => (y.keep ks).off cs o₂
  obtain ⟨to', n', bsl⟩ := B₁.sl
  obtain ⟨ctl, blt⟩ := B₁.lt
  obtain ⟨og, eg, cg⟩ := B₁.gt
  obtain ⟨oe, ee, ce⟩ := B₁.eq
  obtain ⟨ol, el, cl⟩ := B₁.le
  obtain ⟨oge, ege, cge⟩ := B₁.ge
  have fnm : ∀ x o, h₁.get? x = some o → o.cls = .type "function" → ∃ o, h₂'.get? x = some o ∧ o.cls = .type "function" := fun x o e hc => ⟨o, mv x o e (by rw [hc]; exact fn_none) (by rw [hc]; exact fn_dict), hc⟩
  have sa1 : h₂'.get? h₁.objs.size = some { cls := .type "tuple", data := .seq #[.str "obj" tk₁] } := cs.off o₂ hsa tup_none fun z => by have := cs.hn; rw [← z, hsa] at this; exact tup_dict (congrArg Obj.cls (Option.some.inj this))
  refine wpAny_bind (typeCall hb4 c₂.hn hns (mv _ _ bsl list_none list_dict) (fun x hx => ?_) ⟨_, sa1, rfl⟩ hh (by (exact Nat.le_trans (by assumption) (by decide))) (by (exact Nat.le_trans (by assumption) (by decide))) hst2 fun cls n2 md h' tk hs' ts' tm q1 q2 q3 q4 => wpAny_pure ?_)
  · simp only [List.mem_cons, List.not_mem_nil, or_false] at hx
    rcases hx with rfl | rfl | rfl | rfl | rfl | rfl
    · exact fnm _ _ B₁.ini rfl
    · exact fnm _ _ blt rfl
    · exact fnm _ _ eg cg
    · exact fnm _ _ ee ce
    · exact fnm _ _ el cl
    · exact fnm _ _ ege cge
  refine hQ cls ⟨n2, h.objs.size, md, ini, lt, inc, ltc, cell⟩ P h' tk (fun b o h1 h2 e => q1 _ _ (keep b o h1 h2 e)) ?_ (fun o e => by obtain ⟨pt, hpt⟩ := c₄.tab; have := x₄ _ _ p₄ (k03 _ _ e); rw [hpt] at this; cases this; exact ⟨_, rfl⟩) rfl ⟨⟨_, _, q2⟩, ⟨_, _, _, _, _, _, _, _, _, q3⟩, ⟨_, q4⟩, ⟨nm, q1 _ _ (mv _ _ B₁.ini fn_none fn_dict)⟩, (mvg _ _ B₁.inc).keep q1, ⟨nm, ctl, q1 _ _ (mv _ _ blt fn_none fn_dict)⟩, (mvg _ _ B₁.ltc).keep q1⟩ (fun ps₁ e₁ => (by
    obtain ⟨m, e₄⟩ := gr₄ ps₁ (k03 _ _ e₁)
    exact ⟨m, q1 _ _ (off.at' P0 _ (Ne.symm p₄) (Ne.symm hnP) (kf _ _ e₄))⟩)) ⟨ps, kc, T₄.two (fun o e => q1 _ _ (off.at' c0 o hc0P hc0n (kf _ _ e))) (fun o e => q1 _ _ (off.at' P0 o (Ne.symm p₄) (Ne.symm hnP) (kf _ _ e))), f₄, ((m₄.keep kf).off c₅ off).keep q1, p₄, c₂.good.keep q1⟩ fun ps₁ e₁ => (by
    obtain ⟨m, e₄⟩ := off.gr ps₁ (kf _ _ (x₄ _ _ p₄ (k03 _ _ e₁)))
    exact ⟨m, q1 _ _ e₄⟩)
  rcases w₄ with w | ⟨ps₀, cc, tq, fq⟩
  · left
    cases e : h.get? P with
    | none => rfl
    | some o => rw [k03 _ _ e] at w; cases w
  · right
    obtain ⟨ps', T', _⟩ := G
    have e1 := k03 _ _ T'.tab.2
    rw [tq.tab.2] at e1
    cases e1
    exact ⟨_, cc, T', fq⟩
end Mine
end

section
set_option genInjectivity false
set_option genSizeOf false
set_option genSizeOfSpec false
set_option maxRecDepth 100000
set_option maxHeartbeats 0
set_option linter.unusedVariables false
set_option tactic.hygienic false
namespace Mine
open PySem PySem.Calls PySem.SeqAt PySem.W PyProof.Rows PySem.W.X
section
variable {M : Model} {A : Around} {E : Value → Shared → Prop} {s : Shared}
theorem evalArgs_plainF {f : Value} {x : Sem Value} {rest : List (Bool × Sem Value)} {Q : Args → Shared → Prop}
    (h : wpAny M A (spliced ((false, x) :: rest)) (fun vs s' => Q ⟨vs, []⟩ s') E s) : wpAny M A (evalArgs f false ((false, x) :: rest) []) Q E s := by
  unfold evalArgs
  show wpAny M A (spliced ((false, x) :: rest) >>= _) Q E s
  refine wpAny_bind (wpAny_mono h (fun vs s' h' => ?_) fun _ _ x => x)
  refine wpAny_holding ?_
  exact wpAny_bind (wpAny_pure (wpAny_bind (wpAny_pure (wpAny_pure h'))))
theorem classStmt {name : Str} {b : Expr} {body : List Stmt} {scope : Scope} {x1} {bind : Str} {statics : List Str} {pos : Pos} {env : Env} {Q : Flow → Shared → Prop} (he : starEach [b] env = [(false, eval b env)])
    (h : wpAny M A (buildClassGuard env) (fun _ s₁ => wpAny M A (eval b env) (fun v s₂ => wpAny M A (buildClass name (qualnameIn env name bind) [v] [] body scope statics pos.line env pos none) (fun c s₃ => wpAny M A (storeName env bind c) (fun _ s₄ => Q .next s₄) E s₃) E s₂) E s₁) E s) :
    wpAny M A (exec (.ClassDef name [b] [] body [] [] scope x1 bind statics pos) env) Q E s := by
  rw [arm_exec_ClassDef]
  refine wpAny_bind (wpAny_pure (wpAny_bind (wpAny_standAt (wpAny_bind (wpAny_mono h (fun _ s₁ h₁ => ?_) fun _ _ e => e)))))
  refine wpAny_bind (wpAny_holding ?_)
  rw [he]
  refine wpAny_bind (evalArgs_plainF (spliced_cons (wpAny_mono h₁ (fun v s₂ h₂ => spliced_nil ?_) fun _ _ e => e)))
  refine wpAny_bind (wpAny_standAt (wpAny_holding ?_))
  refine wpAny_mono h₂ (fun c s₃ h₃ => ?_) fun _ _ e => e
  refine wpAny_bind (wpAny_pure (wpAny_bind (wpAny_standAt (wpAny_bind (wpAny_bindName (wpAny_mono h₃ (fun _ s₄ h₄ => wpAny_pure h₄) fun _ _ e => e))))))
end
structure NmK (h : Heap) : Prop where
  g : ∃ o, h.get? mainGlobals = some o ∧ nsLook "object" o = pure none
  b : ∃ o, h.get? builtinsNs = some o ∧ nsLook "object" o = pure (some (.type "object")) ∧ nsLook "__build_class__" o = pure (some (.builtin "__build_class__"))
noncomputable def clsPos (b : List Stmt) (i : Nat) : Pos := match bodyOf b i with | .ClassDef _ _ _ _ _ _ _ _ _ _ pos :: _ => pos | _ => default
theorem KC.but {h h' : Heap} {cls L : Addr} {a : KAddrs} {o : Obj} {es : Array DictEntry} {ep : Nat} (x : KC h cls a) (ho : h.get? L = some o) (hd : o.data = .dict es ep) (hm : nsFind es "__module__" = none) (k : KeepsBut L h h') : KC h' cls a := by
  have far : ∀ b ob, h.get? b = some ob → (∀ es ep, ob.data = .dict es ep → nsFind es "__module__" ≠ none) → h'.get? b = some ob := fun b ob e hn => k b ob (fun z => by rw [z, ho] at e; cases e; exact hn _ _ hd hm) e
  have gm : ∀ q c, GM h q c → GM h' q c := fun q c ⟨ob, vs, t, e, hc, hv, r⟩ => ⟨ob, vs, t, far _ _ e (fun es ep z => by rw [hv] at z; cases z), hc, hv, r⟩
  obtain ⟨⟨t1, t2, h1⟩, ⟨hs, ts, line, sl, gt, eq, le, ge, sa, h2⟩, ⟨t, h3⟩, ⟨pm, h4⟩, h5, ⟨pm', ct, h6⟩, h7⟩ := x
  exact ⟨⟨t1, t2, far _ _ h1 fun _ _ z => nomatch z⟩, ⟨hs, ts, line, sl, gt, eq, le, ge, sa, far _ _ h2 fun es ep z => by cases z; exact fun z => nomatch z⟩, ⟨t, far _ _ h3 fun _ _ z => nomatch z⟩, ⟨pm, far _ _ h4 fun _ _ z => nomatch z⟩, gm _ _ h5, ⟨pm', ct, far _ _ h6 fun _ _ z => nomatch z⟩, gm _ _ h7⟩
theorem GM.butK {h h' : Heap} {q : Str} {c L : Addr} {o : Obj} {es : Array DictEntry} {ep : Nat} (x : GM h q c) (ho : h.get? L = some o) (hd : o.data = .dict es ep) (k : KeepsBut L h h') : GM h' q c := by
  obtain ⟨o', vs, t, e, hc', hv, r⟩ := x
  exact ⟨o', vs, t, k c o' (fun z => by rw [z, ho] at e; cases e; rw [hd] at hv; cases hv) e, hc', hv, r⟩
theorem TabIs.butK {h h' : Heap} {c P L : Addr} {ps : Array Value} {o : Obj} {es : Array DictEntry} {ep : Nat} (x : TabIs h c P ps) (ho : h.get? L = some o) (hd : o.data = .dict es ep) (k : KeepsBut L h h') : TabIs h' c P ps := by
  refine x.two (fun o' e => k _ _ (fun z => ?_) e) fun o' e => k _ _ (fun z => ?_) e
  · obtain ⟨⟨o2, vs, e2, _, hv, _⟩, _⟩ := x.tab
    rw [z, ho] at e2; cases e2; rw [hd] at hv; cases hv
  · have e2 := x.tab.2
    rw [z, ho] at e2; cases e2; cases hd
theorem GoodM.butK {h h' : Heap} {c P L : Addr} {qs : List (Pos × Str)} {o : Obj} {es : Array DictEntry} {ep : Nat} (x : GoodM h c P qs) (ho : h.get? L = some o) (hd : o.data = .dict es ep) (k : KeepsBut L h h') : GoodM h' c P qs := by
  obtain ⟨ps, t, q⟩ := x
  exact ⟨ps, t.butK ho hd k, fun p hz => (q p hz).imp id fun ⟨c', e, g⟩ => ⟨c', e, g.butK ho hd k⟩⟩
theorem GoodC.butK {h h' : Heap} {c P L : Addr} {pos : Pos} {q : Str} {qs : List (Pos × Str)} {o : Obj} {es : Array DictEntry} {ep : Nat} (x : GoodC h c P pos q qs) (ho : h.get? L = some o) (hd : o.data = .dict es ep) (k : KeepsBut L h h') : GoodC h' c P pos q qs := by
  obtain ⟨ps, t, g⟩ := x
  exact ⟨ps, t.butK ho hd k, g.imp id fun ⟨c', P', e, gm, hne, gg⟩ => ⟨c', P', e, gm.butK ho hd k, hne, gg.butK ho hd k⟩⟩
theorem GoodP.butK {h h' : Heap} {c P P' L : Addr} {pos : Pos} {q : Str} {qs : List (Pos × Str)} {o : Obj} {es : Array DictEntry} {ep : Nat} (x : GoodP h c P P' pos q qs) (ho : h.get? L = some o) (hd : o.data = .dict es ep) (k : KeepsBut L h h') : GoodP h' c P P' pos q qs := by
  obtain ⟨ps, c', t, e, gm, hne, gg⟩ := x
  exact ⟨ps, c', t.butK ho hd k, e, gm.butK ho hd k, hne, gg.butK ho hd k⟩
theorem callK {prog : Program} {w : World} {A : Around} {Q : Value → Shared → Prop} {h : Heap} {g : Array GenState} {d : Drawn} {t : Nat} {os : OsState} {a f c0 P0 bm : Addr} {nm pm : Value}
    (ho : ∃ o, h.get? a = some o ∧ o.data = .func (fdOf PB 13 pm c0 .none .none)) (hcr : h.CodeRec (.ref c0) "cmp_to_key")
    (G : GoodC h c0 P0 (clsPos PB 13) "cmp_to_key.<locals>.K" (methQs PB 13)) (gl : GlobK h nm bm) (nk : NmK h) (hst : h.get? cStatics = some { cls := .none, data := .dict #[] })
    (hh : A.handled = none) (hd : A.depth ≤ 790) (hu : A.units ≤ 7900) (hsm : ∃ o, h.get? sysModules = some o)
    (hQ : ∀ cls x P h' tk, (∀ b o, b ≠ P0 → b ≠ P → h.get? b = some o → h'.get? b = some o) → (h.get? P = none ∨ ∃ ps₀ c₀, TabIs h c0 P0 ps₀ ∧ codeAmong (clsPos PB 13) ps₀.toList = some (.ref c₀)) → h'.IsCell x.cell (some (.ref f)) → KC h' cls x → Grew P0 h h' → GoodP h' c0 P0 P (clsPos PB 13) "cmp_to_key.<locals>.K" (methQs PB 13) → Grew P h h' → (∀ o, h.get? P = some o → ∃ ps, o.data = .fields ps) → Q (.ref cls) ⟨h', g, d, tk, os⟩) :
    wpAny (model prog w) A (call (.ref a) [.ref f]) Q NoE ⟨h, g, d, t, os⟩ := by
  refine wpAny_call ?_
  obtain ⟨o, ho, hdata⟩ := ho
  refine codeAny_call_function (s := ⟨h, g, d, t, os⟩) (by show A.depth < 1000; (exact Nat.lt_of_le_of_lt (by assumption) (by decide))) ho hdata rfl rfl (body := bodyOf PB 13) rfl hcr ?_
  refine wpAny_of_eq (a := [(("mycmp" : Str), Value.ref f)]) (by kernel_rfl) ?_
  refine wpAny_newFunctionEnv_cells rfl (fun x hx => ?_) fun env he s₁ x => ?_
  · rw [List.mem_singleton] at hx
    subst hx
    exact .inr ⟨by kernel_rfl, by kernel_rfl⟩
  obtain ⟨h₁, tk, rfl⟩ := x.toInCall.same
  have keep := x.toInCall.keep
  have hns := x.toInCall.ns
  have hcell := x.cell
  have hfresh := x.toInCall.fresh
  dsimp only at keep hns hfresh hcell
  clear x
  refine ⟨noLim (keep _ _ hst), codeAny_func (noE ?_)⟩
  have hsc : env.scope.kind = .function := by rw [he]; rfl
  have hg : env.globals = mainGlobals := by rw [he]; rfl
  have hb : env.builtins = builtinsNs := by rw [he]; rfl
  have hL : env.locals = h.objs.size := by rw [he]; rfl
  have hcd : env.code = .ref c0 := by rw [he]; rfl
  have hcs : env.cells = [(("mycmp" : Str), h.objs.size + 1)] := by rw [he]; kernel_rfl
  have hcl : closureFor (clsScope PB 13) env = pure [(("mycmp" : Str), h.objs.size + 1)] := by rw [he]; kernel_rfl
  have hqn : qualnameIn env "K" "K" = "cmp_to_key.<locals>.K" := by rw [he]; kernel_rfl
  have hkK : env.kindOf "K" = some .local := by rw [he]; kernel_rfl
  have hkO : env.kindOf "object" = some .globalImplicit := by rw [he]; kernel_rfl
  have hsk : (env.scope.kind == .class || (env.scope.kind == .module && env.locals != env.globals)) = false := by rw [he]; rfl
  have hcm : h₁.IsCell (h.objs.size + 1) (some (.ref f)) := by
    have := hcell "mycmp" (h.objs.size + 1) (by rw [hcs]; kernel_rfl)
    have e2 : bindC env.kindOf [(("mycmp" : Str), Value.ref f)] (fun _ => none) "mycmp" = some (.ref f) := by rw [he]; kernel_rfl
    rwa [e2] at this
  clear he hcell
  obtain ⟨oG, gG, lG⟩ := nk.g
  obtain ⟨oB, gB, lB, lC⟩ := nk.b
  have hAd : (A.deeper env).depth = A.depth + 1 := rfl
  have hAu : (A.deeper env).units = A.units + 3 := rfl
  refine wpAny_execs_cons (classStmt rfl ?_)
  unfold buildClassGuard
  rw [hb]
  refine wpAny_bind (nsGet_at (keep _ _ gB) lC (wpAny_pure ?_))
  refine wpAny_Name (x := "object") ?_
  rw [loadName_read hsc hkO]
  unfold loadGlobal
  rw [hg, hb]
  refine wpAny_bind (nsGet_at (keep _ _ gG) lG (wpAny_bind (nsGet_at (keep _ _ gB) lB (wpAny_pure ?_))))
  rw [hqn]
  refine buildK (cell := h.objs.size + 1) hg hb hcd hcl (G.keep keep) (gl.keep keep) (keep _ _ hst) hh (by (exact Nat.lt_of_le_of_lt (by assumption) (by decide))) (by (first | lia | omega)) (hsm.imp fun _ e => keep _ _ e) fun cls x P h₂ tk₂ k₂ w₂ p₂ cx kc gr gc grP => ?_
  obtain ⟨oL, es, ep, eL, dL, rk, rL⟩ := hns
  have hP0 : ∃ ps, h.get? P0 = some { cls := .none, data := .fields ps } := by obtain ⟨ps, T, _⟩ := G; exact ⟨ps, T.tab.2⟩
  obtain ⟨ps0, hP0⟩ := hP0
  have n0 : env.locals ≠ P0 := fun z => absurd (Heap.lt_size hP0) (Nat.not_lt.mpr (z ▸ hfresh))
  have n1 : env.locals ≠ P := fun z => by rw [z] at eL; obtain ⟨pp, hp⟩ := p₂ _ eL; rw [dL] at hp; cases hp
  have eL₂ := k₂ _ _ n0 n1 eL
  refine wpAny_storeName_local hkK ⟨oL, es, ep, eL₂, dL, rk, rL⟩ (fun h₃ n₃ s₃ => ?_) hsk
  refine wpAny_execs_cons (wpAny_Return_some (wpAny_Name (wpAny_loadName_local hsc hkK n₃ (by rw [if_pos rfl]) ?_)))
  have kL : KeepsBut env.locals h₂ h₃ := fun b o hb e => (s₃.2 _ hb).trans e
  have hmod : nsFind es "__module__" = none := (rL "__module__").trans (bindL_miss (by show ¬ (Str.ofString "__module__" ∈ [Str.ofString "mycmp"]); decide +kernel))
  obtain ⟨oc, ec, dc⟩ := hcm
  have ec₂ := k₂ _ _ (fun z => by rw [z, keep _ _ hP0] at ec; cases ec; cases dc) (fun z => by rw [z] at ec; obtain ⟨pp, hp⟩ := p₂ _ ec; rw [dc] at hp; cases hp) ec
  refine hQ cls x P h₃ _ (fun b o h1 h2 e => kL _ _ (fun z => absurd (Heap.lt_size e) (Nat.not_lt.mpr (z ▸ hfresh))) (k₂ _ _ h1 h2 (keep _ _ e))) ?_ (by rw [cx]; exact ⟨oc, kL _ _ (by rw [hL]; exact Nat.succ_ne_self _) ec₂, dc⟩) (kc.but eL₂ dL hmod kL) (fun ps₁ e₁ => (by
    obtain ⟨m, e₂⟩ := gr ps₁ (keep _ _ e₁)
    exact ⟨m, kL _ _ (Ne.symm n0) e₂⟩)) ?gc (fun ps₁ e₁ => (by
    obtain ⟨m, e₂⟩ := grP ps₁ (keep _ _ e₁)
    exact ⟨m, kL _ _ (Ne.symm n1) e₂⟩)) (fun o e => p₂ o (keep _ _ e))
  case gc => exact gc.butK eL₂ dL kL
  rcases w₂ with w' | ⟨ps₀, cc, tq, fq⟩
  · left
    cases e : h.get? P with
    | none => rfl
    | some o => rw [keep _ _ e] at w'; cases w'
  · right
    obtain ⟨ps', T', _⟩ := G
    have e1 := keep _ _ T'.tab.2
    rw [tq.tab.2] at e1
    cases e1
    exact ⟨_, cc, T', fq⟩
end Mine
end

section
set_option genInjectivity false
set_option genSizeOf false
set_option genSizeOfSpec false
set_option maxRecDepth 100000
set_option maxHeartbeats 0
set_option linter.unusedVariables false
set_option tactic.hygienic false
namespace Mine
open PySem PySem.Calls PySem.SeqAt PySem.W PyProof.Rows PySem.W.X
/-- one of K -/
abbrev instO (cls d : Addr) (v : Value) : Obj := { cls := .ref cls, dict := some d, slots := #[some v] }
section
variable {K : Frag} {cls ns bt md ini lt gt eq le ge sa sl : Addr} {t1 t2 tm : Tok} {hs : Nat → Int} {ts : Nat → Tok} {line : Int} {pm : Value}
/-- the class, its names and its slot, as written -/
structure KL (K : Frag) (cls ns bt md ini lt gt eq le ge sa sl : Addr) (t1 t2 tm : Tok) (hs : Nat → Int) (ts : Nat → Tok) (line : Int) : Prop where
  c : K.lookup cls = some (clsObj cls ns bt t1 t2)
  n : K.lookup ns = some (nsObj hs ts line sl ini lt gt eq le ge sa md)
  m : K.lookup md = some (mdObj cls tm)
variable (k : KL K cls ns bt md ini lt gt eq le ge sa sl t1 t2 tm hs ts line)
include k
theorem KL.ownIn {name : Str} : PySem.W.ownIn K name (.ref cls) = lookIn name (nsObj hs ts line sl ini lt gt eq le ge sa md) := by
  unfold PySem.W.ownIn
  dsimp only
  rw [k.c]
  show nsIn K ns name = _
  unfold nsIn
  rw [k.n]
  kernel_rfl
theorem KL.find {name : Str} : findIn K (.ref cls) name = alongIn K name [.ref cls, .type "object"] := by
  unfold findIn
  dsimp only
  rw [k.c]
  kernel_rfl
theorem KL.own {name : Str} {v : Value} (e : lookIn name (nsObj hs ts line sl ini lt gt eq le ge sa md) = some (some v)) : findIn K (.ref cls) name = some (some v) := by
  rw [k.find, alongIn, k.ownIn, e]
theorem KL.up {name : Str} {r : Option Value} (e : lookIn name (nsObj hs ts line sl ini lt gt eq le ge sa md) = some none) (e2 : alongIn [] name [.type "object"] = some r) : findIn K (.ref cls) name = some r := by
  rw [k.find, alongIn, k.ownIn, e]
  exact e2
theorem KL.clsIn : clsIn K cls = some { name := "K", bases := [.type "object"], mro := [.ref cls, .type "object"], ns := ns, qualname := "cmp_to_key.<locals>.K", hasDict := false, slotNames := ["obj"] } := by
  unfold PySem.W.clsIn
  rw [k.c]
  kernel_rfl
theorem KL.typ : typeIn K (.ref md) = some (.type "member_descriptor") := by
  unfold typeIn
  dsimp only
  rw [k.m]
  rfl
theorem KL.plain : plainGet K cls "obj" = true := by
  unfold plainGet
  rw [k.up (r := some (.builtin "object.__getattribute__")) (by kernel_rfl) (by kernel_rfl), k.up (r := none) (by kernel_rfl) (by kernel_rfl)]
  kernel_rfl
theorem KL.get : specialIn K (.ref md) "__get__" = some (some (.builtin "member_descriptor.__get__")) := by
  unfold specialIn
  rw [k.typ]
  kernel_rfl
theorem KL.takes : takesIn K (.ref md) = some true := by
  unfold takesIn specialIn
  rw [k.typ]
  kernel_rfl
theorem KL.obj : findIn K (.ref cls) "obj" = some (some (.ref md)) := k.own (by kernel_rfl)
theorem KL.taker : takerIn K cls "obj" = some (some (.ref md)) := by
  unfold takerIn
  rw [k.obj, Option.bind_some]
  show Option.map _ (takesIn K (.ref md)) = _
  rw [k.takes]
  rfl
theorem KL.slot : slotIn K md cls = some 0 := by
  have r : recIn K md "member_descriptor" = some [.str "obj" tm, .ref cls, .builtin "proto.slot", .builtin "proto.slot#set", .int 0 0] := by
    unfold recIn
    rw [k.m]
    kernel_rfl
  unfold slotIn
  rw [r, k.clsIn]
  simp only [List.contains_cons, beq_self_eq_true, Bool.true_or]
  kernel_rfl
theorem KL.over : plainOver K cls = true := by
  unfold plainOver
  rw [k.clsIn]
  kernel_rfl
theorem KL.makes : makesIn K cls = true := by
  have s : specialIn K (.ref cls) "__call__" = some (some (.builtin "type.__call__")) := by
    unfold specialIn typeIn
    dsimp only
    rw [k.c]
    kernel_rfl
  have i : instIn K (.ref cls) (.type "type") = some true := by
    unfold instIn typeIn
    dsimp only
    rw [k.c]
    kernel_rfl
  unfold makesIn
  rw [k.c, s, i]
  simp only [clsObj, List.contains_cons, beq_self_eq_true, Bool.true_or]
  kernel_rfl
end
section
variable {prog : Program} {w : World} {A : Around} {s : Shared} {cls ns bt md ini lt gt eq le ge sa sl : Addr} {t1 t2 tm : Tok} {hs : Nat → Int} {ts : Nat → Tok} {line : Int}
theorem kl_in {h : Heap} (h1 : h.get? cls = some (clsObj cls ns bt t1 t2)) (h2 : h.get? ns = some (nsObj hs ts line sl ini lt gt eq le ge sa md)) (h3 : h.get? md = some (mdObj cls tm)) :
    ∃ K : Frag, K.In h ∧ KL K cls ns bt md ini lt gt eq le ge sa sl t1 t2 tm hs ts line := by
  have n1 : (ns == cls) = false := beq_eq_false_iff_ne.mpr fun q => by rw [q, h1] at h2; exact absurd (congrArg Obj.cls (Option.some.inj h2)) (show Value.type "type" ≠ Value.type "dict" by decide)
  have n2 : (md == cls) = false := beq_eq_false_iff_ne.mpr fun q => by rw [q, h1] at h3; exact absurd (congrArg Obj.cls (Option.some.inj h3)) (show Value.type "type" ≠ Value.type "member_descriptor" by decide)
  have n3 : (md == ns) = false := beq_eq_false_iff_ne.mpr fun q => by rw [q, h2] at h3; exact absurd (congrArg Obj.cls (Option.some.inj h3)) (show Value.type "dict" ≠ Value.type "member_descriptor" by decide)
  refine ⟨[(cls, clsObj cls ns bt t1 t2), (ns, nsObj hs ts line sl ini lt gt eq le ge sa md), (md, mdObj cls tm)], fun a o e => ?_, ?_, ?_, ?_⟩
  · rw [List.lookup_cons] at e
    split at e
    · rename_i q; cases e; rw [beq_iff_eq.mp q]; exact h1
    rw [List.lookup_cons] at e
    split at e
    · rename_i q; cases e; rw [beq_iff_eq.mp q]; exact h2
    rw [List.lookup_cons] at e
    split at e
    · rename_i q; cases e; rw [beq_iff_eq.mp q]; exact h3
    · cases e
  · rw [List.lookup_cons, beq_self_eq_true]
  · rw [List.lookup_cons, n1, List.lookup_cons, beq_self_eq_true]
  · rw [List.lookup_cons, n2, List.lookup_cons, n3, List.lookup_cons, beq_self_eq_true]
/-- its slot -/
theorem slotRun {x d : Addr} {v : Value} {b : Bool} (h1 : s.heap.get? cls = some (clsObj cls ns bt t1 t2)) (h2 : s.heap.get? ns = some (nsObj hs ts line sl ini lt gt eq le ge sa md))
   (h3 : s.heap.get? md = some (mdObj cls tm)) (h4 : s.heap.get? x = some (instO cls d v)) (h5 : s.heap.get? d = some emptyDict) (hv : handedIn v = true) {Q : Value → Shared → Prop} {E : Value → Shared → Prop}
    (hQ : Q v { s with toks := s.toks + 1 }) : wpAny (model prog w) A (getAttr (.ref x) "obj" b) Q E s := by
  obtain ⟨K, X, k⟩ := kl_in h1 h2 h3
  have I : InstAt s.heap x (instO cls d v) cls (some emptyDict) := ⟨h4, rfl, rfl, h5⟩
  exact get_bind X I (plainGet_of k.plain).1 (findObj_data (by rw [k.clsIn]; rfl) k.obj k.get k.takes) (plainGet_of k.plain).2 (wpAny_call (slot_get (s := { s with toks := s.toks + 1 }) X I k.slot rfl (handed_on hv hQ)))
def InstQ (s : Shared) (cls : Addr) (v : Value) (Q : Value → Shared → Prop) : Prop := ∀ x d h' tk, Keeps1 s.heap h' → s.heap.get? x = none → h'.get? x = some (instO cls d v) → h'.get? d = some emptyDict → Q (.ref x) { s with heap := h', toks := tk }
/-- one of K made -/
theorem KinQ {ini inc : Addr} {i : Int} {ti tn : Tok} {pm v0 : Value} {r : List Value} {dd : Option Addr} {ss : Array (Option Value)} (hroom : A.depth ≤ 900) (h0 : s.heap.get? cStatics = some { cls := .none, data := .dict #[] }) (h1 : s.heap.get? cls = some (clsObj cls ns bt t1 t2)) (h2 : s.heap.get? ns = some (nsObj hs ts line sl ini lt gt eq le ge sa md))
   (h3 : s.heap.get? md = some (mdObj cls tm)) (h4 : s.heap.get? ini = some (fnObj (methFd PB 13 2 pm inc [] .none))) (h5 : s.heap.get? inc = some { cls := .type "code", dict := dd, data := .fields ⟨v0 :: .str "cmp_to_key.<locals>.K.__init__" tn :: r⟩, slots := ss }) {Q : Value → Shared → Prop}
    (hQ : InstQ s cls (.int i ti) Q) : wpAny (model prog w) A (call (.ref cls) [.int i ti]) Q NoE s := by
  obtain ⟨K, X, k⟩ := kl_in h1 h2 h3
  obtain ⟨hp, g, d, t, os⟩ := s
  dsimp only at h0 h1 h2 h3 h4 h5 X hQ
  refine wpAny_call (make_core (init := .ref ini) (makes_of X k.makes) (looks_findIn X (k.own (by kernel_rfl))) (fun self => ?_) (.inl rfl) ?_)
  · unfold bindSpecial
    exact ((Looks.ld h4).andThen .now).andThen (Looks.of_pure (by kernel_rfl))
  have kp : Keeps1 hp ((hp.push emptyDict).push (instObj cls hp.objs.size)) := fun b o e => Heap.get?_push_of_some _ (Heap.get?_push_of_some _ e)
  have sz : ((hp.push emptyDict).push (instObj cls hp.objs.size)).objs.size = hp.objs.size + 1 + 1 := by rw [Heap.size_push, Heap.size_push]
  have gx : ((hp.push emptyDict).push (instObj cls hp.objs.size)).get? (hp.objs.size + 1) = some (instObj cls hp.objs.size) := by heap_get
  have gd : ((hp.push emptyDict).push (instObj cls hp.objs.size)).get? hp.objs.size = some emptyDict := by heap_get
  have le : hp.objs.size ≤ ((hp.push emptyDict).push (instObj cls hp.objs.size)).objs.size := by rw [sz]; exact Nat.le_trans (Nat.le_succ _) (Nat.le_succ _)
  have lx : hp.objs.size + 1 < ((hp.push emptyDict).push (instObj cls hp.objs.size)).objs.size := by rw [sz]; exact Nat.lt_succ_self _
  have ld : hp.objs.size < ((hp.push emptyDict).push (instObj cls hp.objs.size)).objs.size := Nat.lt_trans (Nat.lt_succ_self _) lx
  have nw : ∀ b, hp.objs.size ≤ b → hp.get? b = none := fun b hb => by
    cases q : hp.get? b with
    | none => rfl
    | some o => exact absurd (Heap.lt_size q) (Nat.not_lt.mpr hb)
  have nx : hp.get? (hp.objs.size + 1) = none := nw _ (Nat.le_succ _)
  have nd := nw _ (Nat.le_refl hp.objs.size)
  have ne : hp.objs.size ≠ hp.objs.size + 1 := Nat.ne_of_lt (Nat.lt_succ_self _)
  clear sz nw
  generalize (hp.push emptyDict).push (instObj cls hp.objs.size) = hq at *
  generalize hp.objs.size + 1 = x at *
  refine codeAny_call_def (body := match (clsBody PB 13)[2]? with | some (Stmt.FunctionDef _ _ b _ _ _ _ _ _ _) => b | _ => []) (fd := methFd PB 13 2 pm inc [] .none) (binds := [("self", .ref x), ("obj", .int i ti)]) ?_ (kp _ _ h4) rfl ?_ ⟨inc, _, _, tn, rfl, kp _ _ h5, rfl, rfl⟩ rfl (.of_eq (by kernel_rfl)) ?_ ?_ (fun h₁ hns keep => noE ?_) rfl rfl rfl
  · have hw : (Code.builtin "type.__call__" ⟨[.ref cls, .int i ti], []⟩).weight = 1 := by kernel_rfl
    show A.depth + (Code.builtin "type.__call__" ⟨[.ref cls, .int i ti], []⟩).weight < 1000
    rw [hw]
    exact Nat.lt_of_le_of_lt (Nat.succ_le_succ hroom) (by decide)
  · exact noLim (kp _ _ h0)
  · show ∀ z ∈ (methFd PB 13 2 .none 0 [] .none).scope.names, z.2 ≠ .cell
    decide +kernel
  · intro z hz
    simp only [List.mem_cons, List.not_mem_nil, or_false] at hz
    rcases hz with rfl | rfl
    · kernel_rfl
    · kernel_rfl
  have F : Fr hp hq.objs.size h₁ _ := ⟨hns, fun b o e => keep _ _ (kp _ _ e), le⟩
  have N : News hp hq.objs.size h₁ [(x, instObj cls hp.objs.size), (hp.objs.size, emptyDict)] := fun p hm => by
    rcases List.mem_cons.mp hm with rfl | hm
    · exact ⟨keep _ _ gx, Nat.ne_of_lt lx, nx⟩
    · rcases List.mem_cons.mp hm with rfl | hm
      · exact ⟨keep _ _ gd, Nat.ne_of_lt ld, nd⟩
      · cases hm
  have I : InstAt h₁ x (instObj cls hp.objs.size) cls (some emptyDict) := ⟨keep _ _ gx, rfl, rfl, keep _ _ gd⟩
  refine wpAny_execs_cons (plainObj_wpAny_Assign_Attribute (wpAny_Name (wpAny_loadName_local (v := .int i ti) (by kernel_rfl) (by kernel_rfl) hns (by kernel_rfl) ?_)))
  refine wpAny_Name (wpAny_loadName_local (v := .ref x) (by kernel_rfl) (by kernel_rfl) hns (by kernel_rfl) ?_)
  refine set_slot F X N I (k.up (by kernel_rfl) (by kernel_rfl)) k.over k.taker k.typ k.slot (by decide) rfl rfl (.head fun p hm => ?_) fun h' F' N' => wpAny_execs_nil ⟨rfl, ?_⟩
  · rcases List.mem_cons.mp hm with rfl | hm
    · exact ne
    · cases hm
  · exact hQ _ _ h' _ F'.keep nx (N' _ (.head _)).1 (N' _ (.tail _ (.head _))).1
end
end Mine
end

section
set_option genInjectivity false
set_option genSizeOf false
set_option genSizeOfSpec false
set_option maxRecDepth 100000
set_option linter.unusedVariables false
set_option tactic.hygienic false
namespace Mine
open PySem PyProof.Rows PySem.W
/-! the sort, asked of a key -/
noncomputable def kRun {α : Type} (lt : Nat → Nat → Bool) : KasT α → α
  | .ret a => a
  | .ask i j k => kRun lt (k (lt i j))
theorem kRun_bind {α β : Type} {lt : Nat → Nat → Bool} {f : α → KasT β} : ∀ t : KasT α, kRun lt (t.bind f) = kRun lt (f (kRun lt t))
  | .ret _ => rfl
  | .ask i j k => kRun_bind (k (lt i j))
noncomputable def at' (p : Array Nat) (i : Nat) : Nat := p.getD i 0
theorem at_of {p : Array Nat} {i : Nat} : at' p i = (p[i]?).getD 0 := by
  show p.getD i 0 = _
  rw [Array.getD_eq_getD_getElem?]
theorem at_rev {p : Array Nat} {i j : Nat} (hj : j ≤ p.size) (k : Nat) : at' (kas_rev p i j) k = if i ≤ k ∧ k < j then at' p (i + j - 1 - k) else at' p k := by
  rw [at_of, at_of, at_of]
  unfold kas_rev
  rw [getElem?_mirror_all hj]
  split <;> rfl
theorem at_bubble {p : Array Nat} {src d : Nat} (hs : src < p.size) (hd : d ≤ src) (k : Nat) : at' (bubble p src d) k = if k = src - d then at' p src else if src - d < k ∧ k ≤ src then at' p (k - 1) else at' p k := by
  rw [at_of, at_of, at_of, at_of, getElem?_bubble hs d hd]
  split
  · rfl
  · split <;> rfl
section
variable (key : Nat → Int)
noncomputable def lt2 (a b : Nat) : Prop := key a < key b ∨ (key a = key b ∧ a < b)
noncomputable def ltB (a b : Nat) : Bool := decide (key a < key b)
structure Sh (p : Array Nat) (N m : Nat) : Prop where
  sz : p.size = N
  pm : p.Perm (List.toArray (List.range N))
  low : ∀ i, i < m → at' p i < m
  high : ∀ i, m ≤ i → i < N → at' p i = i
noncomputable def Up (p : Array Nat) (m : Nat) : Prop := ∀ i j, i < j → j < m → lt2 key (at' p i) (at' p j)
variable {key}
structure AscOut (key : Nat → Int) (p : Array Nat) (N n m : Nat) : Prop where
  le : n ≤ m
  sh : Sh p N m
  hN : m ≤ N
  up : Up key p m
  nx : m < N → key (at' p m) < key (at' p (m - 1))
theorem asc_eq (lt : Nat → Nat → Bool) (p : Array Nat) (f n : Nat) : kRun lt (kas_asc p (f + 1) n) = if lt (at' p n) (at' p (n - 1)) = true then n else kRun lt (kas_asc p f (n + 1)) := by
  show kRun lt (if lt (at' p n) (at' p (n - 1)) = true then KasT.ret n else kas_asc p f (n + 1)) = _
  split <;> rfl
theorem asc_run {p : Array Nat} {N : Nat} : ∀ (f n : Nat), n + f = N → 1 ≤ n → Sh p N n → Up key p n → AscOut key p N n (kRun (ltB key) (kas_asc p f n))
  | 0, n, hf, h1, hs, hu => ⟨Nat.le_refl _, hs, by show n ≤ N; (exact Nat.le_of_eq (by assumption)), hu, fun h => by have : n < N := h; (first | lia | omega)⟩
  | f + 1, n, hf, h1, hs, hu => by
    rw [asc_eq]
    by_cases hc : ltB key (at' p n) (at' p (n - 1)) = true
    · rw [if_pos hc]
      exact ⟨Nat.le_refl _, hs, by (first | lia | omega), hu, fun _ => of_decide_eq_true hc⟩
    · rw [if_neg hc]
      have hc' : ¬ key (at' p n) < key (at' p (n - 1)) := fun q => hc (decide_eq_true q)
      have hn : at' p n = n := hs.high n (Nat.le_refl _) (by (first | lia | omega))
      have h2 : Sh p N (n + 1) := ⟨hs.sz, hs.pm, fun i hi => by
        by_cases e : i = n
        · subst e; rw [hn]; (assumption)
        · have := hs.low i (by (first | lia | omega)); (exact Nat.lt_succ_of_lt (by assumption)), fun i hi hi2 => hs.high i (by (exact Nat.le_of_lt (by assumption))) hi2⟩
      have := asc_run f (n + 1) (by (first | lia | omega)) (by (exact Nat.lt_succ_of_lt (by assumption))) h2 fun i j hij hj => by
        by_cases e : j = n
        · subst e
          have hlow := hs.low i hij
          rw [hn] at hc' ⊢
          by_cases e2 : i = j - 1
          · subst e2
            unfold lt2; (first | lia | omega)
          · have := hu i (j - 1) (by (first | lia | omega)) (by (first | lia | omega))
            unfold lt2 at this ⊢; (first | lia | omega)
        · exact hu i j hij (by (first | lia | omega))
      exact ⟨by have := this.le; (exact Nat.le_of_lt (by assumption)), this.sh, this.hN, this.up, this.nx⟩
structure Dn (key : Nat → Int) (p : Array Nat) (N n q : Nat) : Prop where
  sh : Sh p N n
  hq : q + 1 ≤ n
  hn : n ≤ N
  blk : ∀ i j, n - (q + 1) ≤ i → i < j → j < n → key (at' p i) = key (at' p j) ∧ at' p i < at' p j
  rs : ∀ i j, i < n - (q + 1) → i < j → j < n → (key (at' p j) < key (at' p i) ∨ (j < n - (q + 1) ∧ key (at' p i) = key (at' p j) ∧ at' p j < at' p i))
theorem Sh.rev {p : Array Nat} {N n b : Nat} (h : Sh p N n) (hn : n ≤ N) : Sh (kas_rev p b n) N n := by
  refine ⟨(kas_rev_size _ _).trans h.sz, (mirror_perm _ _ _ _).trans h.pm, fun i hi => ?_, fun i hi hi2 => ?_⟩
  · rw [at_rev (by rw [h.sz]; exact hn)]
    split
    · exact h.low _ (by (clear hi hn h; omega))
    · exact h.low _ hi
  · rw [at_rev (by rw [h.sz]; exact hn), if_neg (by (first | lia | omega))]
    exact h.high i hi hi2
/-- the last block turned -/
noncomputable def turned (p : Array Nat) (n q : Nat) : Array Nat := if q > 0 then kas_rev p (n - (q + 1)) n else p
theorem Dn.turn {p : Array Nat} {N n q : Nat} (d : Dn key p N n q) : Sh (turned p n q) N n ∧ ∀ i j, i < j → j < n → (key (at' (turned p n q) j) < key (at' (turned p n q) i)) ∨ (key (at' (turned p n q) i) = key (at' (turned p n q) j) ∧ at' (turned p n q) j < at' (turned p n q) i) := by
  have hsh : Sh (turned p n q) N n := by
    unfold turned
    split
    · exact d.sh.rev d.hn
    · exact d.sh
  have hat : ∀ k, at' (turned p n q) k = if n - (q + 1) ≤ k ∧ k < n then at' p (n - (q + 1) + n - 1 - k) else at' p k := fun k => by
    unfold turned
    split
    · exact at_rev (by rw [d.sh.sz]; exact d.hn) k
    · split
      · congr 1; (omega)
      · rfl
  refine ⟨hsh, fun i j hij hj => ?_⟩
  have hq := d.hq
  rw [hat i, hat j]
  by_cases hi : n - (q + 1) ≤ i
  · rw [if_pos (⟨by (first | lia | omega), hj⟩ : n - (q + 1) ≤ j ∧ j < n), if_pos (⟨hi, by (exact Nat.lt_trans (by assumption) (by assumption))⟩ : n - (q + 1) ≤ i ∧ i < n)]
    have := d.blk (n - (q + 1) + n - 1 - j) (n - (q + 1) + n - 1 - i) (by (clear hi hq hij hat hsh d; omega)) (by (omega)) (by (clear hq hij hat hsh d; omega))
    exact .inr ⟨this.1.symm, this.2⟩
  · rw [if_neg (by (first | lia | omega) : ¬ (n - (q + 1) ≤ i ∧ i < n))]
    by_cases hj2 : n - (q + 1) ≤ j
    · rw [if_pos (⟨hj2, hj⟩ : n - (q + 1) ≤ j ∧ j < n)]
      rcases d.rs i (n - (q + 1) + n - 1 - j) (by (exact Nat.not_le.mp (by assumption))) (by (clear hj2 hq hij hat hsh d; omega)) (by (clear hi hq hij hat hsh d; omega)) with h | h
      · exact .inl h
      · (clear hj2 hi hq hj hij hat hsh d; omega)
    · rw [if_neg (by (first | lia | omega) : ¬ (n - (q + 1) ≤ j ∧ j < n))]
      rcases d.rs i j (by (exact Nat.not_le.mp (by assumption))) hij hj with h | h
      · exact .inl h
      · exact .inr h.2
theorem desc_eq (lt : Nat → Nat → Bool) (f : Nat) (p : Array Nat) (n q : Nat) : kRun lt (kas_desc (f + 1) p n q) = if lt (at' p n) (at' p (n - 1)) = true then kRun lt (kas_desc f (turned p n q) (n + 1) 0) else if lt (at' p (n - 1)) (at' p n) = true then (p, n, q) else kRun lt (kas_desc f p (n + 1) (q + 1)) := by
  show kRun lt (if lt (at' p n) (at' p (n - 1)) = true then (if q > 0 then kas_desc f (kas_rev p (n - (q + 1)) n) (n + 1) 0 else kas_desc f p (n + 1) 0)
    else .ask (p.getD (n - 1) 0) (p.getD n 0) fun d => if d = true then .ret (p, n, q) else kas_desc f p (n + 1) (q + 1)) = _
  unfold turned
  split
  · split <;> rfl
  · show kRun lt (if lt (at' p (n - 1)) (at' p n) = true then KasT.ret (p, n, q) else kas_desc f p (n + 1) (q + 1)) = _
    split <;> rfl
theorem desc_run {N : Nat} : ∀ (f : Nat) (p : Array Nat) (n q : Nat), n + f = N → Dn key p N n q → Dn key (kRun (ltB key) (kas_desc f p n q)).1 N (kRun (ltB key) (kas_desc f p n q)).2.1 (kRun (ltB key) (kas_desc f p n q)).2.2
  | 0, p, n, q, hf, d => d
  | f + 1, p, n, q, hf, d => by
    rw [desc_eq]
    have hq := d.hq
    have hnn : at' p n = n := d.sh.high n (Nat.le_refl _) (by (first | lia | omega))
    by_cases hc : ltB key (at' p n) (at' p (n - 1)) = true
    · rw [if_pos hc]
      have hc' : key (at' p n) < key (at' p (n - 1)) := of_decide_eq_true hc
      obtain ⟨hs, ht⟩ := d.turn
      have hn2 : at' (turned p n q) n = n := hs.high n (Nat.le_refl _) (by (first | lia | omega))
      have low : ∀ i, i < n → key (at' p (n - 1)) ≤ key (at' (turned p n q) i) := fun i hi => by
        have hall : ∀ k, k < n → key (at' p (n - 1)) ≤ key (at' p k) := fun k hk => by
          by_cases e : k = n - 1
          · rw [e]; exact Int.le_refl _
          · by_cases e2 : n - (q + 1) ≤ k
            · have := (d.blk k (n - 1) e2 (by (first | lia | omega)) (by (first | lia | omega))).1; (first | lia | omega)
            · rcases d.rs k (n - 1) (by (exact Nat.not_le.mp (by assumption))) (by (first | lia | omega)) (by (clear e2 e hk hi hn2 ht hs hc' hc hnn d hf; omega)) with h | h
              · (exact Int.le_of_lt (by assumption))
              · (first | lia | omega)
        unfold turned
        split
        · rw [at_rev (by rw [d.sh.sz]; exact d.hn)]
          split
          · exact hall _ (by (clear hall hi hn2 ht hs hc' hc hnn hq d hf; omega))
          · exact hall _ hi
        · exact hall _ hi
      refine desc_run f _ (n + 1) 0 (by (first | lia | omega)) ⟨⟨hs.sz, hs.pm, fun i hi => ?_, fun i hi hi2 => hs.high i (by (exact Nat.le_of_lt (by assumption))) hi2⟩, by (exact Nat.zero_lt_succ _), by (first | lia | omega), fun i j hi hij hj => by (first | lia | omega), fun i j hi hij hj => ?_⟩
      · by_cases e : i = n
        · subst e; rw [hn2]; (assumption)
        · have := hs.low i (by (first | lia | omega)); (exact Nat.lt_succ_of_lt (by assumption))
      · by_cases e : j = n
        · subst e
          left
          rw [hn2]
          have := low i hij
          rw [hnn] at hc'
          (exact Int.le_trans (by assumption) (by assumption))
        · rcases ht i j hij (by (first | lia | omega)) with h | h
          · exact .inl h
          · exact .inr ⟨by (first | lia | omega), h⟩
    · rw [if_neg hc]
      have hc' : ¬ key (at' p n) < key (at' p (n - 1)) := fun q => hc (decide_eq_true q)
      by_cases hd : ltB key (at' p (n - 1)) (at' p n) = true
      · rw [if_pos hd]
        exact d
      · rw [if_neg hd]
        have hd' : ¬ key (at' p (n - 1)) < key (at' p n) := fun q => hd (decide_eq_true q)
        have e0 : n + 1 - (q + 1 + 1) = n - (q + 1) := by (first | lia | omega)
        refine desc_run f p (n + 1) (q + 1) (by (first | lia | omega)) ⟨⟨d.sh.sz, d.sh.pm, fun i hi => ?_, fun i hi hi2 => d.sh.high i (by (exact Nat.le_of_lt (by assumption))) hi2⟩, by (exact Nat.lt_succ_of_le (by assumption)), by (first | lia | omega), fun i j hi hij hj => ?_, fun i j hi hij hj => ?_⟩
        · by_cases e : i = n
          · subst e; rw [hnn]; (assumption)
          · have := d.sh.low i (by (first | lia | omega)); (exact Nat.lt_succ_of_lt (by assumption))
        · rw [e0] at hi
          by_cases e : j = n
          · subst e
            have hlow := d.sh.low i hij
            rw [hnn] at hc' hd' ⊢
            by_cases e2 : i = j - 1
            · subst e2; (first | lia | omega)
            · have := d.blk i (j - 1) hi (by (first | lia | omega)) (by (clear e2 hlow hj hi e0 hd' hd hc' hc hnn hq d hf; omega))
              (first | lia | omega)
          · exact d.blk i j hi hij (by (first | lia | omega))
        · rw [e0] at hi ⊢
          by_cases e : j = n
          · subst e
            left
            rcases d.rs i (j - 1) hi (by (clear hj e0 hd' hd hc' hc hnn hq d hf hij; omega)) (by (clear hj hi e0 hd' hd hc' hc hnn hq d hf; omega)) with h | h
            · (clear hj hi e0 hd hc' hc hnn hq d hf hij; lia)
            · (clear hj hi e0 hd' hd hc' hc hnn hq d hf hij; omega)
          · exact d.rs i j hi hij (by (first | lia | omega))
end
end Mine
end

section
set_option genInjectivity false
set_option genSizeOf false
set_option genSizeOfSpec false
set_option maxRecDepth 100000
set_option linter.unusedVariables false
set_option tactic.hygienic false
namespace Mine
open PySem PyProof.Rows PySem.W
section
variable {key : Nat → Int}
structure RunOut (key : Nat → Int) (N : Nat) (r : Nat × Array Nat) : Prop where
  one : 1 ≤ r.1
  le : r.1 ≤ N
  sh : Sh r.2 N r.1
  up : Up key r.2 r.1
theorem tail3_run {p : Array Nat} {N n : Nat} (h1 : 1 ≤ n) (hn : n ≤ N) (hs : Sh p N n) (hr : ∀ i j, i < j → j < n → (key (at' p j) < key (at' p i)) ∨ (key (at' p i) = key (at' p j) ∧ at' p j < at' p i)) : RunOut key N (kRun (ltB key) (kas_tail3 n N p)) := by
  unfold kas_tail3
  rw [kRun_bind]
  have hsr : Sh (kas_rev p 0 n) N n := hs.rev hn
  have hup : Up key (kas_rev p 0 n) n := fun i j hij hj => by
    rw [at_rev (by rw [hs.sz]; exact hn), at_rev (by rw [hs.sz]; exact hn), if_pos (⟨Nat.zero_le _, by (exact Nat.lt_trans (by assumption) (by assumption))⟩ : 0 ≤ i ∧ i < n), if_pos (⟨Nat.zero_le _, hj⟩ : 0 ≤ j ∧ j < n)]
    rcases hr (0 + n - 1 - j) (0 + n - 1 - i) (by (clear hsr hr hs hn h1; omega)) (by (clear hj hij hsr hr hs hn; omega)) with h | h
    · exact .inl h
    · exact .inr ⟨h.1.symm, h.2⟩
  have := asc_run (N - n) n (by (first | lia | omega)) h1 hsr hup
  exact ⟨by have := this.le; show 1 ≤ kRun _ _; (exact Nat.le_trans (by assumption) (by assumption)), this.hN, this.sh, this.up⟩
theorem descPart_run {p : Array Nat} {N n : Nat} (h1 : 1 ≤ n) (hn : n < N) (hs : Sh p N n) (hr : ∀ i j, i < j → j < n → key (at' p i) = key (at' p j) ∧ at' p j < at' p i) (hlt : key (at' p n) < key (at' p (n - 1))) : RunOut key N (kRun (ltB key) (kas_descPart n N p)) := by
  unfold kas_descPart
  rw [kRun_bind]
  have hnn : at' p n = n := hs.high n (Nat.le_refl _) hn
  have hd : Dn key p N (n + 1) 0 := by
    refine ⟨⟨hs.sz, hs.pm, fun i hi => ?_, fun i hi hi2 => hs.high i (by (exact Nat.le_of_lt (by assumption))) hi2⟩, by (exact Nat.lt_succ_of_lt (by assumption)), by (assumption), fun i j hi hij hj => by (first | lia | omega), fun i j hi hij hj => ?_⟩
    · by_cases e : i = n
      · subst e; rw [hnn]; (assumption)
      · have := hs.low i (by (first | lia | omega)); (exact Nat.lt_succ_of_lt (by assumption))
    · by_cases e : j = n
      · subst e
        left
        by_cases e2 : i = j - 1
        · subst e2; exact hlt
        · have := (hr i (j - 1) (by (first | lia | omega)) (by (first | lia | omega))).1; (first | lia | omega)
      · exact .inr ⟨by (first | lia | omega), hr i j hij (by (first | lia | omega))⟩
  have hd' := desc_run (N - (n + 1)) p (n + 1) 0 (by (clear hd hnn hlt hr hs h1; omega)) hd
  generalize kRun (ltB key) (kas_desc (N - (n + 1)) p (n + 1) 0) = r at hd'
  obtain ⟨hs', ht'⟩ := hd'.turn
  have hq := hd'.hq
  have e : kRun (ltB key) (if r.2.2 > 0 then kas_tail3 r.2.1 N (kas_rev r.1 (r.2.1 - (r.2.2 + 1)) r.2.1) else kas_tail3 r.2.1 N r.1) = kRun (ltB key) (kas_tail3 r.2.1 N (turned r.1 r.2.1 r.2.2)) := by
    unfold turned
    split <;> rfl
  rw [e]
  exact tail3_run (by (exact Nat.zero_lt_of_lt (by assumption))) hd'.hn hs' ht'
theorem id_at {N i : Nat} (h : i < N) : at' (List.toArray (List.range N)) i = i := by
  rw [at_of]
  simp [h]
theorem id_sh (N m : Nat) (hm : m ≤ N) : Sh (List.toArray (List.range N)) N m :=
  ⟨by simp, .refl _, fun i hi => by rw [id_at (by (exact Nat.le_trans (by assumption) (by assumption)))]; exact hi, fun i _ h2 => id_at h2⟩
theorem count_run {N : Nat} (hN : 1 ≤ N) : RunOut key N (kRun (ltB key) (kas_count N (List.toArray (List.range N)))) := by
  unfold kas_count
  rw [kRun_bind]
  have ha := asc_run (key := key) (p := List.toArray (List.range N)) (N := N) (N - 1) 1 (by (first | lia | omega)) (Nat.le_refl _) (id_sh N 1 hN) fun i j hij hj => by (first | lia | omega)
  generalize kRun (ltB key) (kas_asc (List.toArray (List.range N)) (N - 1) 1) = m at ha
  have h1 := ha.le
  have hsz : (List.toArray (List.range N)).size = N := by simp
  by_cases e1 : (m == N) = true
  · rw [if_pos e1]
    exact ⟨h1, ha.hN, ha.sh, ha.up⟩
  · rw [if_neg e1]
    have hmN : m < N := by
      have : m ≠ N := fun q => e1 (by rw [q]; exact beq_self_eq_true _)
      have := ha.hN
      (clear e1 hsz h1 ha hN; lia)
    by_cases e2 : m > 1
    · rw [if_pos e2]
      show RunOut key N (kRun (ltB key) (if ltB key (at' (List.toArray (List.range N)) 0) (at' (List.toArray (List.range N)) (m - 1)) = true then KasT.ret (m, List.toArray (List.range N)) else kas_descPart m N (kas_rev (List.toArray (List.range N)) 0 m)))
      by_cases hc : ltB key (at' (List.toArray (List.range N)) 0) (at' (List.toArray (List.range N)) (m - 1)) = true
      · rw [if_pos hc]
        exact ⟨h1, ha.hN, ha.sh, ha.up⟩
      · rw [if_neg hc]
        have hc' : ¬ key (at' (List.toArray (List.range N)) 0) < key (at' (List.toArray (List.range N)) (m - 1)) := fun q => hc (decide_eq_true q)
        have up : ∀ i j, i ≤ j → j < m → key (at' (List.toArray (List.range N)) i) ≤ key (at' (List.toArray (List.range N)) j) := fun i j hij hj => by
          by_cases e : i = j
          · rw [e]; exact Int.le_refl _
          · have := ha.up i j (by (first | lia | omega)) hj
            unfold lt2 at this; (first | lia | omega)
        have hall : ∀ i, i < m → key (at' (List.toArray (List.range N)) i) = key (at' (List.toArray (List.range N)) 0) := fun i hi => by
          have := up 0 i (by (exact Nat.zero_le _)) hi
          have := up i (m - 1) (by (first | lia | omega)) (by (clear this hi up hc' hc e2 hmN e1 hsz ha hN; omega))
          (first | lia | omega)
        have hrev : ∀ k, at' (kas_rev (List.toArray (List.range N)) 0 m) k = if 0 ≤ k ∧ k < m then at' (List.toArray (List.range N)) (0 + m - 1 - k) else at' (List.toArray (List.range N)) k := fun k => at_rev (by rw [hsz]; exact ha.hN) k
        refine descPart_run h1 hmN (ha.sh.rev ha.hN) (fun i j hij hj => ?_) ?_
        · have ei : at' (kas_rev (List.toArray (List.range N)) 0 m) i = 0 + m - 1 - i := by rw [hrev, if_pos (⟨Nat.zero_le _, by (exact Nat.lt_trans (by assumption) (by assumption))⟩ : 0 ≤ i ∧ i < m), id_at (by (clear hj hij hrev hall up hc' hc e2 e1 hsz h1 ha hN; omega))]
          have ej : at' (kas_rev (List.toArray (List.range N)) 0 m) j = 0 + m - 1 - j := by rw [hrev, if_pos (⟨Nat.zero_le _, hj⟩ : 0 ≤ j ∧ j < m), id_at (by (clear ei hj hij hrev hall up hc' hc e2 e1 hsz h1 ha hN; omega))]
          have a1 := hall (0 + m - 1 - i) (by (clear ej ei hj hij hrev hall up hc' hc e2 hmN e1 hsz ha hN; omega))
          have a2 := hall (0 + m - 1 - j) (by (clear a1 ej ei hj hij hrev hall up hc' hc e2 hmN e1 hsz ha hN; omega))
          rw [id_at (by (clear a2 a1 ej ei hj hij hrev hall up hc' hc e2 e1 hsz h1 ha hN; omega))] at a1 a2
          rw [ei, ej]
          exact ⟨a1.trans a2.symm, by (clear a2 a1 ej ei hrev hall up hc' hc e2 hmN e1 hsz h1 ha hN; omega)⟩
        · have em : at' (kas_rev (List.toArray (List.range N)) 0 m) m = at' (List.toArray (List.range N)) m := by rw [hrev, if_neg (fun q => Nat.lt_irrefl _ q.2)]
          have em1 : at' (kas_rev (List.toArray (List.range N)) 0 m) (m - 1) = at' (List.toArray (List.range N)) 0 := by
            rw [hrev, if_pos (⟨Nat.zero_le _, by (clear em hrev hall up hc' hc e2 hmN e1 hsz ha hN; omega)⟩ : 0 ≤ m - 1 ∧ m - 1 < m)]
            congr 1; (first | lia | omega)
          rw [em, em1, ← hall (m - 1) (by (clear em1 em hrev hall up hc' hc e2 hmN e1 hsz ha hN; omega))]
          exact ha.nx hmN
    · rw [if_neg e2]
      have hm1 : m = 1 := by (first | lia | omega)
      subst hm1
      exact descPart_run (Nat.le_refl _) hmN ha.sh (fun i j hij hj => by (first | lia | omega)) (ha.nx hmN)
theorem place_run {p : Array Nat} {k : Nat} : ∀ (f l r : Nat), r ≤ k → r ≤ l + f → (∀ i, i < l → ¬ key (at' p k) < key (at' p i)) → (∀ i, r ≤ i → i < k → key (at' p k) < key (at' p i)) → (∀ i j, i ≤ j → j < k → key (at' p i) ≤ key (at' p j)) → l ≤ r →
    (kRun (ltB key) (kas_place p k f l r)) ≤ k ∧ (∀ i, i < kRun (ltB key) (kas_place p k f l r) → ¬ key (at' p k) < key (at' p i)) ∧ ∀ i, kRun (ltB key) (kas_place p k f l r) ≤ i → i < k → key (at' p k) < key (at' p i)
  | 0, l, r, hr, hf, hl, hg, hm, hlr => by
    have : l = r := by (first | lia | omega)
    subst this
    exact ⟨hr, hl, hg⟩
  | f + 1, l, r, hr, hf, hl, hg, hm, hlr => by
    unfold kas_place
    by_cases e : l ≥ r
    · rw [if_pos e]
      have : l = r := by (first | lia | omega)
      subst this
      exact ⟨hr, hl, hg⟩
    · rw [if_neg e]
      have e' : kRun (ltB key) (KasT.ask (p.getD k 0) (p.getD ((l + r) / 2) 0) fun c => if c = true then kas_place p k f l ((l + r) / 2) else kas_place p k f ((l + r) / 2 + 1) r) = kRun (ltB key) (if ltB key (at' p k) (at' p ((l + r) / 2)) = true then kas_place p k f l ((l + r) / 2) else kas_place p k f ((l + r) / 2 + 1) r) := rfl
      rw [e']
      by_cases hc : ltB key (at' p k) (at' p ((l + r) / 2)) = true
      · rw [if_pos hc]
        have hc' : key (at' p k) < key (at' p ((l + r) / 2)) := of_decide_eq_true hc
        exact place_run f l ((l + r) / 2) (by (clear hc' hc e' e hm hg hl hf; lia)) (by (first | lia | omega)) hl (fun i hi hik => by have := hm ((l + r) / 2) i hi hik; (exact Int.le_trans (by assumption) (by assumption))) hm (by (clear hc' hc e' e hm hg hl hf hr; lia))
      · rw [if_neg hc]
        have hc' : ¬ key (at' p k) < key (at' p ((l + r) / 2)) := fun q => hc (decide_eq_true q)
        exact place_run f ((l + r) / 2 + 1) r hr (by (first | lia | omega)) (fun i hi => by have := hm i ((l + r) / 2) (by (exact Nat.le_of_lt_succ (by assumption))) (by (first | lia | omega)); (clear hi hc e' e hlr hm hg hl hf hr; lia)) hg hm (by (clear hc' hc e' hlr hm hg hl hf hr; lia))
theorem bin_run {N : Nat} : ∀ (f : Nat) (p : Array Nat) (k : Nat), k + f = N → Sh p N k → Up key p k → Sh (kRun (ltB key) (kas_bin f p k)) N N ∧ Up key (kRun (ltB key) (kas_bin f p k)) N
  | 0, p, k, hf, hs, hu => by
    have : k = N := by (assumption)
    subst this
    exact ⟨hs, hu⟩
  | f + 1, p, k, hf, hs, hu => by
    show Sh (kRun (ltB key) ((kas_place p k k 0 k).bind fun l => kas_bin f (bubble p k (k - l)) (k + 1))) N N ∧ Up key (kRun (ltB key) ((kas_place p k k 0 k).bind fun l => kas_bin f (bubble p k (k - l)) (k + 1))) N
    rw [kRun_bind]
    have mono : ∀ i j, i ≤ j → j < k → key (at' p i) ≤ key (at' p j) := fun i j hij hj => by
      by_cases e : i = j
      · rw [e]; exact Int.le_refl _
      · have := hu i j (by (first | lia | omega)) hj
        unfold lt2 at this; (first | lia | omega)
    obtain ⟨h1, h2, h3⟩ := place_run (key := key) (p := p) (k := k) k 0 k (Nat.le_refl _) (by (exact Nat.le_add_left _ _)) (fun i hi => by (first | lia | omega)) (fun i hi hik => by (first | lia | omega)) mono (Nat.zero_le _)
    generalize kRun (ltB key) (kas_place p k k 0 k) = l at h1 h2 h3
    have hks : k < p.size := by rw [hs.sz]; (first | lia | omega)
    have hkk : at' p k = k := hs.high k (Nat.le_refl _) (by (first | lia | omega))
    have hb : ∀ i, at' (bubble p k (k - l)) i = if i = k - (k - l) then at' p k else if k - (k - l) < i ∧ i ≤ k then at' p (i - 1) else at' p i := fun i => at_bubble hks (by (exact Nat.sub_le _ _)) i
    refine bin_run f _ (k + 1) (by (first | lia | omega)) ⟨(bubble_size _ _ _).trans hs.sz, (bubble_perm _ _ _).trans hs.pm, fun i hi => ?_, fun i hi hi2 => ?_⟩ fun i j hij hj => ?_
    · rw [hb]
      split
      · rw [hkk]; (exact Nat.le_refl _)
      · split
        · have := hs.low (i - 1) (by (clear hi hb hkk hks h3 h2 h1 mono hu hs hf; omega)); (exact Nat.lt_succ_of_lt (by assumption))
        · have := hs.low i (by (clear hb hkk hks h3 h2 h1 mono hu hs hf; lia)); (exact Nat.lt_succ_of_lt (by assumption))
    · rw [hb, if_neg (by (clear hi2 hb hkk hks h3 h2 h1 mono hu hs hf; omega)), if_neg (by (first | lia | omega))]
      exact hs.high i (by (exact Nat.le_of_lt (by assumption))) hi2
    · rw [hb, hb]
      have e : k - (k - l) = l := by (clear hj hij hb hkk hks h3 h2 mono hu hs hf; lia)
      rw [e]
      by_cases a1 : i = l
      · rw [if_pos a1, if_neg (by (clear e hj hb hkk hks h3 h2 h1 mono hu hs hf; lia)), if_pos (by (first | lia | omega))]
        exact .inl (h3 (j - 1) (by (clear e hj hb hkk hks h3 h2 h1 mono hu hs hf; omega)) (by (clear a1 e hb hkk hks h3 h2 h1 mono hu hs hf; lia)))
      · rw [if_neg a1]
        by_cases a2 : l < i ∧ i ≤ k
        · rw [if_pos a2, if_neg (by (first | lia | omega)), if_pos (by (first | lia | omega))]
          exact hu (i - 1) (j - 1) (by (clear a1 e hj hb hkk hks h3 h2 h1 mono hu hs hf; omega)) (by (clear a2 a1 e hb hkk hks h3 h2 h1 mono hu hs hf; lia))
        · rw [if_neg a2]
          by_cases a3 : j = l
          · rw [if_pos a3]
            have := h2 i (by (first | lia | omega))
            have := hs.low i (by (clear this a3 a2 a1 e hb hkk hks h3 h2 h1 mono hu hs hf; lia))
            unfold lt2
            rw [hkk] at *
            (first | lia | omega)
          · rw [if_neg a3]
            by_cases a4 : l < j ∧ j ≤ k
            · rw [if_pos a4]
              by_cases a5 : i = j - 1
              · (first | lia | omega)
              · exact hu i (j - 1) (by (first | lia | omega)) (by (clear a5 a4 a3 a2 a1 e hb hkk hks h3 h2 h1 mono hu hs hf; lia))
            · rw [if_neg a4]
              exact hu i j hij (by (clear a2 a1 e hij hb hkk hks h3 h2 mono hu hs hf; lia))
/-- the sort is stable -/
theorem sort_stable {N : Nat} (hN : 1 ≤ N) : (kRun (ltB key) (kas_sort N)).toList.Perm (List.range N) ∧ (kRun (ltB key) (kas_sort N)).toList.Pairwise (lt2 key) := by
  unfold kas_sort
  rw [kRun_bind]
  have hc := count_run (key := key) hN
  generalize kRun (ltB key) (kas_count N (List.toArray (List.range N))) = r at hc
  have hone := hc.one
  have fin : ∀ p : Array Nat, Sh p N N → Up key p N → p.toList.Perm (List.range N) ∧ p.toList.Pairwise (lt2 key) := fun p hs hu => by
    refine ⟨by simpa using Array.perm_iff_toList_perm.mp hs.pm, List.pairwise_iff_getElem.mpr fun i j hi hj hij => ?_⟩
    have hi' : i < p.size := by simpa using hi
    have hj' : j < p.size := by simpa using hj
    have := hu i j hij (by rw [← hs.sz]; exact hj')
    rw [at_of, at_of, Array.getElem?_eq_getElem hi', Array.getElem?_eq_getElem hj'] at this
    simpa using this
  by_cases h : r.1 < N
  · rw [if_pos h]
    have e : max r.1 1 = r.1 := by (first | lia | omega)
    rw [e]
    obtain ⟨h1, h2⟩ := bin_run (key := key) (N - r.1) r.2 r.1 (by (clear e fin hone hc hN; lia)) hc.sh hc.up
    exact fin _ h1 h2
  · rw [if_neg h]
    have e : r.1 = N := by have := hc.le; (first | lia | omega)
    have h1 := hc.sh
    have h2 := hc.up
    rw [e] at h1 h2
    exact fin _ h1 h2
end
end Mine
end

section
set_option genInjectivity false
set_option genSizeOf false
set_option genSizeOfSpec false
set_option maxRecDepth 100000
set_option linter.unusedVariables false
set_option tactic.hygienic false
namespace Mine
open PySem PySem.Calls PyProof.Rows PySem.W PySem.SeqAt
/-! asks within the bounds -/
noncomputable def OkP {α : Type} (N : Nat) (P : α → Prop) : KasT α → Prop
  | .ret a => P a
  | .ask i j k => i < N ∧ j < N ∧ ∀ b, OkP N P (k b)
theorem OkP.bind {α β : Type} {N : Nat} {f : α → KasT β} {P : α → Prop} {R : β → Prop} (hf : ∀ a, P a → OkP N R (f a)) : ∀ t : KasT α, OkP N P t → OkP N R (t.bind f)
  | .ret a, h => hf a h
  | .ask i j k, ⟨h1, h2, h3⟩ => ⟨h1, h2, fun b => OkP.bind hf (k b) (h3 b)⟩
noncomputable def AllLt (N : Nat) (p : Array Nat) : Prop := 0 < N ∧ ∀ x ∈ p.toList, x < N
theorem AllLt.at {N : Nat} {p : Array Nat} (h : AllLt N p) (i : Nat) : p.getD i 0 < N := by
  show at' p i < N
  rw [at_of]
  cases q : p[i]? with
  | none => exact h.1
  | some v => exact h.2 v (by simpa using Array.mem_of_getElem? q)
theorem AllLt.perm {N : Nat} {p q : Array Nat} (h : AllLt N p) (e : q.Perm p) : AllLt N q := ⟨h.1, fun x hx => h.2 x ((Array.perm_iff_toList_perm.mp e).mem_iff.mp hx)⟩
theorem AllLt.rev {N : Nat} {p : Array Nat} (h : AllLt N p) (i j : Nat) : AllLt N (kas_rev p i j) := h.perm (mirror_perm _ _ _ _)
theorem AllLt.bub {N : Nat} {p : Array Nat} (h : AllLt N p) (i j : Nat) : AllLt N (bubble p i j) := h.perm (bubble_perm _ _ _)
theorem ok_asc {N : Nat} {p : Array Nat} (h : AllLt N p) : ∀ f n, OkP N (fun _ => True) (kas_asc p f n)
  | 0, n => trivial
  | f + 1, n => ⟨h.at _, h.at _, fun b => by
      cases b with
      | true => exact trivial
      | false => exact ok_asc h f (n + 1)⟩
theorem ok_desc {N : Nat} : ∀ f (p : Array Nat) n q, AllLt N p → OkP N (fun r => AllLt N r.1) (kas_desc f p n q)
  | 0, p, n, q, h => h
  | f + 1, p, n, q, h => ⟨h.at _, h.at _, fun b => by
      cases b with
      | true =>
        show OkP N _ (if q > 0 then kas_desc f (kas_rev p (n - (q + 1)) n) (n + 1) 0 else kas_desc f p (n + 1) 0)
        split
        · exact ok_desc f _ _ _ (h.rev _ _)
        · exact ok_desc f _ _ _ h
      | false => exact ⟨h.at _, h.at _, fun d => by
          cases d with
          | true => exact h
          | false => exact ok_desc f _ _ _ h⟩⟩
theorem ok_tail3 {N : Nat} {p : Array Nat} (h : AllLt N p) (n m : Nat) : OkP N (fun r => AllLt N r.2) (kas_tail3 n m p) :=
  OkP.bind (f := fun m => .ret (m, kas_rev p 0 n)) (R := fun r => AllLt N r.2) (fun a _ => h.rev _ _) _ (ok_asc (h.rev _ _) _ _)
theorem ok_descPart {N : Nat} {p : Array Nat} (h : AllLt N p) (n m : Nat) : OkP N (fun r => AllLt N r.2) (kas_descPart n m p) :=
  OkP.bind (fun r hr => by
    show OkP N _ (if r.2.2 > 0 then kas_tail3 r.2.1 m (kas_rev r.1 (r.2.1 - (r.2.2 + 1)) r.2.1) else kas_tail3 r.2.1 m r.1)
    split
    · exact ok_tail3 (hr.rev _ _) _ _
    · exact ok_tail3 hr _ _) _ (ok_desc _ _ _ _ h)
theorem ok_count {N : Nat} {p : Array Nat} (h : AllLt N p) (m : Nat) : OkP N (fun r => AllLt N r.2) (kas_count m p) :=
  OkP.bind (fun n _ => by
    show OkP N _ (if (n == m) = true then .ret (n, p) else if n > 1 then .ask (p.getD 0 0) (p.getD (n - 1) 0) fun c => if c = true then .ret (n, p) else kas_descPart n m (kas_rev p 0 n) else kas_descPart n m p)
    split
    · exact h
    · split
      · exact ⟨h.at _, h.at _, fun c => by
          cases c with
          | true => exact h
          | false => exact ok_descPart (h.rev _ _) _ _⟩
      · exact ok_descPart h _ _) _ (ok_asc h _ _)
theorem ok_place {N : Nat} {p : Array Nat} (h : AllLt N p) (k : Nat) : ∀ f l r, OkP N (fun _ => True) (kas_place p k f l r)
  | 0, l, r => trivial
  | f + 1, l, r => by
    unfold kas_place
    split
    · exact trivial
    · exact ⟨h.at _, h.at _, fun c => by
        cases c with
        | true => exact ok_place h k f _ _
        | false => exact ok_place h k f _ _⟩
theorem ok_bin {N : Nat} : ∀ f (p : Array Nat) k, AllLt N p → OkP N (AllLt N) (kas_bin f p k)
  | 0, p, k, h => h
  | f + 1, p, k, h => OkP.bind (fun l _ => ok_bin f _ _ (h.bub _ _)) _ (ok_place h k _ _ _)
theorem ok_sort {N : Nat} (hN : 0 < N) : OkP N (AllLt N) (kas_sort N) := by
  have h0 : AllLt N (List.toArray (List.range N)) := ⟨hN, fun x hx => by simpa using hx⟩
  refine OkP.bind (fun r hr => ?_) _ (ok_count h0 N)
  show OkP N _ (if r.1 < N then kas_bin (N - max r.1 1) r.2 (max r.1 1) else .ret r.2)
  split
  · exact ok_bin _ _ _ hr
  · exact hr
/-- the tree's run, every ask answered -/
theorem kas_run {α : Type} {N : Nat} {P : α → Prop} {cmp : Nat → Nat → (Bool → Shared → Prop) → Shared → Prop} {lt : Nat → Nat → Bool} {I : Shared → Prop}
    (H : ∀ i j (Q : Bool → Shared → Prop) s, i < N → j < N → I s → (∀ s', I s' → Q (lt i j) s') → cmp i j Q s) : ∀ (t : KasT α) (Q : α → Shared → Prop) (s : Shared), OkP N P t → I s → (∀ s', I s' → Q (kRun lt t) s') → t.kasWp cmp Q s
  | .ret a, Q, s, _, hs, hq => hq s hs
  | .ask i j k, Q, s, ⟨h1, h2, h3⟩, hs, hq => H i j _ s h1 h2 hs fun s' hs' => kas_run H (k (lt i j)) Q s' (h3 _) hs' hq

/-! the list's sort by a key -/
structure Gr (TB : List Addr) (h h' : Heap) : Prop where
  on : ∀ b o, h.get? b = some o → b ∉ TB → (∀ xs n, o.data ≠ .seq xs n) → h'.get? b = some o
  tab : ∀ b ∈ TB, ∀ ps, h.get? b = some (X.tableObj ps) → ∃ more, h'.get? b = some (X.tableObj (ps ++ more))
theorem Kp.gr {TB : List Addr} {h h' : Heap} (x : Kp TB h h') : Gr TB h h' := ⟨fun b o e hb _ => x.keep b o e hb, x.tab⟩
theorem TbOk.gr {TB : List Addr} {h h' : Heap} (t : TbOk TB h) (x : Gr TB h h') : TbOk TB h' := fun b hb => by
  obtain ⟨ps, e⟩ := t b hb
  obtain ⟨m, e⟩ := x.tab b hb ps e
  exact ⟨_, e⟩
theorem gr_same {TB : List Addr} {a : Addr} {h h' : Heap} {xs : Array Value} {c : String} {n : Nat} (x : Heap.SameBut a h h') (e : h.get? a = some (seqObj c xs n)) : Gr TB h h' := ⟨fun b o e' hb hn => (x.2 b fun q => by
  subst q; rw [e] at e'; cases e'; exact hn _ _ rfl).trans e', fun b hb ps e' => ⟨#[], by
    have hne : b ≠ a := fun q => by subst q; rw [e] at e'; cases e'
    rw [x.2 b hne, e']; simp⟩⟩
structure SortBy (C : Cx) (A : Around) (s₀ : Shared) (f : Value) (vs : List Value) (key : Nat → Int) (Key : Heap → Nat → Value → Prop) (T : Value) : Prop where
  make : ∀ i (hi : i < vs.length) (s' : Shared) (Q : Value → Shared → Prop), SK C.TB s₀ s' → (∀ kv s'', SK C.TB s' s'' → Key s''.heap i kv → Q kv s'') → wpAny C.M A (call f [vs[i]]) Q NoE s'
  gr : ∀ h h' i kv, Gr C.TB h h' → Key h i kv → Key h' i kv
  ty : ∀ h i kv, Key h i kv → Looks C.M h (typeOf kv) T
  nt : (T != Value.type "tuple") = true
  tt : (T == T) = true
  cmp : ∀ i j x y (s' : Shared) (Q : Bool → Shared → Prop), i < vs.length → j < vs.length → SK C.TB s₀ s' → Key s'.heap i x → Key s'.heap j y → (∀ s'', SK C.TB s' s'' → Q (ltB key i j) s'') → wpAny C.M A (keyLt' oneType' x y) Q NoE s'
theorem SK.upd {TB : List Addr} {s₀ s : Shared} {h' : Heap} {a : Addr} (k : SK TB s₀ s) (hs : Heap.SameBut a s.heap h') (ha : s₀.heap.get? a = none) : SK TB s₀ { s with heap := h' } := ⟨k.kp.sameBut hs ha, k.os, k.gens⟩
noncomputable def sortedIdx (key : Nat → Int) (n : Nat) : List Nat := (kRun (ltB key) (kas_sort n)).toList
end Mine
end

section
set_option genInjectivity false
set_option genSizeOf false
set_option genSizeOfSpec false
set_option maxRecDepth 100000
set_option linter.unusedVariables false
set_option tactic.hygienic false
namespace Mine
open PySem PySem.Calls PyProof.Rows PySem.W PySem.SeqAt
section
variable {C : Cx} {A : Around} {s₀ : Shared} {f T : Value} {vs : List Value} {key : Nat → Int} {Key : Heap → Nat → Value → Prop} {a kS : Addr}
structure Sorting (C : Cx) (s₀ s : Shared) (a kS : Addr) (e1 e : Nat) (kA : Array Value) : Prop where
  k : SK C.TB s₀ s
  oa : s.heap.get? a = some (seqObj "list" #[] e1)
  ok : s.heap.get? kS = some (seqObj "list" kA e)
  na : s₀.heap.get? a = none
  nk : s₀.heap.get? kS = none
  ne : kS ≠ a
theorem seq_tb {TB : List Addr} {h : Heap} (t : TbOk TB h) {b : Addr} {c : String} {xs : Array Value} {n : Nat} (e : h.get? b = some (seqObj c xs n)) : b ∉ TB := t.apart e fun ⟨ps, q⟩ => by cases q
theorem Sorting.sk {s s' : Shared} {e1 e : Nat} {kA : Array Value} (S : Sorting C s₀ s a kS e1 e kA) (t : TbOk C.TB s₀.heap) (k : SK C.TB s s') : Sorting C s₀ s' a kS e1 e kA :=
  have t' := t.kp S.k.kp
  ⟨S.k.trans k, k.kp.keep _ _ S.oa (seq_tb t' S.oa), k.kp.keep _ _ S.ok (seq_tb t' S.ok), S.na, S.nk, S.ne⟩
theorem sort_end {P : PySem.Fin → Shared → Prop} {s : Shared} {e1 e : Nat} {kA : Array Value} (t : TbOk C.TB s₀.heap) (B : SortBy C A s₀ f vs key Key T) (h2 : 2 ≤ vs.length) (h64 : vs.length < 64) (S : Sorting C s₀ s a kS e1 e kA) (hz : kA.size = vs.length) (hk : ∀ j v, kA[j]? = some v → Key s.heap j v)
    (h : ∀ out c s', SK C.TB s₀ s' → s'.heap.get? a = some (seqObj "list" out c) → out.toList = (sortedIdx key vs.length).map (fun i => vs.getD i .none) → P (.done (.ret .none)) s') : wpAny C.M A (ksk_end a false vs.toArray e1 (.ref kS) kA) P NoE s := by
  unfold ksk_end
  dsimp only
  simp only [Bool.false_eq_true, if_false]
  rw [if_neg (by rw [List.size_toArray]; (exact Nat.not_lt.mpr (by assumption))), if_neg (by rw [List.size_toArray]; (exact Nat.not_lt.mpr (by assumption)))]
  have hkl : kA = kA.toList.toArray := by simp
  have kind : ∀ Q : SortKind → Shared → Prop, Q oneType' s → wpAny C.M A (keyKind' kA) Q NoE s := fun Q hq => by
    rw [hkl]
    refine kas_kind (T := T) (by rw [Array.length_toList, hz]; exact h2) (fun v hv => ?_) B.nt B.tt hq
    obtain ⟨j, hj, e⟩ := List.mem_iff_getElem.mp hv
    exact B.ty _ j _ (hk j v (by rw [← e]; simp))
  refine wpAny_bind (kind _ ?_)
  have hzp : (kA.zip vs.toArray).size = vs.length := by rw [Array.size_zip, hz, List.size_toArray, Nat.min_self]
  have est : SortSt.mk' oneType' (kA.zip vs.toArray) #[] 7 none = kas_st oneType' (kA.zip vs.toArray) (List.toArray (List.range vs.length)) := by
    have e := kas_range (kA.zip vs.toArray)
    rw [hzp] at e
    show SortSt.mk' oneType' (kA.zip vs.toArray) #[] 7 none = SortSt.mk' oneType' ((List.toArray (List.range vs.length)).map (kas_item (kA.zip vs.toArray))) #[] 7 none
    rw [e]
  rw [est]
  have it : ∀ i, i < vs.length → ∃ v, kA[i]? = some v ∧ kas_item (kA.zip vs.toArray) i = (v, vs.getD i .none) := fun i hi => by
    have h1 : i < kA.size := by (first | lia | omega)
    refine ⟨kA[i], Array.getElem?_eq_getElem h1, ?_⟩
    unfold kas_item
    simp [Array.getD, hzp, hi]
  have run := kas_runs (prog := C.prog) (w := C.w) (A := A) (E := NoE) (κ := oneType') (it := kA.zip vs.toArray) (Q := fun _ st' s' => Sorting C s₀ s' a kS e1 e kA ∧ failedOf st' = none ∧ (arrOf st') = (kRun (ltB key) (kas_sort vs.length)).map (kas_item (kA.zip vs.toArray)) ∧ (kRun (ltB key) (kas_sort vs.length)).size = vs.length) (G := fun p s' => p = kRun (ltB key) (kas_sort vs.length) ∧ Sorting C s₀ s' a kS e1 e kA) h2 h64
    (fun p' st' s' a1 a2 a3 a4 => ⟨a4.2, a3, by rw [a2, a4.1], by rw [← a4.1]; exact a1⟩)
    (s := s) (kas_run (N := vs.length) (lt := ltB key) (I := fun s' => Sorting C s₀ s' a kS e1 e kA ∧ ∀ j v, kA[j]? = some v → Key s'.heap j v) (fun i j Q s' hi hj hI hq => ?_) _ _ _ (ok_sort (by (exact Nat.le_of_lt (by assumption)))) ⟨S, hk⟩ fun s' hI => ⟨rfl, hI.1⟩)
  · refine wpAny_bind (wpAny_mono run (fun r s' hr => ?_) fun _ _ e => e)
    obtain ⟨⟨⟩, st'⟩ := r
    obtain ⟨S', hf, har, hsz⟩ := hr
    dsimp only
    unfold ksk_tail
    dsimp only
    refine wpAny_bind (listUpdate_at S'.ok rfl ?_ (by rw [hz, sizeLine_eq]; (first | lia | omega)) (Nat.zero_le _))
    have s1 := Heap.SameBut.update s'.heap kS (Obj.mapSeq fun _ => (#[] : Array Value))
    have oa1 : (s'.heap.update kS (Obj.mapSeq fun _ => (#[] : Array Value))).get? a = some (seqObj "list" #[] e1) := (s1.2 a (Ne.symm S'.ne)).trans S'.oa
    refine wpAny_bind (wpAny_letGo ?_)
    refine wpAny_bind (seqEpoch_at oa1 rfl ?_)
    have hal : ((arrOf st').map (·.2)).size = vs.length := by rw [Array.size_map, har, Array.size_map, hsz]
    refine wpAny_bind (listUpdate_at oa1 rfl ?_ (Nat.zero_le _) (by simp only [Bool.false_eq_true, if_false]; rw [hal, sizeLine_eq]; (first | lia | omega)))
    rw [hf]
    simp only [bne_self_eq_false, Bool.false_eq_true, if_false]
    have s2 := Heap.SameBut.update (s'.heap.update kS (Obj.mapSeq fun _ => (#[] : Array Value))) a (Obj.mapSeq fun _ => (arrOf st').map (·.2))
    refine wpAny_pure (h ((arrOf st').map (·.2)) _ _ ((S'.k.upd s1 S'.nk).upd (s := { s' with heap := _ }) s2 S'.na) (get?_update_seq oa1 _) ?_)
    rw [har, Array.map_map, Array.toList_map]
    unfold sortedIdx
    apply List.map_congr_left
    intro i hi
    have := (sort_stable (key := key) (N := vs.length) (by (exact Nat.le_of_lt (by assumption)))).1.mem_iff.mp hi
    rw [List.mem_range] at this
    obtain ⟨v, _, e⟩ := it i this
    show (kas_item (kA.zip vs.toArray) i).2 = _
    rw [e]
  · obtain ⟨S', hk'⟩ := hI
    obtain ⟨x, ex, ix⟩ := it i hi
    obtain ⟨y, ey, iy⟩ := it j hj
    show wpAny C.M A (keyLt' oneType' (kas_item (kA.zip vs.toArray) i).1 (kas_item (kA.zip vs.toArray) j).1) Q NoE s'
    rw [ix, iy]
    exact B.cmp i j x y s' Q hi hj S'.k (hk' i x ex) (hk' j y ey) fun s'' k => hq s'' ⟨S'.sk t k, fun j v e => B.gr _ _ _ _ k.kp.gr (hk' j v e)⟩
theorem sort_rest {P : PySem.Fin → Shared → Prop} {s : Shared} {e1 e : Nat} (t : TbOk C.TB s₀.heap) (B : SortBy C A s₀ f vs key Key T) (h2 : 2 ≤ vs.length) (h64 : vs.length < 64) (S : Sorting C s₀ s a kS e1 e #[])
    (h : ∀ out c s', SK C.TB s₀ s' → s'.heap.get? a = some (seqObj "list" out c) → out.toList = (sortedIdx key vs.length).map (fun i => vs.getD i .none) → P (.done (.ret .none)) s') : wpAny C.M A (ksk_rest a f false vs.toArray e1 (.ref kS)) P NoE s := by
  unfold ksk_rest
  refine wpAny_bind (wpAny_rule ?_)
  rw [List.forIn_toArray]
  refine wpAny_bind (ksk_fold (fun i s' => ∃ kA e, Sorting C s₀ s' a kS e1 e kA ∧ kA.size = i ∧ ∀ j v, kA[j]? = some v → Key s'.heap j v) vs 0 s ⟨#[], e, S, rfl, fun j v q => by simp at q⟩ (fun j x s' hx hI => ?_) fun s' hI => ?_)
  · obtain ⟨kA, e, S', hz, hk⟩ := hI
    obtain ⟨hj, ex⟩ := List.getElem?_eq_some_iff.mp hx
    refine wpAny_bind (wpAny_attempt ?_)
    rw [← ex]
    refine noE (B.make j hj s' _ S'.k fun kv s'' k hkv => ?_)
    have S'' := S'.sk t k
    dsimp only
    refine wpAny_bind (listUpdate_at S''.ok rfl ?_ (by rw [hz, sizeLine_eq]; (first | lia | omega)) (by rw [Array.size_push, hz, sizeLine_eq]; (first | lia | omega)))
    have s1 := Heap.SameBut.update s''.heap kS (Obj.mapSeq (·.push kv))
    have ok1 := get?_update_seq S''.ok (·.push kv)
    refine wpAny_pure ⟨rfl, kA.push kv, _, ⟨S''.k.upd s1 S''.nk, (s1.2 a (Ne.symm S''.ne)).trans S''.oa, ok1, S''.na, S''.nk, S''.ne⟩, by rw [Array.size_push, hz], fun i v hv => ?_⟩
    have g1 : Gr C.TB s''.heap (s''.heap.update kS (Obj.mapSeq (·.push kv))) := gr_same s1 S''.ok
    rw [Array.getElem?_push] at hv
    split at hv
    · rename_i hi
      cases hv
      rw [hi, hz, Nat.zero_add]
      exact B.gr _ _ _ _ g1 hkv
    · exact B.gr _ _ _ _ g1 (B.gr _ _ _ _ k.kp.gr (hk i v hv))
  · obtain ⟨kA, e, S', hz, hk⟩ := hI
    rw [Nat.zero_add] at hz
    refine wpAny_bind (listItems_at S'.ok rfl ?_)
    exact sort_end t B h2 h64 S' hz hk h
end
end Mine
end

section
set_option maxRecDepth 100000
set_option linter.unusedVariables false
set_option tactic.hygienic false
namespace Mine
open PySem PySem.Calls PyProof.Rows PySem.W PySem.SeqAt
section
variable {C : Cx} {A : Around} {s₀ : Shared} {f T : Value} {vs : List Value} {key : Nat → Int} {Key : Heap → Nat → Value → Prop} {a : Addr}
theorem none_at (h : Heap) : h.get? h.objs.size = none := by
  cases q : h.get? h.objs.size with
  | none => rfl
  | some o => exact absurd (Heap.lt_size q) (Nat.lt_irrefl _)
theorem SK.pushed {TB : List Addr} {s₀ s : Shared} (k : SK TB s₀ s) (o : Obj) : SK TB s₀ { s with heap := s.heap.push o } := ⟨k.kp.push o, k.os, k.gens⟩
theorem sort_tree {P : PySem.Fin → Shared → Prop} {s : Shared} {n : Nat} (t : TbOk C.TB s₀.heap) (B : SortBy C A s₀ f vs key Key T) (h2 : 2 ≤ vs.length) (h64 : vs.length < 64) (k : SK C.TB s₀ s) (ho : s.heap.get? a = some (seqObj "list" vs.toArray n)) (ha : s₀.heap.get? a = none)
    (h : ∀ out c s', SK C.TB s₀ s' → s'.heap.get? a = some (seqObj "list" out c) → out.toList = (sortedIdx key vs.length).map (fun i => vs.getD i .none) → P (.done (.ret .none)) s') : wpAny C.M A (ksk_tree a f false) P NoE s := by
  have s1 := Heap.SameBut.update s.heap a (Obj.mapSeq fun _ => (#[] : Array Value))
  obtain ⟨e1, ho1⟩ : ∃ e1, (s.heap.update a (Obj.mapSeq fun _ => (#[] : Array Value))).get? a = some (seqObj "list" #[] e1) := ⟨_, get?_update_seq ho fun _ => #[]⟩
  unfold ksk_tree
  refine wpAny_bind (listItems_at ho rfl ?_)
  refine wpAny_bind (listUpdate_at ho rfl ?_ (by rw [List.size_toArray, sizeLine_eq]; (first | lia | omega)) (Nat.zero_le _))
  refine wpAny_bind (seqEpoch_at ho1 rfl ?_)
  refine wpAny_bind (wpAny_newTuple ?_ (by show vs.length ≤ _; rw [sizeLine_eq]; (first | lia | omega)))
  refine wpAny_bind (wpAny_newList ?_ (Nat.zero_le _))
  refine wpAny_holding ?_
  have k1 := k.upd s1 ha
  have k2 := k1.pushed { cls := .type "tuple", data := .seq vs.toArray.toList.toArray }
  have k3 := k2.pushed { cls := .type "list", data := .seq ([] : List Value).toArray }
  refine sort_rest (e1 := e1) (e := 0) t B h2 h64 ⟨k3, Heap.get?_push_of_some _ (Heap.get?_push_of_some _ ho1), Heap.get?_push_size _ rfl, ha, ?_, ?_⟩ h
  · exact k2.kp.none_of t
  · intro q
    have := Heap.lt_size (Heap.get?_push_of_some { cls := .type "tuple", data := .seq vs.toArray.toList.toArray } ho1)
    exact Nat.ne_of_lt this q.symm
theorem call_sorted_key {s : Shared} {l q : Addr} {Q : Value → Shared → Prop} (t : TbOk C.TB s.heap) (hl : s.heap.IsList l vs.toArray) (h2 : 2 ≤ vs.length) (h64 : vs.length < 64) (B : SortBy C A.in1.in1 s (.ref q) vs key Key T)
    (h : ∀ D s', SK C.TB s s' → s.heap.get? D = none → LsAt s'.heap D ((sortedIdx key vs.length).map (fun i => vs.getD i .none)) → Q (.ref D) s') : wpAny C.M A (call (.builtin "sorted") [.ref l] [("key", .ref q)]) Q NoE s := by
  refine call_function_entry_kw kind_sorted plain_sorted entry_sorted (ksk_s1 _ _) ?_
  unfold Builtin.«sorted»
  refine wpAny_bind (m := checkCount "sorted" 1 1 _) (wpAny_pure ?_)
  refine wpAny_bind (collect_list hl ?_ (by rw [sizeLine_eq]; (first | lia | omega)))
  refine wpAny_bind (wpAny_newList ?_ (by rw [sizeLine_eq]; (first | lia | omega)))
  have hsz : ((s.heap.push (seqObj "list" #[] 0)).update s.heap.objs.size (Obj.mapSeq (· ++ vs.toArray))).objs.size = s.heap.objs.size + 1 := by
    rw [Heap.size_update, size_push']
  have hoL : (((s.heap.push (seqObj "list" #[] 0)).update s.heap.objs.size (Obj.mapSeq (· ++ vs.toArray))).push (seqObj "list" vs.toArray 0)).get? (s.heap.objs.size + 1) = some (seqObj "list" vs.toArray 0) := by
    rw [← hsz]; exact Heap.get?_push_size _ rfl
  have kp : SK C.TB s { s with heap := ((s.heap.push (seqObj "list" #[] 0)).update s.heap.objs.size (Obj.mapSeq (· ++ vs.toArray))).push (seqObj "list" vs.toArray 0) } := by
    refine (SK.upd (s := { s with heap := s.heap.push (seqObj "list" #[] 0) }) (.push _) (Heap.SameBut.update _ s.heap.objs.size (Obj.mapSeq (· ++ vs.toArray))) (none_at _)).pushed _
  show wpAny _ _ _ _ _ { s with heap := ((s.heap.push (seqObj "list" #[] 0)).update s.heap.objs.size (Obj.mapSeq (· ++ vs.toArray))).push (seqObj "list" vs.toArray 0) }
  rw [hsz]
  have hn : s.heap.get? (s.heap.objs.size + 1) = none := by
    cases q : s.heap.get? (s.heap.objs.size + 1) with
    | none => rfl
    | some o => exact absurd (Heap.lt_size q) (Nat.not_lt.mpr (Nat.le_succ _))
  refine wpAny_bind (wpAny_holding (wpAny_call_entry_kw slot_list_sort ⟨_, hoL, rfl⟩ entry_list_sort ?_ (ksk_l1 _ _)))
  show wpAny C.M A.in1.in1 (Builtin.«list.sort» ⟨[.ref (s.heap.objs.size + 1)], [(Str.ofString "key", .ref q)]⟩) _ _ _
  rw [ksk_t1]
  refine sort_tree t B h2 h64 kp hoL hn fun out c s' k ho hout => ⟨_, rfl, wpAny_pure ⟨_, rfl, h _ s' k hn ⟨c, ?_⟩⟩⟩
  rw [ho, ← hout]
end
end Mine
end

section
set_option genInjectivity false
set_option genSizeOf false
set_option genSizeOfSpec false
set_option maxRecDepth 100000
set_option maxHeartbeats 0
set_option linter.unusedVariables false
set_option tactic.hygienic false
namespace Mine
open PySem PySem.Calls PySem.SeqAt PySem.W PyProof.Rows PySem.W.X
section
variable {C : Cx} {A : Around} {s : Shared}
/-- the class that stands for f, and f -/
structure KF (h : Heap) (cls f : Addr) (a : KAddrs) : Prop where
  k : KC h cls a
  c : h.IsCell a.cell (some (.ref f))
theorem KC.gr {TB : List Addr} {h h' : Heap} {cls : Addr} {a : KAddrs} (x : KC h cls a) (t : TbOk TB h) (g : Gr TB h h') : KC h' cls a := by
  have far : ∀ b ob, h.get? b = some ob → ob.cls ≠ .none → (∀ xs n, ob.data ≠ .seq xs n) → h'.get? b = some ob := fun b ob e hn hs => g.on b ob e (t.apart e fun ⟨ps, q⟩ => hn (by rw [q]; rfl)) hs
  have gm : ∀ q c, GM h q c → GM h' q c := fun q c ⟨ob, vs, t, e, hc, hv, r⟩ => ⟨ob, vs, t, far _ _ e (by rw [hc]; exact fun z => by cases z) (fun _ _ z => by rw [hv] at z; cases z), hc, hv, r⟩
  obtain ⟨⟨t1, t2, h1⟩, ⟨hs, ts, line, sl, gt, eq, le, ge, sa, h2⟩, ⟨t, h3⟩, ⟨pm, h4⟩, h5, ⟨pm', ct, h6⟩, h7⟩ := x
  exact ⟨⟨t1, t2, far _ _ h1 (fun z => by cases z) fun _ _ z => nomatch z⟩, ⟨hs, ts, line, sl, gt, eq, le, ge, sa, far _ _ h2 (fun z => by cases z) fun _ _ z => nomatch z⟩, ⟨t, far _ _ h3 (fun z => by cases z) fun _ _ z => nomatch z⟩, ⟨pm, far _ _ h4 (fun z => by cases z) fun _ _ z => nomatch z⟩, gm _ _ h5, ⟨pm', ct, far _ _ h6 (fun z => by cases z) fun _ _ z => nomatch z⟩, gm _ _ h7⟩
theorem KF.gr {TB : List Addr} {h h' : Heap} {cls f : Addr} {a : KAddrs} (x : KF h cls f a) (t : TbOk TB h) (g : Gr TB h h') : KF h' cls f a :=
  ⟨x.k.gr t g, let ⟨o, e, hd⟩ := x.c; ⟨o, g.on _ _ e (t.apart e fun ⟨ps, q⟩ => by rw [q] at hd; cases hd) (fun _ _ z => by rw [hd] at z; cases z), hd⟩⟩
noncomputable def InstAtK (h : Heap) (cls : Addr) (i : Int) (v : Value) : Prop := ∃ x d t, v = .ref x ∧ h.get? x = some (instO cls d (.int i t)) ∧ h.get? d = some emptyDict
theorem InstAtK.gr {TB : List Addr} {h h' : Heap} {cls : Addr} {i : Int} {v : Value} (x : InstAtK h cls i v) (t : TbOk TB h) (g : Gr TB h h') : InstAtK h' cls i v := by
  obtain ⟨x, d, u, rfl, e, e2⟩ := x
  exact ⟨x, d, u, rfl, g.on _ _ e (t.apart e fun ⟨ps, q⟩ => by cases q) (fun _ _ z => by cases z), g.on _ _ e2 (t.apart e2 fun ⟨ps, q⟩ => by cases q) fun _ _ z => by cases z⟩
theorem GM.split {h : Heap} {q : Str} {c : Addr} (x : GM h q c) : ∃ d sl, ∃ v0 t r, h.get? c = some { cls := .type "code", dict := d, data := .fields ⟨v0 :: .str q t :: r⟩, slots := sl } := by
  obtain ⟨⟨c1, d, dt, sl⟩, ⟨vs⟩, t, e, hc, hd, hv⟩ := x
  dsimp only at hc hd
  subst hc hd
  match vs, hv with
  | v0 :: v1 :: r, hv =>
    have : v1 = .str q t := by simpa using hv
    subst this
    exact ⟨d, sl, v0, t, r, e⟩
  | [_], hv => simp at hv
  | [], hv => simp at hv
theorem lookTy {h : Heap} {cls d : Addr} {v : Value} {M : Model} {x : Addr} (e : h.get? x = some (instO cls d v)) : Looks M h (typeOf (.ref x)) (.ref cls) := (Looks.ld e).andThen .now
theorem typeAt {M : Model} {E : Value → Shared → Prop} {x : Addr} {o : Obj} {T : Value} {Q : Value → Shared → Prop} (e : s.heap.get? x = some o) (hc : o.cls = T) (hq : Q T s) : wpAny M A (typeOf (.ref x)) Q E s := by
  subst hc
  exact wpAny_bind (wpAny_loadPart' e (wpAny_pure hq))
/-- one of K made -/
theorem makeInst {cls : Addr} {a : KAddrs} {i : Int} {t : Tok} {n : Nat} {Q : Value → Shared → Prop} (ha : AOk n A) (w : Wd C.K C.TB s.heap) (st : Statics C) (kc : KC s.heap cls a) (hq : ∀ v s', SK C.TB s s' → InstAtK s'.heap cls i v → Q v s') : wpAny C.M A (call (.ref cls) [.int i t]) Q NoE s := by
  obtain ⟨t1, t2, h1⟩ := kc.hCls
  obtain ⟨hs, ts, line, sl, gt, eq, le, ge, sa, h2⟩ := kc.hNs
  obtain ⟨tm, h3⟩ := kc.hMd
  obtain ⟨pm, h4⟩ := kc.hIni
  obtain ⟨d, ss, v0, tn, r, h5⟩ := kc.hInc.split
  exact KinQ (s := s) (sl := sl) (by have := ha.dp; (first | lia | omega)) (w.k _ _ st) h1 h2 h3 h4 h5 fun x d' h' tk k n e e2 => hq _ _ (.heap (.of k)) ⟨x, d', t, rfl, e, e2⟩
/-- its slot -/
theorem attrObj {cls x d : Addr} {a : KAddrs} {v : Value} {b : Bool} {Q : Value → Shared → Prop} (kc : KC s.heap cls a) (hx : s.heap.get? x = some (instO cls d v)) (hd : s.heap.get? d = some emptyDict) (hv : handedIn v = true) (hq : ∀ s', SK C.TB s s' → Q v s') : wpAny C.M A (getAttr (.ref x) "obj" b) Q NoE s := by
  obtain ⟨t1, t2, h1⟩ := kc.hCls
  obtain ⟨hs, ts, line, sl, gt, eq, le, ge, sa, h2⟩ := kc.hNs
  obtain ⟨tm, h3⟩ := kc.hMd
  exact slotRun h1 h2 h3 hx hd hv (hq _ (.toks _))
/-- a call with these data gives that datum, from here on -/
noncomputable def FnS (C : Cx) (n : Nat) (s : Shared) (f : Value) (ds : List D) (d : D) : Prop :=
  ∀ (A : Around) (s' : Shared) (vs : List Value) (Q : Value → Shared → Prop), SK C.TB s s' → AOk n A → IsAll [] s'.heap vs ds →
    (∀ v s'', SK C.TB s' s'' → Is [] s''.heap v d → Q v s'') → wpAny C.M A (call f vs) Q NoE s'
theorem FnS.sk {n : Nat} {s s' : Shared} {f : Value} {ds : List D} {d : D} (h : FnS C n s f ds d) (k : SK C.TB s s') : FnS C n s' f ds d := fun A s'' vs Q k' => h A s'' vs Q (k.trans k')
/-- one of K ahead of another -/
theorem ltInst {cls f : Addr} {a : KAddrs} {i j c : Int} {v u : Value} {n : Nat} {Q : Bool → Shared → Prop} {of : Obj} {fdf : FuncData} (ha : AOk (n + 1) A) (w : Wd C.K C.TB s.heap) (st : Statics C) (kf : KF s.heap cls f a) (hf : s.heap.get? f = some of) (hof : of.data = .func fdf) (hv : InstAtK s.heap cls i v) (hu : InstAtK s.heap cls j u)
    (hF : FnS C n s (.ref f) [.int i, .int j] (.int c)) (hq : ∀ s', SK C.TB s s' → Q (decide (c < 0)) s') : wpAny C.M A (keyLt' oneType' v u) Q NoE s := by
  obtain ⟨x, dx, tx, rfl, ex, ex'⟩ := id hv
  obtain ⟨y, dy, ty, rfl, ey, ey'⟩ := id hu
  obtain ⟨t1, t2, h1⟩ := kf.k.hCls
  obtain ⟨hs, ts, line, sl, gt, eq, le, ge, sa, h2⟩ := kf.k.hNs
  obtain ⟨pm, ct, h6⟩ := kf.k.hLt
  rw [keyLt'_oneType, oneLt'_eq]
  simp only [if_true]
  refine wpAny_bind (wpAny_cRoomFor ha.units ?_)
  simp only [callSpecialIfBound?, bindSpecialIfBound?, specialOf]
  refine wpAny_bind (wpAny_holding (wpAny_bind (wpAny_bind (wpAny_bind (typeAt ex rfl (look_own (v := .ref a.lt) h1 rfl rfl h2 (by kernel_rfl) ?_))))))
  have bnd : ∀ Q' : Option (Value × List Value) → Shared → Prop, Q' (some (.ref a.lt, [.ref x])) s → wpAny C.M A (do return some (← bindSpecial (.ref a.lt) (.ref x))) Q' NoE s := fun Q' h => by
    unfold bindSpecial
    refine wpAny_bind (wpAny_bind (typeAt h6 rfl ?_))
    rw [if_pos (by rfl)]
    exact wpAny_pure (wpAny_pure h)
  have main : wpAny C.M A (call (.ref a.lt) [.ref x, .ref y]) (fun r s' => r = .bool (decide (c < 0)) ∧ SK C.TB s s') NoE s := by
    obtain ⟨d7, s7, v7, t7, r7, h7⟩ := kf.k.hLtc.split
    refine wpAny_call ?_
    refine codeAny_call_def (body := match (clsBody PB 13)[3]? with | some (Stmt.FunctionDef _ _ b _ _ _ _ _ _ _) => b | _ => []) (fd := methFd PB 13 3 pm a.ltc [("mycmp", a.cell)] ct) (binds := [("self", .ref x), ("other", .ref y)]) ha.depth h6 rfl (w.noLimit st) ⟨a.ltc, _, _, t7, rfl, h7, rfl, rfl⟩ rfl (.of_eq (by kernel_rfl)) ?_ ?_ (fun h₁ hns keep => noE ?_) rfl rfl rfl
    · show ∀ z ∈ (methFd PB 13 3 .none 0 [] .none).scope.names, z.2 ≠ .cell
      decide +kernel
    · intro z hz
      simp only [List.mem_cons, List.not_mem_nil, or_false] at hz
      rcases hz with rfl | rfl
      · kernel_rfl
      · kernel_rfl
    have sk1 : SK C.TB s { s with heap := h₁, toks := s.toks + 2 } := .heap (.of keep)
    have kf₁ := kf.gr w.tb (Kp.gr (TB := C.TB) (.of keep))
    refine wpAny_execs_cons (wpAny_Return_some (wpAny_Compare1 (Call_Name rfl (wpAny_Name (wpAny_loadName_free (env := callEnv (methFd PB 13 3 pm a.ltc [("mycmp", a.cell)] ct) s.heap.objs.size a.lt) (v := .ref f) (by kernel_rfl) (by kernel_rfl) (c := a.cell) (by kernel_rfl) kf₁.c ?_ (by decide)))) ?_))
    · refine callWith_function (o := of) (fd := fdf) (evalArgs_plain (spliced_two (Attribute_name (wpAny_Name (wpAny_loadName_local (env := callEnv (methFd PB 13 3 pm a.ltc [("mycmp", a.cell)] ct) s.heap.objs.size a.lt) (v := .ref x) (by kernel_rfl) (by kernel_rfl) hns (by kernel_rfl) ?_)))))
      refine attrObj (d := dx) kf₁.k (keep _ _ ex) (keep _ _ ex') rfl fun s₂ k₂ => ?_
      have t₁ : TbOk C.TB h₁ := w.tb.kp sk1.kp
      have kf₂ := kf₁.gr t₁ k₂.kp.gr
      refine Attribute_name (wpAny_Name (wpAny_loadName_local (env := callEnv (methFd PB 13 3 pm a.ltc [("mycmp", a.cell)] ct) s.heap.objs.size a.lt) (v := .ref y) (by kernel_rfl) (by kernel_rfl) (k₂.kp.ns t₁ hns) (by kernel_rfl) ?_))
      refine attrObj (d := dy) kf₂.k (k₂.kp.keep _ _ (keep _ _ ey) (t₁.apart (keep _ _ ey) fun ⟨ps, q⟩ => by cases q)) (k₂.kp.keep _ _ (keep _ _ ey') (t₁.apart (keep _ _ ey') fun ⟨ps, q⟩ => by cases q)) rfl fun s₃ k₃ => ?_
      have k13 := (sk1.trans k₂).trans k₃
      have fof : s₃.heap.get? f = some of := k13.kp.keep _ _ hf (w.tb.apart hf fun ⟨ps, q⟩ => by rw [q] at hof; cases hof)
      refine ⟨⟨fof, hof⟩, ?_⟩
      refine hF _ s₃ [.int i tx, .int j ty] _ k13 ha.deeper (.cons (.int _ _) (.cons (.int _ _) .nil)) fun v s₄ k₄ iv => ?_
      cases iv
      refine wpAny_Constant_int (wpAny_lt_int ?_)
      exact ⟨rfl, (k13.trans k₄).trans (.toks _)⟩
    · with_unfolding_all rfl
  refine wpAny_bind (wpAny_askSetting ?_)
  have fin : ∀ s', SK C.TB s s' → wpAny C.M A (truthOfDropped (.bool (decide (c < 0)))) Q NoE s' := fun s' k => wpAny_truthy_bool (hq s' k)
  have rest : wpAny C.M A (do
      let v ← call (.ref a.lt) [.ref x, .ref y]
      pure (some v) : Sem (Option Value)) (fun r s' => r = some (.bool (decide (c < 0))) ∧ SK C.TB s s') NoE s := wpAny_bind (wpAny_mono main (fun r s' h => wpAny_pure (by rw [h.1]; exact ⟨rfl, h.2⟩)) fun _ _ e => e)
  split
  · refine bnd _ ?_
    refine wpAny_mono rest (fun r s' h => ?_) fun _ _ e => e
    obtain ⟨rfl, k⟩ := h
    exact fin s' k
  · refine wpAny_tryCatch (noE (bnd _ ?_))
    refine wpAny_mono rest (fun r s' h => ?_) fun _ _ e => e
    obtain ⟨rfl, k⟩ := h
    exact fin s' k
end
end Mine
end

section
set_option maxRecDepth 100000
set_option maxHeartbeats 0
set_option linter.unusedVariables false
set_option tactic.hygienic false
namespace Mine
open PySem PySem.Calls PySem.SeqAt PySem.W PyProof.Rows PySem.W.X
section
variable {C : Cx} {A : Around} {s : Shared}
theorem sk_keep {TB : List Addr} {s s' : Shared} (t : TbOk TB s.heap) (k : SK TB s s') {b : Addr} {o : Obj} (e : s.heap.get? b = some o) (hn : ∀ ps, o ≠ X.tableObj ps) : s'.heap.get? b = some o := k.kp.keep b o e (t.apart e fun ⟨ps, q⟩ => hn ps q)
theorem keyList {ns : List Int} {vs : List Value} {O : List Addr} {h : Heap} (xs : IsAll O h vs (ns.map .int)) (l : List Nat) (hl : ∀ i ∈ l, i < ns.length) (h' : Heap) : IsAll O h' (l.map fun i => vs.getD i .none) ((l.map fun i => ns.getD i 0).map .int) := by
  induction l with
  | nil => exact .nil
  | cons i r ih =>
    have hi := hl i List.mem_cons_self
    have hv : i < vs.length := by have := xs.length; rw [List.length_map] at this; (first | lia | omega)
    obtain ⟨t, e⟩ := ints_at xs hv
    refine .cons ?_ (ih fun j hj => hl j (List.mem_cons_of_mem _ hj))
    show Is O h' (vs.getD i .none) (.int (ns.getD i 0))
    have : vs.getD i .none = vs[i] := by rw [List.getD_eq_getElem?_getD, List.getElem?_eq_getElem hv]; rfl
    rw [this, e]
    exact .int _ _
theorem sortedIdx_lt (key : Nat → Int) {n : Nat} (hn : 1 ≤ n) : ∀ i ∈ sortedIdx key n, i < n := fun i hi => List.mem_range.mp ((sort_stable (key := key) hn).1.mem_iff.mp hi)
set_option tactic.hygienic true
/-- sorted(ints, key=cmp_to_key(f)) -/
theorem sortedCmp {n : Nat} {O : List Addr} {cls f l : Addr} {a : KAddrs} {ns : List Int} {cmp : Nat → Nat → Int} {key : Nat → Int} {Q : Value → Shared → Prop} {of : Obj} {fdf : FuncData} (ha : AOk (n + 3) A) (w : Wd C.K C.TB s.heap) (st : Statics C) (ex : OOk O s.heap) (kf : KF s.heap cls f a) (hf : s.heap.get? f = some of) (hof : of.data = .func fdf)
    (hl : Is O s.heap (.ref l) (L1 ns)) (h2 : 2 ≤ ns.length) (h64 : ns.length < 64) (hF : ∀ i j, i < ns.length → j < ns.length → FnS C n s (.ref f) [.int (ns.getD i 0), .int (ns.getD j 0)] (.int (cmp i j)))
    (hkey : ∀ i j, i < ns.length → j < ns.length → decide (cmp i j < 0) = ltB key i j)
    (hq : ∀ v s', SK C.TB s s' → Is O s'.heap v (L1 ((sortedIdx key ns.length).map fun i => ns.getD i 0)) → Q v s') : wpAny C.M A (call (.builtin "sorted") [.ref l] [("key", .ref cls)]) Q NoE s := by
  cases hl with
  | list hls hO xs =>
  rename_i vs
  have hlen : vs.length = ns.length := by rw [xs.length, List.length_map]
  have nf : ∀ ps, of ≠ X.tableObj ps := fun ps q => by rw [q] at hof; cases hof
  have tt : (Value.ref cls == Value.ref cls) = true := by simp
  have at_ : ∀ i, i < ns.length → ∃ t, vs[i]? = some (.int (ns.getD i 0) t) := fun i hi => by
    have hv : i < vs.length := by (first | lia | omega)
    obtain ⟨t, e⟩ := ints_at xs hv
    exact ⟨t, by rw [List.getElem?_eq_getElem hv, e]⟩
  refine call_sorted_key (key := key) (Key := fun h i v => TbOk C.TB h ∧ InstAtK h cls (ns.getD i 0) v) (T := .ref cls) w.tb hls.isList (by (first | lia | omega)) (by (first | lia | omega)) ?_ fun D s' k hD hL => ?_
  · refine ⟨fun i hi s' Q' k hq' => ?_, fun h h' i kv g ⟨t, x⟩ => ⟨t.gr g, x.gr t g⟩, fun h i kv ⟨t, x⟩ => ?_, rfl, tt, fun i j x y s' Q' hi hj k hx hy hq' => ?_⟩
    · obtain ⟨t, e⟩ := at_ i (by (first | lia | omega))
      have e' : vs[i] = .int (ns.getD i 0) t := by
        have := List.getElem?_eq_getElem hi
        rw [e] at this
        exact (Option.some.inj this).symm
      rw [e']
      exact makeInst (n := n + 1) ha.in1.in1 (w.sk k) st (kf.k.gr w.tb k.kp.gr) fun v s'' k' iv => hq' v s'' k' ⟨((w.sk k).sk k').tb, iv⟩
    · obtain ⟨x, d, u, rfl, e⟩ := x
      exact lookTy e.1
    · rw [← hkey i j (by (first | lia | omega)) (by (first | lia | omega))] at hq'
      exact ltInst ha.in1.in1 (w.sk k) st (kf.gr w.tb k.kp.gr) (sk_keep w.tb k hf nf) hof hx.2 hy.2 ((hF i j (by (first | lia | omega)) (by (first | lia | omega))).sk k) hq'
  · refine hq _ s' k (.list hL (fun hm => ?_) ?_)
    · obtain ⟨o, e, _⟩ := ex D hm
      rw [hD] at e; cases e
    · rw [hlen]
      exact keyList xs _ (sortedIdx_lt key (by (exact Nat.le_of_lt (by assumption)))) _
set_option tactic.hygienic false
end
end Mine
end

section
set_option maxRecDepth 100000
set_option maxHeartbeats 0
set_option linter.unusedVariables false
set_option tactic.hygienic false
namespace Mine
open PySem PySem.Calls PyProof.Rows PySem.W PySem.SeqAt
noncomputable def pairD (p : Int × Int) : D := .tup [.int p.1, .int p.2]
noncomputable def pkey (ps : List (Int × Int)) (i : Nat) : Int := (ps.getD i (0, 0)).1 * 1000 + (ps.getD i (0, 0)).2
section
variable {C : Cx} {A : Around} {s₀ : Shared} {vs : List Value} {ps : List (Int × Int)} {a : Addr}
theorem pair_at {O : List Addr} {h : Heap} (x : IsAll O h vs (ps.map pairD)) {i : Nat} (hi : i < ps.length) : ∃ b t u, vs[i]? = some (.ref b) ∧ TpAt h b [.int (ps.getD i (0, 0)).1 t, .int (ps.getD i (0, 0)).2 u] := by
  obtain ⟨v, e, iv⟩ := x.get (i := i) (d := pairD (ps.getD i (0, 0))) (by rw [List.getElem?_map, List.getElem?_eq_getElem hi, List.getD_eq_getElem?_getD, List.getElem?_eq_getElem hi]; rfl)
  unfold pairD at iv
  cases iv with
  | tup ht hO xs =>
  cases xs with
  | cons x xs =>
  cases xs with
  | cons y ys =>
  cases ys
  cases x
  cases y
  exact ⟨_, _, _, e, ht⟩
theorem tups_at {O : List Addr} {h : Heap} : ∀ {vs : List Value} {ps : List (Int × Int)}, IsAll O h vs (ps.map pairD) → ∃ fs : List Value, fs.length = ps.length ∧ KatTups h vs fs ∧ ∀ v ∈ fs, ∃ i t, v = .int i t
  | [], [], .nil => ⟨[], rfl, trivial, fun _ h => nomatch h⟩
  | v :: vs, p :: ps, .cons x xs => by
    obtain ⟨fs, hl, ht, hf⟩ := tups_at xs
    unfold pairD at x
    cases x with
    | tup hx hO ys =>
    cases ys with
    | cons y ys =>
    cases y
    obtain ⟨k, e⟩ := hx
    refine ⟨_ :: fs, by rw [List.length_cons, List.length_cons, hl], KatTups.cons e rfl rfl rfl ht, fun v hv => ?_⟩
    rcases List.mem_cons.mp hv with rfl | hv
    · exact ⟨_, _, rfl⟩
    · exact hf v hv
theorem oneLt_int' {b : Bool} {x y : Int} {t u : Tok} {s : Shared} {Q : Bool → Shared → Prop} (h : Q (decide (x < y)) s) : wpAny C.M A (oneLt' b (.int x t) (.int y u)) Q NoE s := by
  cases b with
  | true => exact oneLt_int h
  | false => exact kat_one _ _ (PyProof.Rows.lt_int (by exact h))
theorem lt_pairs {x y : Addr} {p q : Int × Int} {t u t' u' : Tok} {s : Shared} {Q : Bool → Shared → Prop} (hx : TpAt s.heap x [.int p.1 t, .int p.2 u]) (hy : TpAt s.heap y [.int q.1 t', .int q.2 u']) (hp : 0 ≤ p.2 ∧ p.2 < 1000) (hq : 0 ≤ q.2 ∧ q.2 < 1000) (h : Q (decide (p.1 * 1000 + p.2 < q.1 * 1000 + q.2)) s) :
    wpAny C.M A (keyLt' (tuples' true) (.ref x) (.ref y)) Q NoE s := by
  obtain ⟨n, ex⟩ := hx
  obtain ⟨k, ey⟩ := hy
  refine kat_lt ex rfl ey rfl ?_
  show KatLex _ _ _ _ _ _ [(.int p.1 t, .int q.1 t'), (.int p.2 u, .int q.2 u')] 0 s
  refine kat_cons (wpAny_eqBool_int (kat_go (fun e => kat_yes (kat_cons (wpAny_eqBool_int (kat_go (fun e' => kat_yes (kat_nil ?_)) fun e' => kat_no (oneLt_int' ?_))))) fun e => kat_no (oneLt_int' ?_)))
  all_goals
    refine cast (congrArg (fun b => Q b s) ?_) h
    simp only [beq_iff_eq, beq_eq_false_iff_ne] at *
  · show decide _ = decide ((2 : Nat) < 2)
    rw [decide_eq_decide]
    (clear ey ex h hq hp; lia)
  · rw [decide_eq_decide]
    (clear e' ey ex h hq hp; lia)
  · rw [decide_eq_decide]
    (first | lia | omega)
theorem list_sort_pairs {O : List Addr} {P : PySem.Fin → Shared → Prop} {s : Shared} {n : Nat} (t : TbOk C.TB s₀.heap) (xs : IsAll O s₀.heap vs (ps.map pairD)) (hps : ∀ p ∈ ps, 0 ≤ p.2 ∧ p.2 < 1000) (h2 : 2 ≤ ps.length) (h64 : ps.length < 64) (k : SK C.TB s₀ s) (ho : s.heap.get? a = some (seqObj "list" vs.toArray n)) (ha : s₀.heap.get? a = none)
    (h : ∀ out c s', SK C.TB s₀ s' → s'.heap.get? a = some (seqObj "list" out c) → out.toList = (sortedIdx (pkey ps) ps.length).map (fun i => vs.getD i .none) → P (.done (.ret .none)) s') : wpAny C.M A (Builtin.«list.sort» ⟨[.ref a], []⟩) P NoE s := by
  have hlen : vs.length = ps.length := by rw [xs.length, List.length_map]
  have s1 := Heap.SameBut.update s.heap a (Obj.mapSeq fun _ => (#[] : Array Value))
  obtain ⟨e1, ho1⟩ : ∃ e1, (s.heap.update a (Obj.mapSeq fun _ => (#[] : Array Value))).get? a = some (seqObj "list" #[] e1) := ⟨_, get?_update_seq ho fun _ => #[]⟩
  rw [list_sort_plain]
  refine wpAny_bind (listItems_at ho rfl ?_)
  refine wpAny_bind (listUpdate_at ho rfl ?_ (by rw [List.size_toArray, sizeLine_eq]; (first | lia | omega)) (Nat.zero_le _))
  refine wpAny_bind (seqEpoch_at ho1 rfl ?_)
  refine wpAny_bind (wpAny_newTuple ?_ (by show vs.length ≤ _; rw [sizeLine_eq]; (first | lia | omega)))
  refine wpAny_bind (wpAny_newList ?_ (Nat.zero_le _))
  refine wpAny_holding ?_
  have k1 := k.upd s1 ha
  have k2 := k1.pushed { cls := .type "tuple", data := .seq vs.toArray.toList.toArray }
  have k3 := k2.pushed { cls := .type "list", data := .seq ([] : List Value).toArray }
  have hoa := Heap.get?_push_of_some { cls := .type "list", data := .seq ([] : List Value).toArray } (Heap.get?_push_of_some { cls := .type "tuple", data := .seq vs.toArray.toList.toArray } ho1)
  dsimp only at k3 ⊢
  generalize ((s.heap.update a (Obj.mapSeq fun _ => (#[] : Array Value))).push { cls := .type "tuple", data := .seq vs.toArray.toList.toArray }).push { cls := .type "list", data := .seq ([] : List Value).toArray } = H at k3 hoa ⊢
  have hn2 : ¬ vs.toArray.size < 2 := by rw [List.size_toArray]; (first | lia | omega)
  rw [if_neg hn2, if_neg hn2]
  obtain ⟨fs, hfl, hft, hfi⟩ := tups_at (xs.kp k3.kp t)
  refine wpAny_bind (kat_kind (T := .type "int") hft (by (first | lia | omega)) (fun v hv => ?_) rfl ?_)
  · obtain ⟨i, t, rfl⟩ := hfi v hv
    exact Looks.of_pure rfl
  have hzp : (vs.toArray.zip vs.toArray).size = ps.length := by rw [Array.size_zip, List.size_toArray, Nat.min_self, hlen]
  have est : ∀ κ, SortSt.mk' κ (vs.toArray.zip vs.toArray) #[] 7 none = kas_st κ (vs.toArray.zip vs.toArray) (List.toArray (List.range ps.length)) := fun κ => by
    have e := kas_range (vs.toArray.zip vs.toArray)
    rw [hzp] at e
    show SortSt.mk' κ (vs.toArray.zip vs.toArray) #[] 7 none = SortSt.mk' κ ((List.toArray (List.range ps.length)).map (kas_item (vs.toArray.zip vs.toArray))) #[] 7 none
    rw [e]
  rw [est]
  have it : ∀ i, kas_item (vs.toArray.zip vs.toArray) i = (vs.getD i .none, vs.getD i .none) := fun i => kat_item rfl i
  have run := kas_runs (prog := C.prog) (w := C.w) (A := A) (E := NoE) (κ := tuples' (Value.type "int" != Value.type "tuple")) (it := vs.toArray.zip vs.toArray) (Q := fun _ st' s' => (SK C.TB s₀ s' ∧ s'.heap.get? a = some (seqObj "list" #[] e1)) ∧ failedOf st' = none ∧ (arrOf st') = (kRun (ltB (pkey ps)) (kas_sort ps.length)).map (kas_item (vs.toArray.zip vs.toArray)) ∧ (kRun (ltB (pkey ps)) (kas_sort ps.length)).size = ps.length) (G := fun p s' => p = kRun (ltB (pkey ps)) (kas_sort ps.length) ∧ SK C.TB s₀ s' ∧ s'.heap.get? a = some (seqObj "list" #[] e1)) h2 h64
    (fun p' st' s' a1 a2 a3 a4 => ⟨a4.2, a3, by rw [a2, a4.1], by rw [← a4.1]; exact a1⟩)
    (s := { s with heap := H }) (kas_run (N := ps.length) (lt := ltB (pkey ps)) (I := fun s' => SK C.TB s₀ s' ∧ s'.heap.get? a = some (seqObj "list" #[] e1)) (fun i j Q s' hi hj hI hq => ?_) _ _ _ (ok_sort (by (exact Nat.le_of_lt (by assumption)))) ⟨k3, hoa⟩ fun s' hI => ⟨rfl, hI⟩)
  · refine wpAny_bind (wpAny_mono run (fun r s' hr => ?_) fun _ _ e => e)
    obtain ⟨⟨⟩, st'⟩ := r
    obtain ⟨⟨k', oa'⟩, hf, har, hsz⟩ := hr
    dsimp only
    refine wpAny_bind (seqEpoch_at oa' rfl ?_)
    have hal : ((arrOf st').map (·.2)).size = ps.length := by rw [Array.size_map, har, Array.size_map, hsz]
    refine wpAny_bind (listUpdate_at oa' rfl ?_ (Nat.zero_le _) (by rw [hal, sizeLine_eq]; (first | lia | omega)))
    rw [hf]
    simp only [bne_self_eq_false, Bool.false_eq_true, if_false]
    have s2 := Heap.SameBut.update s'.heap a (Obj.mapSeq fun _ => (arrOf st').map (·.2))
    refine wpAny_pure (h ((arrOf st').map (·.2)) _ _ (k'.upd s2 ha) (get?_update_seq oa' _) ?_)
    rw [har, Array.map_map, Array.toList_map]
    unfold sortedIdx
    apply List.map_congr_left
    intro i hi
    show (kas_item (vs.toArray.zip vs.toArray) i).2 = _
    rw [it i]
  · show wpAny C.M A (keyLt' _ (kas_item (vs.toArray.zip vs.toArray) i).1 (kas_item (vs.toArray.zip vs.toArray) j).1) Q NoE s'
    rw [it i, it j]
    obtain ⟨b, t1, u1, eb, hb⟩ := pair_at (xs.kp hI.1.kp t) hi
    obtain ⟨c, t2, u2, ec, hc⟩ := pair_at (xs.kp hI.1.kp t) hj
    have mem : ∀ i, i < ps.length → ps.getD i (0, 0) ∈ ps := fun i hi => by
      rw [List.getD_eq_getElem?_getD, List.getElem?_eq_getElem hi]
      exact List.getElem_mem hi
    rw [List.getD_eq_getElem?_getD, List.getD_eq_getElem?_getD, eb, ec]
    exact lt_pairs hb hc (hps _ (mem i hi)) (hps _ (mem j hj)) (hq _ hI)
set_option tactic.hygienic true
theorem Fn.sortedP {n : Nat} (hps : ∀ p ∈ ps, 0 ≤ p.2 ∧ p.2 < 1000) (h2 : 2 ≤ ps.length) (h64 : ps.length < 64) : Fn C n (.builtin "sorted") [.list (ps.map pairD)] (.list (((sortedIdx (pkey ps) ps.length).map fun i => ps.getD i (0, 0)).map pairD)) := fun A O s vs Q ha w ex is q => by
  cases is with
  | cons x xs =>
  cases xs
  cases x with
  | list hl hO xs =>
  rename_i l vs
  have hlen : vs.length = ps.length := by rw [xs.length, List.length_map]
  refine call_function_entry kind_sorted plain_sorted entry_sorted (args_sorted1 _) ?_
  unfold Builtin.«sorted»
  refine wpAny_bind (m := checkCount "sorted" 1 1 _) (wpAny_pure ?_)
  refine wpAny_bind (collect_list hl.isList ?_ (by rw [sizeLine_eq]; (first | lia | omega)))
  refine wpAny_bind (wpAny_newList ?_ (by rw [sizeLine_eq]; show vs.length ≤ _; (first | lia | omega)))
  have hsz : ((s.heap.push (seqObj "list" #[] 0)).update s.heap.objs.size (Obj.mapSeq (· ++ vs.toArray))).objs.size = s.heap.objs.size + 1 := by
    rw [Heap.size_update, size_push']
  have hoL : (((s.heap.push (seqObj "list" #[] 0)).update s.heap.objs.size (Obj.mapSeq (· ++ vs.toArray))).push (seqObj "list" vs.toArray 0)).get? (s.heap.objs.size + 1) = some (seqObj "list" vs.toArray 0) := by
    rw [← hsz]; exact Heap.get?_push_size _ rfl
  have kp : SK C.TB s { s with heap := ((s.heap.push (seqObj "list" #[] 0)).update s.heap.objs.size (Obj.mapSeq (· ++ vs.toArray))).push (seqObj "list" vs.toArray 0) } := by
    refine (SK.upd (s := { s with heap := s.heap.push (seqObj "list" #[] 0) }) (.push _) (Heap.SameBut.update _ s.heap.objs.size (Obj.mapSeq (· ++ vs.toArray))) (none_at _)).pushed _
  show wpAny _ _ _ _ _ { s with heap := ((s.heap.push (seqObj "list" #[] 0)).update s.heap.objs.size (Obj.mapSeq (· ++ vs.toArray))).push (seqObj "list" vs.toArray 0) }
  rw [hsz]
  have hn : s.heap.get? (s.heap.objs.size + 1) = none := by
    cases q : s.heap.get? (s.heap.objs.size + 1) with
    | none => rfl
    | some o => exact absurd (Heap.lt_size q) (Nat.not_lt.mpr (Nat.le_succ _))
  refine wpAny_bind (wpAny_holding (wpAny_call_entry slot_list_sort ⟨_, hoL, rfl⟩ entry_list_sort ?_ (args_list_sort _)))
  refine list_sort_pairs w.tb xs hps h2 h64 kp hoL hn fun out c s' k ho hout => ⟨_, rfl, wpAny_pure ⟨_, rfl, q _ s' k (.list (vs := out.toList) ⟨c, ?_⟩ (fun hm => ?_) ?_)⟩⟩
  · rw [ho, Array.toArray_toList]
  · obtain ⟨o, e, _⟩ := ex _ hm
    rw [hn] at e; cases e
  · rw [hout, List.map_map]
    have hl : ∀ i ∈ sortedIdx (pkey ps) ps.length, i < ps.length := fun i hi => List.mem_range.mp ((sort_stable (key := pkey ps) (N := ps.length) (by (exact Nat.le_of_lt (by assumption)))).1.mem_iff.mp hi)
    generalize sortedIdx (pkey ps) ps.length = l at hl
    have xs' := xs.kp k.kp w.tb
    induction l with
    | nil => exact .nil
    | cons i r ih =>
      have hi := hl i List.mem_cons_self
      refine .cons ?_ (ih fun j hj => hl j (List.mem_cons_of_mem _ hj))
      obtain ⟨v, e, iv⟩ := xs'.get (i := i) (d := pairD (ps.getD i (0, 0))) (by rw [List.getElem?_map, List.getElem?_eq_getElem hi, List.getD_eq_getElem?_getD, List.getElem?_eq_getElem hi]; rfl)
      show Is O s'.heap (vs.getD i .none) _
      rw [List.getD_eq_getElem?_getD, e]
      exact iv
set_option tactic.hygienic false
end
end Mine
end

section
set_option maxRecDepth 100000
set_option maxHeartbeats 0
set_option linter.unusedVariables false
set_option tactic.hygienic false
namespace Mine
open PySem PySem.Calls PySem.SeqAt PySem.W PyProof.Rows PySem.W.X
noncomputable def lamOf (q : Str) (params : Arguments) (body : Expr) (scope : Scope) (nm : Value) (cd : Addr) (clos : List (Str × Addr)) (ct : Value) : FuncData :=
  { name := "<lambda>", qualname := q, params, body := .expr body, scope, globals := mainGlobals, closure := clos, defaults := .none, kwdefaults := .none, pyModule := nm, code := .ref cd, closureTuple := ct, builtins := builtinsNs }
section
variable {M : Model} {A : Around} {E : Value → Shared → Prop} {h : Heap} {g : Array GenState} {d : Drawn} {t : Nat} {os : OsState}
theorem makeLamG {qs : List (Pos × Str)} {env : Env} {q : Str} {params : Arguments} {body : Expr} {scope : Scope} {pos : Pos} {kc P bm : Addr} {nm : Value} {clos : List (Str × Addr)} {Q : Value → Shared → Prop}
    (hkw : params.kwonlyargs = []) (hdf : params.defaults = []) (hkd : params.kw_defaults = []) (hcl : closureFor scope env = pure clos) (hne : clos ≠ []) (hq : env.qual ++ "<lambda>" = q) (hg : env.globals = mainGlobals) (hb : env.builtins = builtinsNs) (hcode : env.code = .ref kc) (G : GoodM h kc P qs) (hm : (pos, q) ∈ qs) (ap : Apart qs) (gk : GlobK h nm bm)
    (hQ : ∀ f c' ct h' tk, h.get? f = none → Heap.ExtBut P h h' → h'.get? f = some (fnObj (lamOf q params body scope nm c' clos ct)) → GM h' q c' → GoodM h' kc P qs → Grew P h h' → Q (.ref f) ⟨h', g, d, tk, os⟩) :
    wpAny M A (eval (.Lambda params body scope pos) env) Q E ⟨h, g, d, t, os⟩ := by
  rw [arm_eval_Lambda, defaultsOf_eq, hkd, hdf, hq]
  refine wpAny_bind (wpAny_pure ?_)
  refine wpAny_bind (wpAny_holding (wpAny_pure ?_))
  rw [makeFunction_eq]
  simp only [hkw, List.zip_nil_left, List.zip_nil_right, List.filterMap_nil, List.isEmpty_nil, if_true, pure_bind]
  unfold makeTail
  rw [hcl, hg, hb]
  refine wpAny_bind (wpAny_pure ?_)
  cases clos with
  | nil => exact absurd rfl hne
  | cons c r =>
    simp only [List.isEmpty_cons, Bool.false_eq_true, if_false]
    refine wpAny_bind (wpAny_newTextTuple ?_)
    have k₁ : ∀ o, Keeps1 h (h.push o) := fun _ _ _ e => Heap.get?_push_of_some _ e
    refine wpAny_bind (functionCode_good hcode (G.keep (k₁ _)) hm ap fun c' h₂ tk hx gm G₂ gr => ?_)
    obtain ⟨ps₁, T₁, _⟩ := id (G.keep (k₁ { cls := .type "tuple", data := .seq (((c :: r).mergeSort fun a b => decide (a.1.cps.toList ≤ b.1.cps.toList)).map fun p => Value.ref p.2).toArray }))
    obtain ⟨ps₂, T₂, _⟩ := id G₂
    have gk₂ := (gk.keep (k₁ _)).but T₁.tab.2 hx
    refine wpAny_bind (bf_at gk₂ (wpAny_bind (name_at gk₂ ?_)))
    refine wpAny_bind (wpAny_pure (wpAny_newObj_type ?_ (by size_fits)))
    have up : Keeps1 h₂ (h₂.push (fnObj (lamOf q params body scope nm c' (c :: r) (.ref h.objs.size)))) := fun _ _ e => Heap.get?_push_of_some _ e
    have nf : h.get? h₂.objs.size = none := by
      cases e : h.get? h₂.objs.size with
      | none => rfl
      | some o =>
        by_cases hz : h₂.objs.size = P
        · exact absurd (hz ▸ Heap.lt_size T₂.tab.2) (Nat.lt_irrefl _)
        · exact absurd (Heap.lt_size (hx _ _ hz (k₁ _ _ _ e))) (Nat.lt_irrefl _)
    exact hQ h₂.objs.size c' (.ref h.objs.size) _ _ nf (fun b o hb e => up _ _ (hx b o hb (k₁ _ b o e))) (Heap.get?_push_size _ rfl) (gm.keep up) (G₂.keep up) fun ps₃ e₃ => (by
      obtain ⟨m, e₄⟩ := gr ps₃ (k₁ _ _ _ e₃)
      exact ⟨m, up _ _ e₄⟩)
end
end Mine
end

section
set_option maxRecDepth 100000
set_option maxHeartbeats 0
set_option linter.unusedVariables false
set_option tactic.hygienic false
namespace Mine
open PySem PySem.Calls PySem.SeqAt PySem.W PyProof.Rows PySem.W.X
/-- the top's objects, and the built-in names -/
noncomputable def KB (P : Params) (oB : Obj) : Frag := KK P ++ [(builtinsNs, oB)]
noncomputable abbrev C0 (w : World) (oB : Obj) : Cx := ⟨PySem.Challenge.pw_om0015_02, w, KB w.params oB, []⟩
noncomputable def BOk (oB : Obj) : Prop := ∀ (x : Str) (v : Value), x ≠ ("__name__" : Str) → bootBuiltins x = some v → nsLook x oB = pure (some v)
theorem look_of {o : Obj} {es : Array DictEntry} {ep : Nat} {x : Str} {r : Option Value} (hd : o.data = .dict es ep) (hk : StrKeys es) (h : nsFind es x = r) : nsLook x o = pure r := by
  simp only [nsLook_eq, nsLookByArray, hd]
  unfold nsFind findBy at h
  subst h
  cases hf : es.find? (·.key.isStr x) with
  | some e => rfl
  | none =>
    have : es.any (·.refKey) = false := by
      rw [Array.any_eq_false']; intro e he; obtain ⟨n, t, h⟩ := hk e he; simp [DictEntry.refKey, h]
    simp only [this, Bool.false_eq_true, if_false, Option.map_none]
theorem GV.main {C : Cx} {f : Str} {v : Value} {o : Obj} (ho : C.K.lookup mainGlobals = some o) (hl : nsLook f o = pure (some v)) : GV C f v := fun env A Q E s hg hb w q => by
  cases s
  unfold loadGlobal
  rw [hg]
  exact wpAny_bind (nsGet_at (w.k _ _ ho) hl (wpAny_pure q))
theorem GV.boot {C : Cx} {f : Str} {v : Value} {o oB : Obj} (ho : C.K.lookup mainGlobals = some o) (hl : nsLook f o = pure none) (hb : C.K.lookup builtinsNs = some oB) (hv : nsLook f oB = pure (some v)) : GV C f v := fun env A Q E s hg hbt w q => by
  cases s
  unfold loadGlobal
  rw [hg, hbt]
  exact wpAny_bind (nsGet_at (w.k _ _ ho) hl (wpAny_bind (nsGet_at (w.k _ _ hb) hv (wpAny_pure q))))
noncomputable def fdIn (K : Frag) (a : Addr) : FuncData := match K.lookup a with
  | some o => (match o.data with | .func fd => fd | _ => default)
  | none => default
noncomputable def cdIn (K : Frag) (a : Addr) : Addr := match (fdIn K a).code with | .ref c => c | _ => 0
noncomputable def obIn (K : Frag) (a : Addr) : Obj := (K.lookup a).getD default
noncomputable def defIn (K : Frag) (a : Addr) : DefA := ⟨a, (fdIn K a).pyModule, cdIn K a⟩
noncomputable def isCodeB (q : Str) (o : Obj) : Bool := match o.data with
  | .fields vs => (match (vs[1]? : Option Value) with | some (.str x _) => x == q | _ => false)
  | _ => false
set_option tactic.hygienic true
theorem FnK.by {C : Cx} {a : Addr} {fd : FuncData} (o : Obj) (ho : C.K.lookup a = some o) (hd : o.data = .func fd) (c : Addr) (hc : fd.code = .ref c) (oc : Obj) (hoc : C.K.lookup c = some oc) (hq : isCodeB fd.qualname oc = true) : FnK C a fd := by
  refine ⟨⟨o, ho, hd⟩, ?_⟩
  unfold isCodeB at hq
  split at hq
  · rename_i vs hv
    split at hq
    · rename_i x t hx
      rw [beq_iff_eq] at hq
      exact ⟨c, oc, vs, t, hc, hoc, hv, by rw [← hq]; exact hx⟩
    · cases hq
  · cases hq
set_option tactic.hygienic false
section
variable {w : World} {oB : Obj}
noncomputable def dfIn (K : Frag) (a : Addr) : Addr := match (fdIn K a).defaults with | .ref c => c | _ => 0
noncomputable def kwIn (K : Frag) (a : Addr) : Addr := match (fdIn K a).kwdefaults with | .ref c => c | _ => 0
theorem dEsc : DefAt (C0 w oB) "_iter_escaped_chars" 2 (defIn (C0 w oB).K 28) := ⟨.main (o := obIn (C0 w oB).K mainGlobals) (by kernel_rfl) (by kernel_rfl), FnK.by (obIn (C0 w oB).K 28) (by kernel_rfl) (by kernel_rfl) (cdIn (C0 w oB).K 28) (by kernel_rfl) (obIn (C0 w oB).K (cdIn (C0 w oB).K 28)) (by kernel_rfl) (by kernel_rfl)⟩
theorem dStrip : DefAt (C0 w oB) "_strip_quoted_realnames" 3 (defIn (C0 w oB).K 35) := ⟨.main (o := obIn (C0 w oB).K mainGlobals) (by kernel_rfl) (by kernel_rfl), FnK.by (obIn (C0 w oB).K 35) (by kernel_rfl) (by kernel_rfl) (cdIn (C0 w oB).K 35) (by kernel_rfl) (obIn (C0 w oB).K (cdIn (C0 w oB).K 35)) (by kernel_rfl) (by kernel_rfl)⟩
theorem dCheck : DefAt (C0 w oB) "_check_parenthesis" 4 (defIn (C0 w oB).K 42) := ⟨.main (o := obIn (C0 w oB).K mainGlobals) (by kernel_rfl) (by kernel_rfl), FnK.by (obIn (C0 w oB).K 42) (by kernel_rfl) (by kernel_rfl) (cdIn (C0 w oB).K 42) (by kernel_rfl) (obIn (C0 w oB).K (cdIn (C0 w oB).K 42)) (by kernel_rfl) (by kernel_rfl)⟩
theorem dBuffer : DefAt (C0 w oB) "_buffer" 6 (defIn (C0 w oB).K 49) := ⟨.main (o := obIn (C0 w oB).K mainGlobals) (by kernel_rfl) (by kernel_rfl), FnK.by (obIn (C0 w oB).K 49) (by kernel_rfl) (by kernel_rfl) (cdIn (C0 w oB).K 49) (by kernel_rfl) (obIn (C0 w oB).K (cdIn (C0 w oB).K 49)) (by kernel_rfl) (by kernel_rfl)⟩
theorem dTruth : DefAt (C0 w oB) "_truth" 7 (defIn (C0 w oB).K 56) := ⟨.main (o := obIn (C0 w oB).K mainGlobals) (by kernel_rfl) (by kernel_rfl), FnK.by (obIn (C0 w oB).K 56) (by kernel_rfl) (by kernel_rfl) (cdIn (C0 w oB).K 56) (by kernel_rfl) (obIn (C0 w oB).K (cdIn (C0 w oB).K 56)) (by kernel_rfl) (by kernel_rfl)⟩
theorem dB2a : DefAt (C0 w oB) "b2a_base64" 9 (defIn (C0 w oB).K 64) .none (.ref (kwIn (C0 w oB).K 64)) := ⟨.main (o := obIn (C0 w oB).K mainGlobals) (by kernel_rfl) (by kernel_rfl), FnK.by (obIn (C0 w oB).K 64) (by kernel_rfl) (by kernel_rfl) (cdIn (C0 w oB).K 64) (by kernel_rfl) (obIn (C0 w oB).K (cdIn (C0 w oB).K 64)) (by kernel_rfl) (by kernel_rfl)⟩
theorem dB64d : DefAt (C0 w oB) "b64encode" 11 (defIn (C0 w oB).K 72) (.ref (dfIn (C0 w oB).K 72)) := ⟨.main (o := obIn (C0 w oB).K mainGlobals) (by kernel_rfl) (by kernel_rfl), FnK.by (obIn (C0 w oB).K 72) (by kernel_rfl) (by kernel_rfl) (cdIn (C0 w oB).K 72) (by kernel_rfl) (obIn (C0 w oB).K (cdIn (C0 w oB).K 72)) (by kernel_rfl) (by kernel_rfl)⟩
theorem dC2k : DefAt (C0 w oB) "cmp_to_key" 13 (defIn (C0 w oB).K 79) := ⟨.main (o := obIn (C0 w oB).K mainGlobals) (by kernel_rfl) (by kernel_rfl), FnK.by (obIn (C0 w oB).K 79) (by kernel_rfl) (by kernel_rfl) (cdIn (C0 w oB).K 79) (by kernel_rfl) (obIn (C0 w oB).K (cdIn (C0 w oB).K 79)) (by kernel_rfl) (by kernel_rfl)⟩
theorem dRedd : DefAt (C0 w oB) "reduce" 15 (defIn (C0 w oB).K 88) (.ref (dfIn (C0 w oB).K 88)) := ⟨.main (o := obIn (C0 w oB).K mainGlobals) (by kernel_rfl) (by kernel_rfl), FnK.by (obIn (C0 w oB).K 88) (by kernel_rfl) (by kernel_rfl) (cdIn (C0 w oB).K 88) (by kernel_rfl) (obIn (C0 w oB).K (cdIn (C0 w oB).K 88)) (by kernel_rfl) (by kernel_rfl)⟩
theorem dText : DefAt (C0 w oB) "_law_text" 17 (defIn (C0 w oB).K 93) := ⟨.main (o := obIn (C0 w oB).K mainGlobals) (by kernel_rfl) (by kernel_rfl), FnK.by (obIn (C0 w oB).K 93) (by kernel_rfl) (by kernel_rfl) (cdIn (C0 w oB).K 93) (by kernel_rfl) (obIn (C0 w oB).K (cdIn (C0 w oB).K 93)) (by kernel_rfl) (by kernel_rfl)⟩
theorem dClosed : DefAt (C0 w oB) "_law_closed" 18 (defIn (C0 w oB).K 98) := ⟨.main (o := obIn (C0 w oB).K mainGlobals) (by kernel_rfl) (by kernel_rfl), FnK.by (obIn (C0 w oB).K 98) (by kernel_rfl) (by kernel_rfl) (cdIn (C0 w oB).K 98) (by kernel_rfl) (obIn (C0 w oB).K (cdIn (C0 w oB).K 98)) (by kernel_rfl) (by kernel_rfl)⟩
theorem dAhead : DefAt (C0 w oB) "_law_ahead" 19 (defIn (C0 w oB).K 105) := ⟨.main (o := obIn (C0 w oB).K mainGlobals) (by kernel_rfl) (by kernel_rfl), FnK.by (obIn (C0 w oB).K 105) (by kernel_rfl) (by kernel_rfl) (cdIn (C0 w oB).K 105) (by kernel_rfl) (obIn (C0 w oB).K (cdIn (C0 w oB).K 105)) (by kernel_rfl) (by kernel_rfl)⟩
theorem dByB : DefAt (C0 w oB) "_law_by_brackets" 20 (defIn (C0 w oB).K 110) := ⟨.main (o := obIn (C0 w oB).K mainGlobals) (by kernel_rfl) (by kernel_rfl), FnK.by (obIn (C0 w oB).K 110) (by kernel_rfl) (by kernel_rfl) (cdIn (C0 w oB).K 110) (by kernel_rfl) (obIn (C0 w oB).K (cdIn (C0 w oB).K 110)) (by kernel_rfl) (by kernel_rfl)⟩
theorem dDeed : DefAt (C0 w oB) "_law_deed" 21 (defIn (C0 w oB).K 117) := ⟨.main (o := obIn (C0 w oB).K mainGlobals) (by kernel_rfl) (by kernel_rfl), FnK.by (obIn (C0 w oB).K 117) (by kernel_rfl) (by kernel_rfl) (cdIn (C0 w oB).K 117) (by kernel_rfl) (obIn (C0 w oB).K (cdIn (C0 w oB).K 117)) (by kernel_rfl) (by kernel_rfl)⟩
theorem dRight : DefAt (C0 w oB) "_law_right" 22 (defIn (C0 w oB).K 124) := ⟨.main (o := obIn (C0 w oB).K mainGlobals) (by kernel_rfl) (by kernel_rfl), FnK.by (obIn (C0 w oB).K 124) (by kernel_rfl) (by kernel_rfl) (cdIn (C0 w oB).K 124) (by kernel_rfl) (obIn (C0 w oB).K (cdIn (C0 w oB).K 124)) (by kernel_rfl) (by kernel_rfl)⟩
theorem dRow : DefAt (C0 w oB) "_law_row" 23 (defIn (C0 w oB).K 131) := ⟨.main (o := obIn (C0 w oB).K mainGlobals) (by kernel_rfl) (by kernel_rfl), FnK.by (obIn (C0 w oB).K 131) (by kernel_rfl) (by kernel_rfl) (cdIn (C0 w oB).K 131) (by kernel_rfl) (obIn (C0 w oB).K (cdIn (C0 w oB).K 131)) (by kernel_rfl) (by kernel_rfl)⟩
theorem dCrossed : DefAt (C0 w oB) "_law_crossed" 24 (defIn (C0 w oB).K 136) := ⟨.main (o := obIn (C0 w oB).K mainGlobals) (by kernel_rfl) (by kernel_rfl), FnK.by (obIn (C0 w oB).K 136) (by kernel_rfl) (by kernel_rfl) (cdIn (C0 w oB).K 136) (by kernel_rfl) (obIn (C0 w oB).K (cdIn (C0 w oB).K 136)) (by kernel_rfl) (by kernel_rfl)⟩
theorem dLaw : DefAt (C0 w oB) "law" 25 (defIn (C0 w oB).K 141) := ⟨.main (o := obIn (C0 w oB).K mainGlobals) (by kernel_rfl) (by kernel_rfl), FnK.by (obIn (C0 w oB).K 141) (by kernel_rfl) (by kernel_rfl) (cdIn (C0 w oB).K 141) (by kernel_rfl) (obIn (C0 w oB).K (cdIn (C0 w oB).K 141)) (by kernel_rfl) (by kernel_rfl)⟩
theorem noLoc : (C0 w oB).K.lookup cStatics = some { cls := .none, data := .dict #[] } := by kernel_rfl
noncomputable def b64T (K : Frag) : Tok := match (obIn K mainGlobals).data with
  | .dict es _ => (match nsFind es "_B64" with | some (.bytes _ t) => t | _ => 0)
  | _ => 0
noncomputable def missIn (K : Frag) : Addr := match (obIn K mainGlobals).data with
  | .dict es _ => (match nsFind es "_initial_missing" with | some (.ref a) => a | _ => 0)
  | _ => 0
noncomputable def topC (hB : BOk oB) : Top (C0 w oB) where
  st := noLoc
  len := (.boot (o := obIn (C0 w oB).K mainGlobals) (oB := oB) (by kernel_rfl) (by kernel_rfl) (by kernel_rfl) (hB _ _ (by decide +kernel) (by kernel_rfl)))
  range := (.boot (o := obIn (C0 w oB).K mainGlobals) (oB := oB) (by kernel_rfl) (by kernel_rfl) (by kernel_rfl) (hB _ _ (by decide +kernel) (by kernel_rfl)))
  sorted := (.boot (o := obIn (C0 w oB).K mainGlobals) (oB := oB) (by kernel_rfl) (by kernel_rfl) (by kernel_rfl) (hB _ _ (by decide +kernel) (by kernel_rfl)))
  chr := (.boot (o := obIn (C0 w oB).K mainGlobals) (oB := oB) (by kernel_rfl) (by kernel_rfl) (by kernel_rfl) (hB _ _ (by decide +kernel) (by kernel_rfl)))
  bytes := (.boot (o := obIn (C0 w oB).K mainGlobals) (oB := oB) (by kernel_rfl) (by kernel_rfl) (by kernel_rfl) (hB _ _ (by decide +kernel) (by kernel_rfl)))
  bytearray := (.boot (o := obIn (C0 w oB).K mainGlobals) (oB := oB) (by kernel_rfl) (by kernel_rfl) (by kernel_rfl) (hB _ _ (by decide +kernel) (by kernel_rfl)))
  bool := (.boot (o := obIn (C0 w oB).K mainGlobals) (oB := oB) (by kernel_rfl) (by kernel_rfl) (by kernel_rfl) (hB _ _ (by decide +kernel) (by kernel_rfl)))
  type := (.boot (o := obIn (C0 w oB).K mainGlobals) (oB := oB) (by kernel_rfl) (by kernel_rfl) (by kernel_rfl) (hB _ _ (by decide +kernel) (by kernel_rfl)))
  iter := (.boot (o := obIn (C0 w oB).K mainGlobals) (oB := oB) (by kernel_rfl) (by kernel_rfl) (by kernel_rfl) (hB _ _ (by decide +kernel) (by kernel_rfl)))
  enumerate := (.boot (o := obIn (C0 w oB).K mainGlobals) (oB := oB) (by kernel_rfl) (by kernel_rfl) (by kernel_rfl) (hB _ _ (by decide +kernel) (by kernel_rfl)))
  b64t := b64T (C0 w oB).K
  b64v := .main (o := obIn (C0 w oB).K mainGlobals) (by kernel_rfl) (by kernel_rfl)
  esc := defIn (C0 w oB).K 28
  hEsc := dEsc
  strip := defIn (C0 w oB).K 35
  hStrip := dStrip
  check := defIn (C0 w oB).K 42
  hCheck := dCheck
  buffer := defIn (C0 w oB).K 49
  hBuffer := dBuffer
  truth := defIn (C0 w oB).K 56
  hTruth := dTruth
  b2a := defIn (C0 w oB).K 64
  kB2a := kwIn (C0 w oB).K 64
  hB2a := dB2a
  b64 := defIn (C0 w oB).K 72
  dB64 := dfIn (C0 w oB).K 72
  hB64 := dB64d
  tB64 := ⟨obIn (C0 w oB).K (dfIn (C0 w oB).K 72), 0, by kernel_rfl, by kernel_rfl⟩
  c2k := defIn (C0 w oB).K 79
  hC2k := dC2k
  red := defIn (C0 w oB).K 88
  dRed := dfIn (C0 w oB).K 88
  hRed := dRedd
  miss := missIn (C0 w oB).K
  tRed := ⟨obIn (C0 w oB).K (dfIn (C0 w oB).K 88), 0, by kernel_rfl, by kernel_rfl⟩
  vMiss := .main (o := obIn (C0 w oB).K mainGlobals) (by kernel_rfl) (by kernel_rfl)
  max := (.boot (o := obIn (C0 w oB).K mainGlobals) (oB := oB) (by kernel_rfl) (by kernel_rfl) (by kernel_rfl) (hB _ _ (by decide +kernel) (by kernel_rfl)))
  text := defIn (C0 w oB).K 93
  hText := dText
  closed := defIn (C0 w oB).K 98
  hClosed := dClosed
  ahead := defIn (C0 w oB).K 105
  hAhead := dAhead
  byB := defIn (C0 w oB).K 110
  hByB := dByB
  deed := defIn (C0 w oB).K 117
  hDeed := dDeed
  right := defIn (C0 w oB).K 124
  hRight := dRight
  row := defIn (C0 w oB).K 131
  hRow := dRow
  crossed := defIn (C0 w oB).K 136
  hCrossed := dCrossed
end
end Mine
end

section
set_option maxRecDepth 100000
set_option maxHeartbeats 0
set_option linter.unusedVariables false
set_option tactic.hygienic false
namespace Mine
open PySem PySem.Calls PySem.SeqAt PySem.W PyProof.Rows PySem.W.X
section
variable {C : Cx} {n : Nat} {env : Env} {σ : Sto} {O Ow : List Addr}
theorem Ex1.go {st : Stmt} {Ow' : List Addr} {σ' : Sto} {A : Around} {s : Shared} {rest : List Stmt} {Q : Flow → Shared → Prop} (h : Ex1 C n env O Ow σ st (fun a b => a = Ow' ∧ b = σ') (fun _ => False)) (g : GS C n A O Ow env σ s)
    (k : ∀ s', SS C env Ow s s' → NewO Ow Ow' s.heap → GS C n A O Ow' env σ' s' → wpAny C.M A (execs rest env) Q NoE s') : wpAny C.M A (execs (st :: rest) env) Q NoE s :=
  wpAny_execs_cons (h A s _ g (fun Ow'' σ'' s' hN ss hn r => by obtain ⟨rfl, rfl⟩ := hN; exact k s' ss hn (g.ss ss r hn)) fun _ _ _ z => z.elim)
theorem execs_append (l₁ l₂ : List Stmt) (env : Env) : execs (l₁ ++ l₂) env = execs l₁ env >>= fun f => match f with | .next => execs l₂ env | f => pure f := by
  induction l₁ with
  | nil => rw [execs_nil]; simp
  | cons x r ih =>
    rw [List.cons_append, execs_cons, execs_cons, bind_assoc]
    congr 1
    funext f
    cases f <;> simp [ih]
/-- a stretch of statements, then the others -/
theorem Ex.goOn {l₁ l₂ : List Stmt} {Ow' : List Addr} {σ' : Sto} {A : Around} {s : Shared} {Q : Flow → Shared → Prop} (h : Ex C n env O Ow σ l₁ (fun a b => a = Ow' ∧ b = σ') (fun _ => False)) (g : GS C n A O Ow env σ s)
    (k : ∀ s', SS C env Ow s s' → NewO Ow Ow' s.heap → GS C n A O Ow' env σ' s' → wpAny C.M A (execs l₂ env) Q NoE s') : wpAny C.M A (execs (l₁ ++ l₂) env) Q NoE s := by
  rw [execs_append]
  exact wpAny_bind (h A s _ g (fun Ow'' σ'' s' hN ss hn r => by obtain ⟨rfl, rfl⟩ := hN; exact k s' ss hn (g.ss ss r hn)) fun _ _ _ z => z.elim)
/-- what the whole call keeps, whatever a frame of it does -/
theorem SK.more {T : List Addr} {s₀ s s' : Shared} (hC : C.TB = []) (k : SK T s₀ s) (x : SS C env [] s s') (n : ∀ b ∈ Mu env [], s₀.heap.get? b = none) : SK T s₀ s' := by
  obtain ⟨m, e, b⟩ := k.gens
  obtain ⟨m', e', b'⟩ := x.gens
  have ks := x.ks
  rw [hC] at ks
  refine ⟨⟨fun b o e hb => ks.keep b o (k.kp.keep b o e hb) (fun h => nomatch h) fun hm => (by rw [n b hm] at e; cases e), fun b hb ps e => ?_⟩, x.os.trans k.os, m ++ m', by rw [e', e, Array.append_assoc], bare_append b b'⟩
  obtain ⟨m, e⟩ := k.kp.tab b hb ps e
  refine ⟨m, ks.keep b _ e (fun h => nomatch h) fun hm => ?_⟩
  rename_i h0
  rw [n b hm] at h0; cases h0
theorem call_raw {A : Around} {a : Addr} {fd : FuncData} {body : List Stmt} {vs : List Value} {kw : List (Str × Value)} {binds : List (Str × Value)} {s : Shared} {Q : Value → Shared → Prop}
    (st : Statics C) (ha : AOk (n + 1) A) (w : Wd C.K C.TB s.heap) (ex : OOk O s.heap) (fa : FnAt s.heap a fd) (hbind : BindsTo s fd ⟨vs, kw⟩ binds) (hb : Binds O s.heap binds σ)
    (hbody : fd.body = .stmts body) (hclo : fd.closure = []) (hnd : (binds.map (·.1)).Nodup)
    (hkind : ∀ x ∈ binds, fd.scope.names.lookup x.1 = some .local ∨ (fd.scope.names.lookup x.1 = some .cell ∧ ((cellsFrom (s.heap.objs.size + 1) fd.scope.names []).lookup x.1).isSome = true))
    (hcn : ((cellsFrom 0 fd.scope.names []).map (·.1)).Nodup)
    (hrun : ∀ s₁, (∀ b o, s.heap.get? b = some o → s₁.heap.get? b = some o) → s₁.os = s.os → s₁.gens = s.gens → (∀ b ∈ Mu (callEnvC fd s.heap.objs.size a) [], s.heap.get? b = none) → GS C n (A.deeper (callEnvC fd s.heap.objs.size a)) O [] (callEnvC fd s.heap.objs.size a) σ s₁ →
      wpAny C.M (A.deeper (callEnvC fd s.heap.objs.size a)) (execs body (callEnvC fd s.heap.objs.size a)) (fun f s' => Q (match f with | .ret v => v | _ => .none) s') NoE s₁)
    (hco : fd.scope.isCoroutine = false := by rfl) (hgen : fd.scope.isGenerator = false := by rfl) (hk : fd.scope.kind = .function := by rfl) :
    wpAny C.M A (call (.ref a) vs kw) Q NoE s := by
  refine wpAny_call ?_
  obtain ⟨o, ho, hdata⟩ := fa.ob
  refine codeAny_call_function ha.depth ho hdata hco hgen hbody fa.code (hbind _ _ _ _ ?_)
  rw [hclo]
  refine wpAny_newFunctionEnv_cells hk hkind fun env he s₁ x => ?_
  subst he
  obtain ⟨h₁, tk, rfl⟩ := x.toInCall.same
  refine ⟨(w.noLimit st).keeps x.toInCall.keep, codeAny_func (noE ?_)⟩
  have kp' : Kp C.TB s.heap h₁ := .of x.toInCall.keep
  have nd : ((callEnvC fd s.heap.objs.size a).cells.map (·.1)).Nodup := (cellsFrom_names fd.scope.names 0 (s.heap.objs.size + 1) [] [] rfl) ▸ hcn
  have new : ∀ b ∈ Mu (callEnvC fd s.heap.objs.size a) [], s.heap.get? b = none := fun b hb => by
    have hge : s.heap.objs.size ≤ b := by
      unfold Mu at hb
      rcases List.mem_cons.mp hb with h | h
      · exact h ▸ Nat.le_refl _
      · rw [List.append_nil] at h
        obtain ⟨x', hm⟩ := mem_ownCells h
        exact Nat.le_of_lt (x.above x' b hm)
    cases e : s.heap.get? b with
    | none => rfl
    | some o => exact absurd (Heap.lt_size e) (Nat.not_lt.mpr hge)
  refine hrun _ x.toInCall.keep rfl rfl new ⟨⟨ha.deeper, w.kp kp', ⟨⟨hk, ⟨_, x.toInCall.ns⟩, fun y c e => ⟨_, x.cell y c e⟩⟩, fun y e he => ?_, (fun a ha => nomatch ha), ex.kp kp' w.tb⟩⟩, fun b hb => ?_, x.apart, nd⟩
  · obtain ⟨v, hv, i⟩ := hb.get he
    refine ⟨v, ?_, i.move (kp'.seq w.tb O) fun a ha => nomatch ha⟩
    rcases hkind _ hv with hl | ⟨hl, hc⟩
    · exact .inl ⟨hl, _, x.toInCall.ns, bindL_get hl hnd hv⟩
    · obtain ⟨c, hc⟩ := Option.isSome_iff_exists.mp hc
      refine .inr ⟨.inl hl, c, hc, ?_⟩
      have this : h₁.IsCell c (bindC (Env.kindOf (callEnvC fd s.heap.objs.size a)) binds (fun _ => none) y) := x.cell y c hc
      have e : bindC (Env.kindOf (callEnvC fd s.heap.objs.size a)) binds (fun _ => none) y = some v := bindC_get hl hnd hv
      rw [e] at this
      exact this
  · cases e : C.K.lookup b with
    | none => rfl
    | some o => rw [← new b hb, w.k b o e]
end
end Mine
end

section
set_option maxRecDepth 100000
set_option linter.unusedVariables false
set_option tactic.hygienic false
namespace Mine
open PySem PySem.Calls PyProof.Rows PySem.W PySem.SeqAt
/-- a turn of a clause with another behind it -/
theorem compTurn_mid {elt target iter t' i' : Expr} {ifs f' : List Expr} {gens : List Comprehension} {scope : Scope} {pos : Pos} {d : Nat} {it acc : Value} {env : Env} (hg : gens[d]? = some ⟨target, iter, ifs, 0⟩) (hn : gens[d + 1]? = some ⟨t', i', f', 0⟩) :
    compTurn (.ListComp elt gens scope pos) d it acc env = (do
      standAt iter.pos
      match ← pyNext it with
      | none => pure (.done .next)
      | some v =>
        letOwnedTupleGo target it v
        assign target env v
        let mut ok := true
        for c in ifs do
          if ok then ok ← isTrue c env (eval c env)
        if ok then
          let x ← eval i' env
          standAt i'.pos
          let x ← foldedSetIterable i' env x
          let l ← holding [x] (pyIter x)
          let _ ← runOwn (.compStart (.ListComp elt gens scope pos) (d + 1) l acc env) env
        again (.compLoop (.ListComp elt gens scope pos) d it acc env)) := by
  unfold compTurn
  dsimp only
  rw [hg]
  dsimp only
  rw [hn]
  rfl
theorem compTurn_leaf {elt target iter : Expr} {ifs : List Expr} {gens : List Comprehension} {scope : Scope} {pos : Pos} {d : Nat} {it acc : Value} {env : Env} (hg : gens[d]? = some ⟨target, iter, ifs, 0⟩) (hn : gens[d + 1]? = none) :
    compTurn (.ListComp elt gens scope pos) d it acc env = (do
      standAt iter.pos
      match ← pyNext it with
      | none => pure (.done .next)
      | some v =>
        letOwnedTupleGo target it v
        assign target env v
        let mut ok := true
        for c in ifs do
          if ok then ok ← isTrue c env (eval c env)
        if ok then
          (do let _ ← call (.builtin "list.append") [acc, ← eval elt env])
        again (.compLoop (.ListComp elt gens scope pos) d it acc env)) := by
  unfold compTurn
  dsimp only
  rw [hg]
  dsimp only
  rw [hn]
  rfl
section
variable {C : Cx} {n : Nat} {env : Env} {σ : Sto}
/-- what a turn does at its end, whatever comes then -/
noncomputable def EndOf (C : Cx) (A : Around) (elt : Expr) (gens : List Comprehension) (scope : Scope) (pos : Pos) (d : Nat) (acc : Value) (cenv : Env) (P : Shared → Prop) (s : Shared) : Prop :=
  match gens[d + 1]? with
  | none => wpAny C.M A (eval elt cenv) (fun x s₅ => wpAny C.M A (call (.builtin "list.append") [acc, x]) (fun _ s₆ => P s₆) NoE s₅) NoE s
  | some g' => (∀ x, foldedSetIterable g'.iter cenv x = pure x) ∧ wpAny C.M A (eval g'.iter cenv) (fun x s₅ => wpAny C.M A (pyIter x) (fun l s₆ => codeAny C.M A (.compStart (.ListComp elt gens scope pos) (d + 1) l acc cenv) (fun r s' => r = .ok .next ∧ P s') s₆) NoE s₅) NoE s
theorem nestTurns {A : Around} {R : Result → Shared → Prop} {s : Shared} {elt target iter : Expr} {ifs : List Expr} {gens : List Comprehension} {scope : Scope} {pos : Pos} {d : Nat} {it acc : Value} {cenv : Env} (ha : ∀ g', gens[d + 1]? = some g' → g'.is_async = 0) (hg : gens[d]? = some ⟨target, iter, ifs, 0⟩) (I : Nat → Shared → Prop)
    (turn : ∀ k s, I k s → wpAny C.M A (pyNext it) (fun r s₁ => match r with
      | none => R (.ok .next) s₁
      | some v => wpAny C.M A (letOwnedTupleGo target it v) (fun _ s₂ => wpAny C.M A (assign target cenv v) (fun _ s₃ =>
          wpAny C.M A (forIn ifs true fun c r => if r = true then do let ok ← isTrue c cenv (eval c cenv); pure (ForInStep.yield ok) else pure (ForInStep.yield r)) (fun ok s₄ =>
            if ok = true then EndOf C A elt gens scope pos d acc cenv (fun s₆ => ∃ m, m < k ∧ I m s₆) s₄
            else ∃ m, m < k ∧ I m s₄) NoE s₃) NoE s₂) NoE s₁) NoE s)
    (k : Nat) (h : I k s) : codeAny C.M A (.compLoop (.ListComp elt gens scope pos) d it acc cenv) R s := by
  refine codeAny_loop rfl I (fun k s hI => ?_) k h
  show wpAny _ A ((compTurn (.ListComp elt gens scope pos) d it acc cenv).onRaise (fun x => do noteFrame x cenv; theTreesLotGoes x)) _ _ s
  refine wpAny_noted (noE ?_)
  have t := turn k s hI
  clear turn
  unfold EndOf at t
  cases hn : gens[d + 1]? with
  | none =>
    rw [hn] at t
    rw [compTurn_leaf hg hn]
    refine wpAny_bind (wpAny_standAt (wpAny_bind (wpAny_mono t (fun r s₁ h₁ => ?_) fun _ _ x => x)))
    cases r with
    | none => exact wpAny_pure h₁
    | some v =>
      refine wpAny_bind (wpAny_mono h₁ (fun _ s₂ h₂ => wpAny_bind (wpAny_mono h₂ (fun _ s₃ h₃ => wpAny_bind (wpAny_mono h₃ (fun ok s₄ h₄ => ?_) fun _ _ x => x)) fun _ _ x => x)) fun _ _ x => x)
      cases ok with
      | false =>
        simp only [Bool.false_eq_true, if_false] at h₄ ⊢
        exact wpAny_pure ⟨rfl, h₄⟩
      | true =>
        simp only [if_true] at h₄ ⊢
        exact wpAny_bind (wpAny_bind (wpAny_mono h₄ (fun x s₅ h₅ => wpAny_bind (wpAny_mono h₅ (fun _ s₆ h₆ => wpAny_pure (wpAny_pure ⟨rfl, h₆⟩)) fun _ _ x => x)) fun _ _ x => x))
  | some g' =>
    obtain ⟨t', i', f', as⟩ := g'
    rw [hn] at t
    by_cases has : as = 0
    · subst has
      rw [compTurn_mid hg hn]
      refine wpAny_bind (wpAny_standAt (wpAny_bind (wpAny_mono t (fun r s₁ h₁ => ?_) fun _ _ x => x)))
      cases r with
      | none => exact wpAny_pure h₁
      | some v =>
        refine wpAny_bind (wpAny_mono h₁ (fun _ s₂ h₂ => wpAny_bind (wpAny_mono h₂ (fun _ s₃ h₃ => wpAny_bind (wpAny_mono h₃ (fun ok s₄ h₄ => ?_) fun _ _ x => x)) fun _ _ x => x)) fun _ _ x => x)
        cases ok with
        | false =>
          simp only [Bool.false_eq_true, if_false] at h₄ ⊢
          exact wpAny_pure ⟨rfl, h₄⟩
        | true =>
          simp only [if_true] at h₄ ⊢
          obtain ⟨hf, h₄⟩ := h₄
          refine wpAny_bind (wpAny_mono h₄ (fun x s₅ h₅ => wpAny_bind (wpAny_standAt (wpAny_bind ?_))) fun _ _ x => x)
          rw [hf]
          refine wpAny_pure (wpAny_bind (wpAny_holding (wpAny_mono h₅ (fun l s₆ h₆ => wpAny_bind (wpAny_runOwn ?_)) fun _ _ x => x)))
          refine codeAny_mono h₆ fun r s' h' => ?_
          obtain ⟨rfl, h'⟩ := h'
          exact wpAny_pure ⟨rfl, h'⟩
    · exact absurd (ha _ hn) has

theorem compStart_nest {A : Around} {R : Result → Shared → Prop} {s : Shared} {elt target iter : Expr} {ifs : List Expr} {gens : List Comprehension} {scope : Scope} {pos : Pos} {d : Nat} {it acc : Value} {cenv : Env} (hg : gens[d]? = some ⟨target, iter, ifs, 0⟩)
    (h0 : codeAny C.M A (.compLoop (.ListComp elt gens scope pos) d it acc cenv) R s)
    (h : wpAny C.M A (pyIter it) (fun it' s' => codeAny C.M A (.compLoop (.ListComp elt gens scope pos) d it' acc cenv) R s') NoE s) :
    codeAny C.M A (.compStart (.ListComp elt gens scope pos) d it acc cenv) R s := by
  refine codeAny_of_tree ?_
  show wpAny _ _ ((compStart (.ListComp elt gens scope pos) d it acc cenv).onRaise (fun x => do noteFrame x cenv; standAt theWindowsPlace)) _ _ s
  refine wpAny_notedAt ?_
  unfold compStart
  have hc : (clausesOf (.ListComp elt gens scope pos))[d]? = some ⟨target, iter, ifs, 0⟩ := hg
  rw [hc]
  show wpAny _ _ (ask >>= _) _ _ s
  refine wpAny_bind (wpAny_askSetting (wpAny_ite ?_))
  split
  · first
      | exact wpAny_bind (wpAny_pure (wpAny_pure (And.intro rfl h0)))
      | exact wpAny_pure (And.intro rfl h0)
  · first
      | (refine wpAny_bind (wpAny_rule ?_); show wpAny _ _ (standAt iter.pos >>= _) _ _ s; exact wpAny_bind (wpAny_standAt (wpAny_bind (wpAny_mono (noE h) (fun it' s' h' => wpAny_pure (And.intro rfl h')) fun _ _ x => x))))
/-- what a clause does, item by item, behind its tests -/
noncomputable def EndAt (C : Cx) (n : Nat) (A : Around) (O : List Addr) (b₀ : Shared) (elt : Expr) (gens : List Comprehension) (scope : Scope) (pos : Pos) (d : Nat) (acc : Addr) (cenv : Env) (σ : Sto) (F : List D) : Prop :=
  ∀ (s : Shared) (vs : List Value) (es : List D) (P : Shared → Prop), Good C n A (acc :: O) [] cenv σ s → SK C.TB b₀ s → LsAt s.heap acc vs → IsAll (acc :: O) s.heap vs es → es.length + F.length ≤ 1000000 →
    (∀ s' vs', SK C.TB b₀ s' → KS C.TB [acc, cenv.locals] s.heap s'.heap → LsAt s'.heap acc vs' → IsAll (acc :: O) s'.heap vs' (es ++ F) → Rel (acc :: O) [] cenv σ s'.heap → P s') → EndOf C A elt gens scope pos d (.ref acc) cenv P s
theorem KS.drop {TB Mu : List Addr} {I : Addr} {h₀ h₁ h₂ : Heap} (x : KS TB Mu h₀ h₁) (y : KS TB (I :: Mu) h₁ h₂) (n : h₀.get? I = none) : KS TB Mu h₀ h₂ :=
  ⟨fun b o e nb m => y.keep b o (x.keep b o e nb m) nb fun q => by
    rcases List.mem_cons.mp q with rfl | q
    · rw [n] at e; cases e
    · exact m q, fun b hb ps e => by
    obtain ⟨m1, e1⟩ := x.tab b hb ps e
    obtain ⟨m2, e2⟩ := y.tab b hb _ e1
    exact ⟨m1 ++ m2, by rw [e2, Array.append_assoc]⟩⟩
theorem take_flat {α β : Type} (p : α → Bool) (F : α → List β) (l : List α) (i : Nat) : (((l.take i).filter p).flatMap F).length ≤ ((l.filter p).flatMap F).length := by
  have : l = l.take i ++ l.drop i := (List.take_append_drop i l).symm
  conv => rhs; rw [this]
  rw [List.filter_append, List.flatMap_append, List.length_append]
  exact Nat.le_add_right _ _
theorem nest_loop {A : Around} {O : List Addr} {I acc : Addr} {ds : List D} {elt target iter : Expr} {ifs : List Expr} {gens : List Comprehension} {scope : Scope} {pos : Pos} {dp : Nat} {cenv : Env} {σc : Sto} {tgt : D → Sto} {p : D → Bool} {F : D → List D} {b₀ s₁ s₂ : Shared} {vs₀ : List Value} {es₀ : List D} {P : Shared → Prop}
    (ha : AOk n A) (w : Wd C.K C.TB b₀.heap) (has : ∀ g', gens[dp + 1]? = some g' → g'.is_async = 0) (hg : gens[dp]? = some ⟨target, iter, ifs, 0⟩) (it : IterAt C A (acc :: O) I ds s₁.heap s₂.heap)
    (k₁ : SK C.TB b₀ s₁) (k₂ : SK C.TB b₀ s₂) (hb : b₀.heap.get? acc = none) (hbL : b₀.heap.get? cenv.locals = none) (hls : LsAt s₂.heap acc vs₀) (hal : IsAll (acc :: O) s₂.heap vs₀ es₀) (hr : Rel (acc :: O) [] cenv σc s₂.heap)
    (htg : ∀ d x e, σc.lookup x = some e → (tgt d ++ σc).lookup x = some e)
    (hA : ∀ d ∈ ds, Asg C n cenv target d (tgt d)) (hT : ∀ d ∈ ds, Trs C n cenv (tgt d ++ σc) ifs (p d)) (hE : ∀ d ∈ ds, p d = true → EndAt C n A O b₀ elt gens scope pos dp acc cenv (tgt d ++ σc) (F d))
    (hz : es₀.length + ((ds.filter p).flatMap F).length ≤ 1000000)
    (hown : ∀ (s : Shared) (v : Value) (Q : Unit → Shared → Prop), IsIt s.heap I → Q () s → wpAny C.M A (letOwnedTupleGo target (.ref I) v) Q NoE s)
    (hR : ∀ s' vs', SK C.TB b₀ s' → KS C.TB [I, acc, cenv.locals] s₂.heap s'.heap → LsAt s'.heap acc vs' → IsAll (acc :: O) s'.heap vs' (es₀ ++ (ds.filter p).flatMap F) → Rel (acc :: O) [] cenv σc s'.heap → P s') :
    codeAny C.M A (.compStart (.ListComp elt gens scope pos) dp (.ref I) (.ref acc) cenv) (fun r s' => r = .ok .next ∧ P s') s₂ := by
  obtain ⟨fp, Pv, St, W, hst, hI0, hfp, hP, hit⟩ := it
  have w₂ := w.sk k₂
  have notD : ∀ {h : Heap} {m : Str → Option Value}, h.Ns cenv.locals m → ∀ o, h.get? cenv.locals = some o → ∃ es ep, o.data = .dict es ep := fun hn o e => by
    obtain ⟨o', es, ep, e', hd', _⟩ := hn
    rw [e] at e'; cases e'; exact ⟨es, ep, hd'⟩
  have hnA : acc ∉ fp := fun hm => (hfp _ hm).2.1 List.mem_cons_self
  have hnL : cenv.locals ∉ fp := fun hm => by
    obtain ⟨m, hn⟩ := hr.ok.ns
    obtain ⟨_, _, o, e, nd, _⟩ := hfp _ hm
    obtain ⟨es, ep, q⟩ := notD hn o e
    exact nd _ _ q
  have hIf : I ∈ fp := W.sub I (by simp)
  have hIT : I ∉ C.TB := (hfp I hIf).1
  have hIb : b₀.heap.get? I = none := k₁.gone w.tb I hI0
  have hIt₂ := hit _ _ hst
  have nI : ∀ i h, St i h → ∀ o, h.get? I = some o → ∃ vs, o.data = .fields vs := fun i h st o e => by
    obtain ⟨oI, cI, vI, eI, hcI, hdI, _⟩ := hit _ _ st
    rw [eI] at e; cases e; exact ⟨_, hdI⟩
  let J : Nat → Shared → Prop := fun k s' => ∃ i vs, i ≤ ds.length ∧ k = ds.length + 1 - i ∧ SK C.TB b₀ s' ∧ KS C.TB [I, acc, cenv.locals] s₂.heap s'.heap ∧ St i s'.heap ∧ LsAt s'.heap acc vs ∧ IsAll (acc :: O) s'.heap vs (es₀ ++ ((ds.take i).filter p).flatMap F) ∧ Rel (acc :: O) [] cenv σc s'.heap
  have loop : ∀ k s', J k s' → codeAny C.M A (.compLoop (.ListComp elt gens scope pos) dp (.ref I) (.ref acc) cenv) (fun r s' => r = .ok .next ∧ P s') s' := by
    intro k s' hJ
    refine nestTurns has hg J (fun k s' hJ => ?_) k hJ
    obtain ⟨i, vs, hi, hk, hsk, hks, hst', hls', hall, hrel⟩ := hJ
    have w' := w.sk hsk
    have ksI : ∀ {h₁ : Heap}, (∀ b o, b ∉ [I] → s'.heap.get? b = some o → h₁.get? b = some o) → KS C.TB [I] s'.heap h₁ ∧ FK [] s'.heap h₁ := fun hk₁ => by
      have ks₁ : KS C.TB [I] s'.heap _ := .of_but hk₁ fun b hb hm => by rw [List.mem_singleton] at hm; exact hIT (hm ▸ hb)
      refine ⟨ks₁, ks₁.fk w'.tb fun b hb => .inr fun o e => ?_⟩
      rw [List.mem_singleton] at hb; subst hb
      obtain ⟨vs, q⟩ := nI _ _ hst' o e
      rw [q]; exact ⟨(fun _ _ z => by cases z), (fun _ z => by cases z), fun _ _ z => by cases z⟩
    by_cases hlt : i < ds.length
    · refine W.item i s' _ _ hlt hst' fun v h₁ tk₁ hPv hst₁ hk₁ => ?_
      have hd : ds[i]? = some ds[i] := List.getElem?_eq_getElem hlt
      have hmem : ds[i] ∈ ds := List.getElem_mem hlt
      obtain ⟨ks₁, fk₁⟩ := ksI hk₁
      have hrel₁ := hrel.fk fk₁
      have sk₁ : SK C.TB b₀ { s' with heap := h₁, toks := tk₁ } := hsk.ks ks₁ (fun b hb => by rw [List.mem_singleton] at hb; subst hb; exact hIb) rfl rfl
      have ks₂₁ : KS C.TB [I, acc, cenv.locals] s₂.heap h₁ := hks.trans (ks₁.mono fun b hb => by simp at hb; simp [hb])
      have dk₁ : DataKeep (acc :: O) s₂.heap h₁ := ks₂₁.data (O := acc :: O) w₂.tb fun b hb => by
        simp only [List.mem_cons, List.not_mem_nil, or_false] at hb
        rcases hb with rfl | rfl | rfl
        · refine .inr fun o e => ?_
          obtain ⟨vs, q⟩ := nI _ _ hst o e
          rw [q]; exact fun _ _ z => by cases z
        · exact .inl (by simp)
        · refine .inr fun o e => ?_
          obtain ⟨m, hn⟩ := hr.ok.ns
          obtain ⟨es, ep, q⟩ := notD hn o e
          rw [q]; exact fun _ _ z => by cases z
      have iv : Is (acc :: O) h₁ v ds[i] := hP h₁ dk₁ i v _ hPv hd
      refine hown _ v _ (hit _ _ hst₁) ?_
      refine hA _ hmem A (acc :: O) [] σc _ v _ ⟨ha, w.sk sk₁, hrel₁⟩ iv fun s₃ ks₃ os₃ gs₃ hrel₃ => ?_
      obtain ⟨m₁, hn₁⟩ := hrel₁.ok.ns
      have sk₃ : SK C.TB b₀ s₃ := sk₁.ks ks₃ (fun b hb => by rw [List.mem_singleton] at hb; subst hb; exact hbL) os₃ gs₃
      have dk₃ : DataKeep (acc :: O) h₁ s₃.heap := ks₃.data (w.sk sk₁).tb fun b hb => .inr fun o e => by
        rw [List.mem_singleton] at hb; subst hb
        obtain ⟨es, ep, q⟩ := notD hn₁ o e
        rw [q]; exact fun _ _ z => by cases z
      have hst₃ : St (i + 1) s₃.heap := W.frame _ _ _ hst₁ fun b hb o e => ks₃.keep b o e (hfp b hb).1 fun hm => by rw [List.mem_singleton] at hm; exact hnL (hm ▸ hb)
      have ks₂₃ : KS C.TB [I, acc, cenv.locals] s₂.heap s₃.heap := ks₂₁.trans (ks₃.mono fun b hb => by simp at hb; simp [hb])
      obtain ⟨kk, els⟩ := hls'
      have nT : ∀ {h : Heap} {vs : List Value} {kk : Nat}, TbOk C.TB h → h.get? acc = some { cls := .type "list", data := .seq vs.toArray kk } → acc ∉ C.TB := fun t e => t.apart e fun ⟨ps, z⟩ => by cases z
      have els₁ := fk₁ acc _ els (by simp) (.inr (.inr ⟨_, _, rfl⟩))
      have neAL : acc ≠ cenv.locals := fun q => by
        obtain ⟨_, _, q'⟩ := notD hn₁ _ (q ▸ els₁)
        cases q'
      have els₃ : s₃.heap.get? acc = _ := ks₃.keep acc _ els₁ (nT (w.sk sk₁).tb els₁) (by simpa using neAL)
      have hall₃ := (hall.keep (fun b o e d _ => fk₁ b o e (by simp) (.inr (.inr d))) fun _ _ _ q => q).keep dk₃ fun _ _ _ q => q
      have g₃ : Good C n A (acc :: O) [] cenv (tgt ds[i] ++ σc) s₃ := ⟨ha, w.sk sk₃, hrel₃⟩
      refine hT _ hmem A (acc :: O) [] s₃ _ g₃ fun s₄ sk₄ => ?_
      have g₄ := g₃.sk sk₄
      have take1 : ds.take (i + 1) = ds.take i ++ [ds[i]] := by rw [List.take_add_one, hd]; rfl
      have hst₄ : St (i + 1) s₄.heap := W.frame _ _ _ hst₃ fun b hb o e => sk₄.kp.keep b o e (hfp b hb).1
      have ls₄ : LsAt s₄.heap acc vs := ⟨kk, sk₄.kp.keep acc _ els₃ (nT (w.sk sk₃).tb els₃)⟩
      have all₄ := hall₃.kp sk₄.kp (w.sk sk₃).tb
      have ks₂₄ := ks₂₃.trans (sk₄.kp.ks [I, acc, cenv.locals])
      have down : ds.length + 1 - (i + 1) < k := by rw [hk]; exact Nat.sub_lt_sub_left (Nat.lt_succ_of_lt hlt) (Nat.lt_succ_self i)
      cases hp : p ds[i] with
      | false =>
        simp only [Bool.false_eq_true, if_false]
        refine ⟨ds.length + 1 - (i + 1), down, i + 1, vs, hlt, rfl, sk₃.trans sk₄, ks₂₄, hst₄, ls₄, ?_, (g₄.r).sub_sto (htg _)⟩
        rw [take1, List.filter_append, List.filter_cons_of_neg (by simp [hp]), List.filter_nil, List.append_nil]
        exact all₄
      | true =>
        simp only [if_true]
        have flat : ((ds.take (i + 1)).filter p).flatMap F = ((ds.take i).filter p).flatMap F ++ F ds[i] := by
          rw [take1, List.filter_append, List.filter_cons_of_pos hp, List.filter_nil, List.flatMap_append, List.flatMap_cons, List.flatMap_nil, List.append_nil]
        have sz : (es₀ ++ ((ds.take i).filter p).flatMap F).length + (F ds[i]).length ≤ 1000000 := by
          have := take_flat p F ds (i + 1)
          rw [flat, List.length_append] at this
          rw [List.length_append]
          (first | lia | omega)
        refine hE _ hmem hp s₄ vs _ _ g₄ (sk₃.trans sk₄) ls₄ all₄ sz fun s₅ vs₅ sk₅ ks₅ ls₅ all₅ rel₅ => ?_
        refine ⟨ds.length + 1 - (i + 1), down, i + 1, vs₅, hlt, rfl, sk₅, ks₂₄.trans (ks₅.mono fun b hb => by simp at hb; rcases hb with rfl | rfl <;> simp), ?_, ls₅, ?_, rel₅.sub_sto (htg _)⟩
        · exact W.frame _ _ _ hst₄ fun b hbf o e => ks₅.keep b o e (hfp b hbf).1 fun hm => by
            simp only [List.mem_cons, List.not_mem_nil, or_false] at hm
            rcases hm with rfl | rfl
            · exact hnA hbf
            · exact hnL hbf
        · rw [flat, ← List.append_assoc]
          exact all₅
    · have hin : i = ds.length := by (first | lia | omega)
      subst hin
      refine W.done s' _ _ hst' fun h₁ tk₁ hk₁ => ?_
      obtain ⟨ks₁, fk₁⟩ := ksI hk₁
      obtain ⟨kk, els⟩ := hls'
      rw [List.take_length] at hall
      refine ⟨rfl, hR _ vs (hsk.ks ks₁ (fun b hb => by rw [List.mem_singleton] at hb; subst hb; exact hIb) rfl rfl) (hks.trans (ks₁.mono fun b hb => by simp at hb; simp [hb])) ⟨kk, fk₁ acc _ els (by simp) (.inr (.inr ⟨_, _, rfl⟩))⟩ ?_ (hrel.fk fk₁)⟩
      exact hall.keep (fun b o e d _ => fk₁ b o e (by simp) (.inr (.inr d))) fun _ _ _ q => q
  have start : J (ds.length + 1) s₂ := by
    refine ⟨0, vs₀, Nat.zero_le _, rfl, k₂, .refl _ _ _, hst, hls, ?_, hr⟩
    simpa using hal
  exact compStart_nest hg (loop _ _ start) (W.self 0 _ _ _ hst (loop _ _ start))
end
end Mine
end

section
set_option maxRecDepth 100000
set_option linter.unusedVariables false
set_option tactic.hygienic false
namespace Mine
open PySem PySem.Calls PyProof.Rows PySem.W PySem.SeqAt
section
variable {C : Cx} {n : Nat} {env : Env} {σ : Sto}
theorem EndAt.leaf {A : Around} {O : List Addr} {b₀ : Shared} {elt : Expr} {gens : List Comprehension} {scope : Scope} {pos : Pos} {d : Nat} {acc : Addr} {cenv : Env} {σ : Sto} {f : D} (w : Wd C.K C.TB b₀.heap) (hb : b₀.heap.get? acc = none) (hn : gens[d + 1]? = none) (h : Ev C n cenv σ elt f) :
    EndAt C n A O b₀ elt gens scope pos d acc cenv σ [f] := fun s vs es P g k hls hal hz hP => by
  unfold EndOf
  rw [hn]
  dsimp only
  refine h A (acc :: O) [] s _ g fun x s₅ sk₅ ix => ?_
  have g₅ := g.sk sk₅
  obtain ⟨kk, els⟩ := hls
  have nT : acc ∉ C.TB := g.w.tb.apart els fun ⟨ps, z⟩ => by cases z
  have els₅ := sk₅.kp.keep acc _ els nT
  have hall₅ := hal.kp sk₅.kp g.w.tb
  have hlv := hal.length
  refine wpAny_list_append_plain (items := vs.toArray) ⟨kk, els₅⟩ (fun h₆ hp₆ hs₆ => ?_) (by rw [List.size_toArray, sizeLine_eq]; simp at hz; (first | lia | omega))
  obtain ⟨k₆, e₆⟩ := hp₆
  have ls₆ : LsAt h₆ acc (vs ++ [x]) := ⟨k₆, by rw [e₆]; simp⟩
  have ks₆ : KS C.TB [acc] s₅.heap h₆ := KS.of_same hs₆ g₅.w.tb els₅ fun ⟨ps, z⟩ => by cases z
  have fk₆ : FK (acc :: O) s₅.heap h₆ := ks₆.fk g₅.w.tb fun b hb => .inl (by simp at hb; simp [hb])
  have ok₆ : OOk (acc :: O) h₆ := fun a hm => by
    by_cases q : a = acc
    · subst q; exact ⟨_, ls₆.choose_spec, _, _, rfl⟩
    · obtain ⟨o, e, d⟩ := g₅.r.ex a hm
      exact ⟨o, (hs₆.2 a q).trans e, d⟩
  refine hP _ (vs ++ [x]) ((k.trans sk₅).ks ks₆ (fun b hm => by rw [List.mem_singleton] at hm; subst hm; exact hb) rfl rfl) ((sk₅.kp.ks _).trans (ks₆.mono fun b hb => by simp at hb; simp [hb])) ls₆ ((hall₅.snoc ix).keep fk₆.data fun _ _ _ q => q) (g₅.r.fkO fk₆ ok₆)
theorem EndAt.mid {A : Around} {O : List Addr} {b₀ : Shared} {elt t' i' : Expr} {f' : List Expr} {gens : List Comprehension} {scope : Scope} {pos : Pos} {d : Nat} {acc : Addr} {cenv : Env} {σ : Sto} {ds : List D} {tgt : D → Sto} {p : D → Bool} {F : D → List D}
    (ha : AOk n A) (w : Wd C.K C.TB b₀.heap) (hb : b₀.heap.get? acc = none) (hbL : b₀.heap.get? cenv.locals = none) (hn : gens[d + 1]? = some ⟨t', i', f', 0⟩) (has : ∀ g', gens[d + 1 + 1]? = some g' → g'.is_async = 0)
    (hs : ∀ x, foldedSetIterable i' cenv x = pure x) (it : It C n cenv σ i' ds)
    (htg : ∀ d x e, σ.lookup x = some e → (tgt d ++ σ).lookup x = some e)
    (hA : ∀ d ∈ ds, Asg C n cenv t' d (tgt d)) (hT : ∀ d ∈ ds, Trs C n cenv (tgt d ++ σ) f' (p d)) (hE : ∀ x ∈ ds, p x = true → EndAt C n A O b₀ elt gens scope pos (d + 1) acc cenv (tgt x ++ σ) (F x))
    (hown : ∀ (I : Addr) (s : Shared) (v : Value) (Q : Unit → Shared → Prop), IsIt s.heap I → Q () s → wpAny C.M A (letOwnedTupleGo t' (.ref I) v) Q NoE s) :
    EndAt C n A O b₀ elt gens scope pos d acc cenv σ ((ds.filter p).flatMap F) := fun s vs es P g k hls hal hz hP => by
  unfold EndOf
  rw [hn]
  refine ⟨hs, it A (acc :: O) [] s _ g fun I s' k' hI => ?_⟩
  have g' := g.sk k'
  obtain ⟨kk, els⟩ := hls
  have nT : acc ∉ C.TB := g.w.tb.apart els fun ⟨ps, z⟩ => by cases z
  have n0 : s.heap.get? I = none := by obtain ⟨_, _, _, _, _, q, _⟩ := hI; exact q
  exact nest_loop ha w has hn hI k (k.trans k') hb hbL ⟨kk, k'.kp.keep acc _ els nT⟩ (hal.kp k'.kp g.w.tb) g'.r htg hA hT hE hz (hown I) fun s'' vs' sk ks ls al re => hP s'' vs' sk ((k'.kp.ks _).drop ks n0) ls al re
theorem IterAt.up {A : Around} {O : List Addr} {I acc : Addr} {ds : List D} {h₀ h h₁ : Heap} (it : IterAt C A O I ds h₀ h) (n : h.get? acc = none) (old : ∀ b o, h.get? b = some o → h₁.get? b = some o) : IterAt C A (acc :: O) I ds h₀ h₁ := by
  obtain ⟨fp, P, St, W, hst, hI, hfp, hP, hit⟩ := it
  refine ⟨fp, P, St, W, W.frame _ _ _ hst fun b hb o e => old b o e, hI, fun b hb => ?_, fun h₂ dk i v d pv e => ?_, hit⟩
  · obtain ⟨h1, h2, o, e, h3⟩ := hfp b hb
    refine ⟨h1, fun hm => ?_, o, old b o e, h3⟩
    rcases List.mem_cons.mp hm with rfl | hm
    · rw [n] at e; cases e
    · exact h2 hm
  · refine ((hP h (fun _ _ e _ _ => e) i v d pv e).keep (O' := acc :: O) (fun b o e _ _ => old b o e) fun a o e ha hm => ?_).keep dk fun _ _ _ q => q
    rcases List.mem_cons.mp hm with rfl | hm
    · rw [n] at e; cases e
    · exact ha hm
/-- a comprehension with more clauses than one -/
theorem Ev.nest {ds : List D} {elt target iter : Expr} {ifs : List Expr} {gs : List Comprehension} {scope : Scope} {pos : Pos} (σc : Sto) (tgt : D → Sto) (p : D → Bool) (F : D → List D)
    (it : It C n env σ iter ds) (se : Sees env scope σ σc)
    (hcell : ∀ y ∈ scope.names, y.2 ≠ .cell) (hkind : scope.kind = .function) (hnames : ∀ y ∈ scope.names, y.2 = .local → scope.names.lookup y.1 = some .local)
    (hs : ∀ x, foldedSetIterable iter env x = pure x) (has : ∀ g', (⟨target, iter, ifs, 0⟩ :: gs : List Comprehension)[0 + 1]? = some g' → g'.is_async = 0)
    (htg : ∀ d x e, σc.lookup x = some e → (tgt d ++ σc).lookup x = some e)
    (hA : ∀ cenv, CE env scope cenv → ∀ d ∈ ds, Asg C n cenv target d (tgt d)) (hT : ∀ cenv, CE env scope cenv → ∀ d ∈ ds, Trs C n cenv (tgt d ++ σc) ifs (p d))
    (hE : ∀ cenv (A : Around) (O : List Addr) (b₀ : Shared) (acc : Addr), CE env scope cenv → AOk n A → Wd C.K C.TB b₀.heap → b₀.heap.get? acc = none → b₀.heap.get? cenv.locals = none → ∀ d ∈ ds, p d = true → EndAt C n A O b₀ elt (⟨target, iter, ifs, 0⟩ :: gs) scope pos 0 acc cenv (tgt d ++ σc) (F d))
    (hz : ((ds.filter p).flatMap F).length ≤ 1000000)
    (hown : ∀ (A : Around) (I : Addr) (s : Shared) (v : Value) (Q : Unit → Shared → Prop), IsIt s.heap I → Q () s → wpAny C.M A (letOwnedTupleGo target (.ref I) v) Q NoE s) :
    Ev C n env σ (.ListComp elt (⟨target, iter, ifs, 0⟩ :: gs) scope pos) (.list ((ds.filter p).flatMap F)) := fun A O Ow s Q g q => by
  rw [eval_ListComp]
  refine wpAny_comprehension_free (g := ⟨target, iter, ifs, 0⟩) (gs := gs) rfl hs (closureFor_eq se.free) hkind hnames ?_
  refine it A O Ow s _ g fun I s₂ k₂ hI => ?_
  have g₂ := g.sk k₂
  refine wpAny_newList ?_ (Nat.zero_le _)
  refine wpAny_newFunctionEnv hcell (by intro y hy; simp at hy) (fun h₁ hns₁ hsb₁ => ?_) hkind
  dsimp only at hns₁ hsb₁ ⊢
  generalize hH2 : s₂.heap.push { cls := .type "list", data := .seq ([] : List Value).toArray } = H2 at hns₁ hsb₁ ⊢
  have hC : H2.objs.size = s₂.heap.objs.size + 1 := by rw [← hH2, Heap.size_push]
  have hDC : s₂.heap.objs.size ≠ H2.objs.size := by (first | lia | omega)
  have none_of : ∀ a, s₂.heap.objs.size ≤ a → s₂.heap.get? a = none := fun a ha => by
    cases e : s₂.heap.get? a with
    | none => rfl
    | some o' => exact absurd (Heap.lt_size e) (Nat.not_lt.mpr ha)
  have old : ∀ b o, s₂.heap.get? b = some o → h₁.get? b = some o := fun b o e => by
    have hlt := Heap.lt_size e
    have hne : b ≠ H2.objs.size := Nat.ne_of_lt (Nat.lt_of_lt_of_le hlt (by rw [hC]; exact Nat.le_succ _))
    exact hsb₁.extBut b o hne (Heap.get?_push_of_some _ (hH2 ▸ Heap.get?_push_of_some _ e))
  have hacc : LsAt h₁ s₂.heap.objs.size [] := ⟨0, hsb₁.extBut _ _ hDC (Heap.get?_push_of_some _ (hH2 ▸ Heap.get?_push_size _ rfl))⟩
  have kp₁ : Kp C.TB s₂.heap h₁ := .of old
  have ce : CE env scope (compEnvC scope (clOf env scope.names []) H2.objs.size env) := ⟨rfl, rfl, rfl⟩
  have r₁ := g₂.r.kp kp₁ g₂.w.tb
  have hnew : s₂.heap.objs.size ∉ O := g₂.newO
  have rel : Rel (s₂.heap.objs.size :: O) [] (compEnvC scope (clOf env scope.names []) H2.objs.size env) σc h₁ := by
    refine ⟨⟨hkind, ⟨_, hns₁⟩, fun x c e => ?_⟩, fun x en e => ?_, fun a ha => (nomatch ha), fun a ha => ?_⟩
    · exact r₁.ok.cells x c (clOf_lookup e (fun _ q => by cases q) se.free)
    · refine Classical.byContradiction fun hN => ?_
      obtain ⟨d, rfl, hσ, hf, hnl⟩ := se.see x _ e
      obtain ⟨v, l, i⟩ := g₂.r.val x d hσ
      refine hN ?_
      clear hN
      have hmem : (x, NameKind.free) ∈ scope.names := mem_of_lookup hf
      obtain ⟨c, ec⟩ := se.free x hmem
      refine ⟨v, ?_, (i.keep (O' := s₂.heap.objs.size :: O) (fun _ _ e _ _ => e) fun a o e ha' hm => ?_).keep (kp₁.seq g₂.w.tb _) fun _ _ _ q => q⟩
      · have hk : Env.kindOf (compEnvC scope (clOf env scope.names []) H2.objs.size env) x = some .cell ∨ Env.kindOf (compEnvC scope (clOf env scope.names []) H2.objs.size env) x = some .free := by
          have := lookup_relabel (env := env) hf
          split at this
          · exact .inl this
          · exact .inr this
        refine .inr ⟨hk, c, clOf_has ec (.inl hmem), ?_⟩
        rcases se.outer x _ e l hnl with ⟨c', e', ic⟩
        rw [ec] at e'
        cases e'
        exact kp₁.cell g₂.w.tb ic
      · rcases List.mem_cons.mp hm with rfl | hm
        · exact absurd (Heap.lt_size e) (Nat.lt_irrefl _)
        · exact ha' hm
    · rcases List.mem_cons.mp ha with rfl | ha
      · obtain ⟨k, e⟩ := hacc; exact ⟨_, e, _, _, rfl⟩
      · exact r₁.ex a ha
  have nA := none_of _ (Nat.le_refl _)
  have nL := none_of H2.objs.size (by show s₂.heap.objs.size ≤ H2.objs.size; (first | lia | omega))
  have bA := k₂.gone g.w.tb _ nA
  have bL := k₂.gone g.w.tb _ nL
  have k₃ : SK C.TB s ⟨h₁, s₂.gens, s₂.drawn, s₂.toks, s₂.os⟩ := k₂.trans ⟨kp₁, rfl, #[], by simp, .empty⟩
  show codeAny C.M A (.compStart _ 0 (.ref I) (.ref s₂.heap.objs.size) (compEnvC scope (clOf env scope.names []) H2.objs.size env)) (compPost C.M A NoE none Q (.ref s₂.heap.objs.size) H2.objs.size) _
  refine codeAny_mono (nest_loop (P := fun s' => compPost C.M A NoE none Q (.ref s₂.heap.objs.size) H2.objs.size (.ok .next) s') (b₀ := s) (s₁ := s) g.a g.w has rfl (hI.up nA old) (.refl _ _) (k₃.trans (.toks _)) bA bL hacc .nil rel htg (hA _ ce) (hT _ ce) (fun d hd hp => hE _ A O s _ ce g.a g.w bA bL d hd hp) (by simpa using hz) (hown A I) fun s' vs' sk' ks' ls' all' rel' => ?_) fun r s' h => by
    obtain ⟨rfl, h⟩ := h
    exact h
  rw [List.nil_append] at all'
  have i : Is O s'.heap (.ref s₂.heap.objs.size) (.list ((ds.filter p).flatMap F)) := .list ls' hnew (all'.keep (fun _ _ e _ _ => e) fun a o e ha' hm => ha' (List.mem_cons_of_mem _ hm))
  have sk := sk'
  have hL := bL
  obtain ⟨m, hn⟩ : ∃ m, s'.heap.Ns H2.objs.size m := rel'.ok.ns
  refine ⟨m, hn, fun h' hs' => ?_⟩
  refine Classical.byContradiction fun hN => ?_
  obtain ⟨oL, es, ep, eL, hd, _⟩ := hn
  refine hN ?_
  clear hN
  have ks : KS C.TB [H2.objs.size] s'.heap h' := KS.of_same hs' (g.sk sk).w.tb eL fun ⟨ps, z⟩ => by rw [z] at hd; cases hd
  refine q _ _ (sk.ks ks (fun b hb => by rw [List.mem_singleton] at hb; subst hb; exact hL) rfl rfl) (i.keep (ks.data (g.sk sk).w.tb fun b hb => .inr fun o e => ?_) fun _ _ _ q => q)
  rw [List.mem_singleton] at hb
  subst hb
  rw [eL] at e; cases e; rw [hd]
  exact fun _ _ z => by cases z
end
end Mine
end

section
set_option maxRecDepth 100000
set_option maxHeartbeats 0
set_option linter.unusedVariables false
set_option tactic.hygienic false
namespace Mine
open PySem PySem.Calls PySem.SeqAt PySem.W PyProof.Rows PySem.W.X
variable {h₀ : Heap}
/-! the code tables, as the heap goes on -/
noncomputable abbrev T3 : List Addr := [74, 107, 138]
/-- all stands but tables, and those have but grown: three of the top's, and what came since -/
noncomputable def SKT (h₀ : Heap) (s s' : Shared) : Prop := ∃ T, TbOk T s.heap ∧ (∀ b ∈ T, b ∈ T3 ∨ h₀.get? b = none) ∧ SK T s s'
theorem tbNil {h : Heap} : TbOk [] h := fun _ hb => nomatch hb
theorem SKT.plain {s s' : Shared} (k : SK [] s s') : SKT h₀ s s' := ⟨[], tbNil, (fun _ h => nomatch h), k⟩
theorem SKT.refl (s : Shared) : SKT h₀ s s := .plain (.refl _ _)
theorem SKT.trans {s s' s'' : Shared} (x : SKT h₀ s s') (y : SKT h₀ s' s'') : SKT h₀ s s'' := by
  obtain ⟨T1, t1, c1, k1⟩ := x
  obtain ⟨T2, t2, c2, k2⟩ := y
  have tab : ∀ b ∈ T2, ∀ o, s.heap.get? b = some o → ∃ ps, o = X.tableObj ps := fun b hb o e => by
    by_cases h1 : b ∈ T1
    · obtain ⟨ps, e1⟩ := t1 b h1
      rw [e] at e1
      exact ⟨ps, Option.some.inj e1⟩
    · obtain ⟨ps, e2⟩ := t2 b hb
      rw [k1.kp.keep b o e h1] at e2
      exact ⟨ps, Option.some.inj e2⟩
  obtain ⟨m, e, b⟩ := k1.gens
  obtain ⟨m', e', b'⟩ := k2.gens
  refine ⟨T1 ++ T2.filter (fun b => (s.heap.get? b).isSome), fun b hb => ?_, fun b hb => ?_, ⟨⟨fun b o e hb => ?_, fun b hb ps e => ?_⟩, k2.os.trans k1.os, m ++ m', by rw [e', e, Array.append_assoc], bare_append b b'⟩⟩
  · rcases List.mem_append.mp hb with h | h
    · exact t1 b h
    · obtain ⟨h, hs⟩ := List.mem_filter.mp h
      obtain ⟨o, e⟩ := Option.isSome_iff_exists.mp hs
      obtain ⟨ps, rfl⟩ := tab b h o e
      exact ⟨ps, e⟩
  · rcases List.mem_append.mp hb with h | h
    · exact c1 b h
    · exact c2 b (List.mem_filter.mp h).1
  · have h1 : b ∉ T1 := fun h => hb (List.mem_append_left _ h)
    have h2 : b ∉ T2 := fun h => hb (List.mem_append_right _ (List.mem_filter.mpr ⟨h, by rw [e]; rfl⟩))
    exact k2.kp.keep b o (k1.kp.keep b o e h1) h2
  · have g1 : ∃ more, s'.heap.get? b = some (X.tableObj (ps ++ more)) := by
      by_cases h1 : b ∈ T1
      · exact k1.kp.tab b h1 ps e
      · exact ⟨#[], by rw [k1.kp.keep b _ e h1]; simp⟩
    obtain ⟨m1, e1⟩ := g1
    by_cases h2 : b ∈ T2
    · obtain ⟨m2, e2⟩ := k2.kp.tab b h2 _ e1
      exact ⟨m1 ++ m2, by rw [e2, Array.append_assoc]⟩
    · exact ⟨m1, k2.kp.keep b _ e1 h2⟩
/-- what is no table stands -/
theorem SKT.far {s s' : Shared} (x : SKT h₀ s s') {b : Addr} {o : Obj} (e : s.heap.get? b = some o) (hn : ¬ ∃ ps, o = X.tableObj ps) : s'.heap.get? b = some o := by
  obtain ⟨T, t, _, k⟩ := x
  exact k.kp.keep b o e (t.apart e hn)
theorem SKT.grew {s s' : Shared} (x : SKT h₀ s s') {b : Addr} {ps : Array Value} (e : s.heap.get? b = some (X.tableObj ps)) : ∃ more, s'.heap.get? b = some (X.tableObj (ps ++ more)) := by
  obtain ⟨T, t, _, k⟩ := x
  by_cases h : b ∈ T
  · exact k.kp.tab b h ps e
  · exact ⟨#[], by rw [k.kp.keep b _ e h]; simp⟩
theorem SKT.there {s s' : Shared} (x : SKT h₀ s s') {b : Addr} (h : ∃ o, s.heap.get? b = some o) : ∃ o, s'.heap.get? b = some o := by
  obtain ⟨o, e⟩ := h
  by_cases q : ∃ ps, o = X.tableObj ps
  · obtain ⟨ps, rfl⟩ := q
    obtain ⟨m, e⟩ := x.grew e
    exact ⟨_, e⟩
  · exact ⟨o, x.far e q⟩
theorem SKT.gone {s s' : Shared} (x : SKT h₀ s s') (a : Addr) (h : s'.heap.get? a = none) : s.heap.get? a = none := by
  cases e : s.heap.get? a with
  | none => rfl
  | some o => obtain ⟨o', e'⟩ := x.there ⟨o, e⟩; rw [h] at e'; cases e'
theorem among_app {p : Pos} {c : Value} {r : List Value} : ∀ {l : List Value}, codeAmong p l = some c → codeAmong p (l ++ r) = some c := by
  intro l
  fun_induction codeAmong p l with
  | case1 line t col u c' rest h =>
    intro e
    rw [List.cons_append, List.cons_append, List.cons_append, codeAmong, if_pos h]
    exact e
  | case2 line t col u c' rest h ih =>
    intro e
    rw [List.cons_append, List.cons_append, List.cons_append, codeAmong, if_neg h]
    exact ih e
  | case3 => intro e; cases e
theorem TabIs.det {h : Heap} {c c' P : Addr} {ps qs : Array Value} (x : TabIs h c P ps) (y : TabIs h c' P qs) : ps = qs := by
  have a := x.tab.2
  have b := y.tab.2
  rw [a] at b
  injection b with b; injection b with _ _ b; injection b
/-- a code object's table is the one that it names -/
theorem TabIs.same {h h' : Heap} {c P P' : Addr} {ps qs : Array Value} (x : TabIs h c P ps) (y : TabIs h' c P' qs) (k : ∀ o, h.get? c = some o → h'.get? c = some o) : P = P' := by
  obtain ⟨o, vs, _, _, _, _, _, _, _, _, e, d, v, _⟩ := x.code
  obtain ⟨o', vs', _, _, _, _, _, _, _, _, e', d', v', _⟩ := y.code
  rw [k _ e] at e'
  cases e'
  rw [d] at d'
  cases d'
  rw [v] at v'
  exact Value.ref.inj v'
section
variable {w : World} {oB : Obj} {n : Nat} {A : Around} {env : Env} {σ : Sto}
noncomputable def tabB (o : Obj) : Bool := match o with | ⟨.none, none, .fields _, _⟩ => true | _ => false
theorem not_tab {o : Obj} (h : tabB o = false) : ¬ ∃ ps, o = X.tableObj ps := fun ⟨ps, q⟩ => by rw [q] at h; cases h
theorem lookup_all {K : Frag} {p : Obj → Bool} {b : Addr} {o : Obj} (h : K.all (fun q => p q.2) = true) (e : K.lookup b = some o) : p o = true := by
  induction K with
  | nil => cases e
  | cons q r ih =>
    rw [List.all_cons, Bool.and_eq_true] at h
    rw [List.lookup_cons] at e
    split at e
    · cases e; exact h.1
    · exact ih h.2 e
/-- no table among what the context knows -/
theorem noTabK (hD : ∃ es ep, oB.data = .dict es ep) {b : Addr} {o : Obj} (e : (C0 w oB).K.lookup b = some o) : ¬ ∃ ps, o = X.tableObj ps := by
  have h : (KK w.params).all (fun q => !tabB q.2) = true := by kernel_rfl
  have e' : List.lookup b (KK w.params ++ [(builtinsNs, oB)]) = some o := e
  rw [List.lookup_append] at e'
  cases q : (KK w.params).lookup b with
  | some o' =>
    rw [q] at e'
    cases e'
    have := lookup_all (p := fun o => !tabB o) h q
    exact not_tab (by simpa using this)
  | none =>
    rw [q] at e'
    have e2 : List.lookup b [(builtinsNs, oB)] = some o := e'
    rw [List.lookup_cons] at e2
    split at e2
    · cases e2
      obtain ⟨es, ep, hd⟩ := hD
      exact fun ⟨ps, q⟩ => by rw [q] at hd; cases hd
    · cases e2
theorem GS.growT (hD : ∃ es ep, oB.data = .dict es ep) {s s' : Shared} (g : GS (C0 w oB) n A [] [] env σ s) (k : SKT h₀ s s') : GS (C0 w oB) n A [] [] env σ s' := by
  obtain ⟨T, t, _, k⟩ := k
  have hap : ∀ b ∈ T, (C0 w oB).K.lookup b = none := fun b hb => by
    cases q : (C0 w oB).K.lookup b with
    | none => rfl
    | some o =>
      obtain ⟨ps, e⟩ := t b hb
      rw [g.g.w.k b o q] at e
      exact absurd ⟨ps, Option.some.inj e⟩ (noTabK hD q)
  exact ⟨⟨g.g.a, ⟨fun a o e => k.kp.keep a o (g.g.w.k a o e) fun hb => (by rw [hap a hb] at e; cases e), (fun _ h => nomatch h), (fun _ h => nomatch h)⟩, g.g.r.kp k.kp t⟩, g.f, g.ap, g.nd⟩
end
end Mine
end

section
set_option genInjectivity false
set_option genSizeOf false
set_option genSizeOfSpec false
set_option maxRecDepth 100000
set_option maxHeartbeats 0
set_option linter.unusedVariables false
set_option tactic.hygienic false
namespace Mine
open PySem PySem.Calls PySem.SeqAt PySem.W PyProof.Rows PySem.W.X
variable {h₀ : Heap}
noncomputable def lamAt (st : Stmt) : Expr := match st with
  | .Assign _ (.Call _ _ [⟨_, .Call _ [l] _ _, _⟩] _) _ => l
  | .Return (some (.Call _ _ [⟨_, .Call _ [l] _ _, _⟩] _)) _ => l
  | _ => default
noncomputable def lamArgs (l : Expr) : Arguments := match l with | .Lambda a _ _ _ => a | _ => default
noncomputable def lamBody (l : Expr) : Expr := match l with | .Lambda _ b _ _ => b | _ => default
noncomputable def lamScope (l : Expr) : Scope := match l with | .Lambda _ _ s _ => s | _ => default
noncomputable def lamPos (l : Expr) : Pos := match l with | .Lambda _ _ _ p => p | _ => default
/-- _law_by_brackets' statements, and law's -/
noncomputable def bbSt (i : Nat) : Stmt := (bodyOf PB 20).getD i default
noncomputable def lawSt (i : Nat) : Stmt := (bodyOf PB 25).getD i default
noncomputable abbrev bbQ : Str := "_law_by_brackets.<locals>.<lambda>"
noncomputable abbrev lwQ : Str := "law.<locals>.<lambda>"
noncomputable def bbQs : List (Pos × Str) := [(lamPos (lamAt (bbSt 2)), bbQ)]
noncomputable def lwQs : List (Pos × Str) := [(lamPos (lamAt (lawSt 3)), lwQ)]
/-- the code tables -/
structure TI (h₀ h : Heap) : Prop where
  old : ∀ b o, h₀.get? b = some o → ∃ o', h.get? b = some o'
  k : ∃ ps, TabIs h 78 74 ps ∧ (codeAmong (clsPos PB 13) ps.toList = none ∨ ∃ c' P', codeAmong (clsPos PB 13) ps.toList = some (.ref c') ∧ GM h "cmp_to_key.<locals>.K" c' ∧ P' ≠ 74 ∧ P' ≠ 107 ∧ P' ≠ 138 ∧ h₀.get? P' = none ∧ GoodM h c' P' (methQs PB 13))
  b : GoodM h 109 107 bbQs
  l : GoodM h 140 138 lwQs
theorem TI.good {h : Heap} (x : TI h₀ h) : GoodC h 78 74 (clsPos PB 13) "cmp_to_key.<locals>.K" (methQs PB 13) := by
  obtain ⟨ps, t, q⟩ := x.k
  exact ⟨ps, t, q.imp id fun ⟨c', P', e, gm, n1, _, _, _, gg⟩ => ⟨c', P', e, gm, n1, gg⟩⟩
/-- what is code or a table -/
noncomputable def CodeO (o : Obj) : Prop := (∃ vs, o.data = .fields vs) ∨ ∃ ps, o = tableObj ps
theorem TabIs.far {h h' : Heap} {c P : Addr} {ps : Array Value} (x : TabIs h c P ps) (k : ∀ b o, h.get? b = some o → CodeO o → h'.get? b = some o) : TabIs h' c P ps :=
  x.two (fun o e => by
    obtain ⟨⟨o', vs, e', hc, hv, _⟩, _⟩ := x.tab
    rw [e] at e'; cases e'
    exact k _ _ e (.inl ⟨vs, hv⟩)) fun o e => k _ _ e (.inr ⟨ps, by have := x.tab.2; rw [e] at this; exact Option.some.inj this⟩)
theorem GM.far {h h' : Heap} {q : Str} {c : Addr} (x : GM h q c) (k : ∀ b o, h.get? b = some o → CodeO o → h'.get? b = some o) : GM h' q c := by
  obtain ⟨o, vs, t, e, hc, hv, r⟩ := x
  exact ⟨o, vs, t, k _ _ e (.inl ⟨vs, hv⟩), hc, hv, r⟩
theorem GoodM.far {h h' : Heap} {c P : Addr} {qs : List (Pos × Str)} (x : GoodM h c P qs) (k : ∀ b o, h.get? b = some o → CodeO o → h'.get? b = some o) : GoodM h' c P qs := by
  obtain ⟨ps, t, q⟩ := x
  exact ⟨ps, t.far k, fun p hp => (q p hp).imp id fun ⟨c', e, g⟩ => ⟨c', e, g.far k⟩⟩
theorem TI.far {h h' : Heap} (x : TI h₀ h) (k : ∀ b o, h.get? b = some o → CodeO o → h'.get? b = some o) (th : ∀ b o, h.get? b = some o → ∃ o', h'.get? b = some o') : TI h₀ h' := by
  obtain ⟨od, ⟨ps, t, q⟩, b, l⟩ := x
  exact ⟨fun b o e => by obtain ⟨o', e'⟩ := od b o e; exact th _ _ e', ⟨ps, t.far k, q.imp id fun ⟨c', P', e, gm, n1, n2, n3, n4, gg⟩ => ⟨c', P', e, gm.far k, n1, n2, n3, n4, gg.far k⟩⟩, b.far k, l.far k⟩
theorem TI.keep {h h' : Heap} (x : TI h₀ h) (k : Keeps1 h h') : TI h₀ h' := x.far (fun b o e _ => k b o e) fun b o e => ⟨o, k b o e⟩
theorem TI.sk {s s' : Shared} (x : TI h₀ s.heap) (k : SK [] s s') : TI h₀ s'.heap := x.keep fun b o e => k.kp.keep b o e fun h => nomatch h
/-- a table has grown, another has not -/
theorem TI.lamB {h h' : Heap} (x : TI h₀ h) (e : Heap.ExtBut 107 h h') (g : GoodM h' 109 107 bbQs) : TI h₀ h' := by
  obtain ⟨od, ⟨ps, t, q⟩, ⟨pb, tb, _⟩, l⟩ := x
  have hp := tb.tab.2
  refine ⟨fun b o eo => ?_, ⟨ps, t.but hp (by decide) e, q.imp id fun ⟨c', P', ec, gm, n1, n2, n3, n4, gg⟩ => ⟨c', P', ec, gm.but hp e, n1, n2, n3, n4, gg.but hp n2 e⟩⟩, g, l.but hp (by decide) e⟩
  obtain ⟨o', e'⟩ := od b o eo
  by_cases q : b = 107
  · subst q; obtain ⟨_, tz, _⟩ := g; exact ⟨_, tz.tab.2⟩
  · exact ⟨o', e b o' q e'⟩
theorem TI.lamL {h h' : Heap} (x : TI h₀ h) (e : Heap.ExtBut 138 h h') (g : GoodM h' 140 138 lwQs) : TI h₀ h' := by
  obtain ⟨od, ⟨ps, t, q⟩, b, ⟨pl, tl, _⟩⟩ := x
  have hp := tl.tab.2
  refine ⟨fun b o eo => ?_, ⟨ps, t.but hp (by decide) e, q.imp id fun ⟨c', P', ec, gm, n1, n2, n3, n4, gg⟩ => ⟨c', P', ec, gm.but hp e, n1, n2, n3, n4, gg.but hp n3 e⟩⟩, b.but hp (by decide) e, g⟩
  obtain ⟨o', e'⟩ := od b o eo
  by_cases q : b = 138
  · subst q; obtain ⟨_, tz, _⟩ := g; exact ⟨_, tz.tab.2⟩
  · exact ⟨o', e b o' q e'⟩
theorem code_not {h : Heap} {b P : Addr} {o : Obj} (e : h.get? b = some o) (hc : o.cls = .type "code") (hP : ∀ o, h.get? P = some o → ∃ ps, o = tableObj ps) : b ≠ P := fun z => by
  subst z
  obtain ⟨ps, q⟩ := hP _ e
  subst q
  cases hc
theorem GoodM.away {h h' : Heap} {c T X Y : Addr} {qs : List (Pos × Str)} (x : GoodM h c T qs) (hX : ∀ o, h.get? X = some o → ∃ ps, o = tableObj ps) (hY : ∀ o, h.get? Y = some o → ∃ ps, o = tableObj ps) (nX : T ≠ X) (nY : T ≠ Y)
    (keep : ∀ b o, b ≠ X → b ≠ Y → h.get? b = some o → h'.get? b = some o) : GoodM h' c T qs := by
  obtain ⟨ps, t, q⟩ := x
  refine ⟨ps, t.two (fun o e => ?_) fun o e => keep _ _ nX nY e, fun p hp => (q p hp).imp id fun ⟨c', ec, gm⟩ => ⟨c', ec, ?_⟩⟩
  · have hc : o.cls = .type "code" := by
      obtain ⟨⟨o', vs, e', hc, _⟩, _⟩ := t.tab
      rw [e] at e'; cases e'; exact hc
    exact keep _ _ (code_not e hc hX) (code_not e hc hY) e
  · obtain ⟨o, vs, tt, e, hc, r⟩ := gm
    exact ⟨o, vs, tt, keep _ _ (code_not e hc hX) (code_not e hc hY) e, hc, r⟩
/-- the class is made once more -/
theorem TI.cls {h h' : Heap} {P : Addr} (x : TI h₀ h) (keep : ∀ b o, b ≠ 74 → b ≠ P → h.get? b = some o → h'.get? b = some o)
    (pc : h.get? P = none ∨ ∃ ps₀ c₀, TabIs h 78 74 ps₀ ∧ codeAmong (clsPos PB 13) ps₀.toList = some (.ref c₀)) (gr : Grew 74 h h') (g : GoodP h' 78 74 P (clsPos PB 13) "cmp_to_key.<locals>.K" (methQs PB 13)) :
    TI h₀ h' ∧ (∀ o, h.get? P = some o → ∃ ps, o = tableObj ps) ∧ h₀.get? P = none := by
  obtain ⟨od, ⟨ps, t, q⟩, b, l⟩ := x
  obtain ⟨ps', kc, t', f', gm', n1, gg'⟩ := g
  have tb : ∃ pb, h.get? 107 = some (tableObj pb) := by obtain ⟨pb, tb, _⟩ := id b; exact ⟨pb, tb.tab.2⟩
  have tl : ∃ pl, h.get? 138 = some (tableObj pl) := by obtain ⟨pl, tl, _⟩ := id l; exact ⟨pl, tl.tab.2⟩
  have info : (P ≠ 107 ∧ P ≠ 138) ∧ (∀ o, h.get? P = some o → ∃ ps, o = tableObj ps) ∧ h₀.get? P = none := by
    rcases pc with e | ⟨ps₀, c₀, tq, fq⟩
    · refine ⟨⟨fun z => ?_, fun z => ?_⟩, (fun o e' => by rw [e] at e'; cases e'), ?_⟩
      · obtain ⟨pb, tb⟩ := tb; rw [← z, e] at tb; cases tb
      · obtain ⟨pl, tl⟩ := tl; rw [← z, e] at tl; cases tl
      · cases q0 : h₀.get? P with
        | none => rfl
        | some o => obtain ⟨o', e'⟩ := od _ _ q0; rw [e] at e'; cases e'
    · obtain rfl := t.det tq
      rcases q with q | ⟨c', P', ec, gm, m1, m2, m3, m4, gg⟩
      · rw [q] at fq; cases fq
      · obtain ⟨more, e2⟩ := gr ps t.tab.2
        have e3 := t'.tab.2
        rw [e2] at e3
        have e4 : ps ++ more = ps' := by injection e3 with e3; injection e3 with _ _ e3; injection e3
        rw [← e4, Array.toList_append, among_app ec] at f'
        obtain rfl : c' = kc := Value.ref.inj (Option.some.inj f')
        obtain ⟨p1, t1, _⟩ := gg
        obtain ⟨p2, t2, _⟩ := gg'
        obtain ⟨⟨o1, v1, e1, hc1, _⟩, _⟩ := id t1.tab
        have k1 : c' ≠ 74 := fun z => by rw [z, t.tab.2] at e1; cases e1; cases hc1
        by_cases hP : c' = P
        · exfalso
          have h2 := t2.tab.2
          obtain ⟨⟨o2, v2, e2', hc2, _⟩, _⟩ := id t2.tab
          rw [hP] at e2'
          rw [h2] at e2'
          cases e2'
          cases hc2
        · have hs := t1.same t2 fun o e => keep _ _ k1 hP e
          subst hs
          exact ⟨⟨m2, m3⟩, (fun o e => ⟨p1, by have h3 := t1.tab.2; rw [e] at h3; exact Option.some.inj h3⟩), m4⟩
  obtain ⟨ne, hP, hP0⟩ := info
  have h74 : ∀ o, h.get? 74 = some o → ∃ ps, o = tableObj ps := fun o e => ⟨ps, by have h3 := t.tab.2; rw [e] at h3; exact Option.some.inj h3⟩
  have hPn : ∃ o, h'.get? P = some o := by obtain ⟨p2, t2, _⟩ := id gg'; exact ⟨_, t2.tab.2⟩
  refine ⟨⟨fun x o eo => ?_, ⟨ps', t', .inr ⟨kc, P, f', gm', n1, ne.1, ne.2, hP0, gg'⟩⟩, b.away h74 hP (by decide) (Ne.symm ne.1) keep, l.away h74 hP (by decide) (Ne.symm ne.2) keep⟩, hP, hP0⟩
  obtain ⟨o', e'⟩ := od x o eo
  by_cases x74 : x = 74
  · subst x74; exact ⟨_, t'.tab.2⟩
  · by_cases xP : x = P
    · subst xP; exact hPn
    · exact ⟨o', keep x o' x74 xP e'⟩
end Mine
end

section
set_option maxRecDepth 100000
set_option linter.unusedVariables false
set_option tactic.hygienic false
namespace Mine
/-- four sixes in three octets -/
noncomputable def octs : List Int → List Int
  | a :: b :: c :: d :: r => [a * 4 + b / 16, b % 16 * 16 + c / 4, c % 4 * 64 + d] ++ octs r
  | _ => []
theorem octs_length : ∀ (xs : List Int), (octs xs).length = xs.length / 4 * 3
  | [] => rfl
  | [_] => by simp [octs]
  | [_, _] => by simp [octs]
  | [_, _, _] => by simp [octs]
  | a :: b :: c :: d :: r => by
    rw [octs, List.length_append, octs_length r]
    simp only [List.length_cons, List.length_nil]
    (first | lia | omega)
/-- the octet at i -/
theorem octs_get : ∀ (xs : List Int) (g : Nat), xs.length % 4 = 0 → 4 * g < xs.length →
    (octs xs)[3 * g]? = some (xs.getD (4 * g) 0 * 4 + xs.getD (4 * g + 1) 0 / 16) ∧ (octs xs)[3 * g + 1]? = some (xs.getD (4 * g + 1) 0 % 16 * 16 + xs.getD (4 * g + 2) 0 / 4) ∧ (octs xs)[3 * g + 2]? = some (xs.getD (4 * g + 2) 0 % 4 * 64 + xs.getD (4 * g + 3) 0)
  | [], g, _, h => by simp at h
  | [_], _, h, _ => by simp at h
  | [_, _], _, h, _ => by simp at h
  | [_, _, _], _, h, _ => by simp at h
  | a :: b :: c :: d :: r, 0, _, _ => by simp [octs]
  | a :: b :: c :: d :: r, g + 1, hl, h => by
    have hl' : r.length % 4 = 0 := by simp only [List.length_cons] at hl; (first | lia | omega)
    have h' : 4 * g < r.length := by simp only [List.length_cons] at h; (clear hl' hl; lia)
    obtain ⟨e1, e2, e3⟩ := octs_get r g hl' h'
    have s1 : 3 * (g + 1) = 3 * g + 3 := by (exact rfl)
    have s2 : 4 * (g + 1) = 4 * g + 4 := by (exact rfl)
    rw [s1, s2]
    have key : ∀ j, (octs (a :: b :: c :: d :: r))[j + 3]? = (octs r)[j]? := fun j => by
      rw [octs]
      simp
    refine ⟨(key _).trans ?_, ?_, ?_⟩
    · simpa using e1
    · rw [show 3 * g + 3 + 1 = (3 * g + 1) + 3 from by (exact rfl), key]
      rw [show 4 * g + 4 + 1 = (4 * g + 1) + 4 from by (exact rfl), show 4 * g + 4 + 2 = (4 * g + 2) + 4 from by (exact rfl)]
      simpa using e2
    · rw [show 3 * g + 3 + 2 = (3 * g + 2) + 3 from by (exact rfl), key]
      rw [show 4 * g + 4 + 2 = (4 * g + 2) + 4 from by (exact rfl), show 4 * g + 4 + 3 = (4 * g + 3) + 4 from by (exact rfl)]
      simpa using e3
theorem octs_range : ∀ (xs : List Int), (∀ x ∈ xs, 0 ≤ x ∧ x < 64) → ∀ o ∈ octs xs, 0 ≤ o ∧ o < 256
  | [], _, o, ho => by simp [octs] at ho
  | [_], _, o, ho => by simp [octs] at ho
  | [_, _], _, o, ho => by simp [octs] at ho
  | [_, _, _], _, o, ho => by simp [octs] at ho
  | a :: b :: c :: d :: r, h, o, ho => by
    have ha := h a (by simp)
    have hb := h b (by simp)
    have hc := h c (by simp)
    have hd := h d (by simp)
    rw [octs, List.mem_append] at ho
    rcases ho with ho | ho
    · simp only [List.mem_cons, List.not_mem_nil, or_false] at ho
      rcases ho with rfl | rfl | rfl <;> (first | (clear hd hc h; lia) | (clear hd hb ha h; lia) | (clear hc hb ha h; lia) | lia | omega)
    · exact octs_range r (fun x hx => h x (by simp [hx])) o ho
open PySem PySem.W in
theorem bInts_byteArr : ∀ (ns : List Int), (∀ x ∈ ns, 0 ≤ x ∧ x < 256) → KBw.bInts (byteArr ns) = ns := fun ns h => by
  unfold KBw.bInts byteArr
  rw [List.toList_toArray, List.map_map]
  conv => rhs; rw [← List.map_id ns]
  apply List.map_congr_left
  intro x hx
  have := h x hx
  show ((x.toNat.toUInt8.toNat : Nat) : Int) = x
  rw [Nat.toUInt8_eq, UInt8.toNat_ofNat_of_lt' (by show x.toNat < 256; (first | lia | omega))]
  (first | lia | omega)
end Mine
end

section
set_option maxRecDepth 100000
set_option linter.unusedVariables false
set_option tactic.hygienic false
namespace Mine
open PySem PySem.Calls PyProof.Rows PySem.W PySem.SeqAt
/-- the sign of a six -/
noncomputable def code (x : Int) : Int := (((b64Bytes.getD x.toNat 0).toNat : Nat) : Int)
theorem b64_len : b64Bytes.length = 64 := by decide +kernel
noncomputable def b2aS (a : Addr) (out : List Int) (lb : Nat) (lc : Int) : Sto := [("leftbits", .val (.int lb)), ("leftchar", .val (.int lc)), ("out", .own a ((out.map code).map .int)), ("newline", .val (.bool false))]
/-- what an octet brings -/
theorem emit_all (xs : List Int) (hr : ∀ x ∈ xs, 0 ≤ x ∧ x < 64) (hl : xs.length % 4 = 0) (i : Nat) (hi : i < xs.length / 4 * 3) (lc : Int) (h0 : 0 ≤ lc) (h1 : lc < 65536) (hm : lc % 2 ^ (2 * (i % 3)) = xs.getD (i + i / 3) 0 / 2 ^ (6 - 2 * (i % 3))) :
    ∃ oc : Int, (octs xs)[i]? = some oc ∧ 0 ≤ oc ∧ oc < 256 ∧
      (∀ j : Nat, 6 * (j + 1) ≤ 2 * (i % 3) + 8 → (lc * 256 + oc) % 65536 / 2 ^ (2 * (i % 3) + 8 - 6 * (j + 1)) % 64 = xs.getD (i + i / 3 + j) 0 ∧ i + i / 3 + j < xs.length) ∧
      (lc * 256 + oc) % 65536 % 2 ^ (2 * ((i + 1) % 3)) = xs.getD (i + 1 + (i + 1) / 3) 0 / 2 ^ (6 - 2 * ((i + 1) % 3)) ∧
      ∃ j : Nat, j ≤ 2 ∧ 2 * (i % 3) + 8 - 6 * j = 2 * ((i + 1) % 3) ∧ 6 * j ≤ 2 * (i % 3) + 8 ∧ i + i / 3 + j = i + 1 + (i + 1) / 3 := by
  obtain ⟨g, hg⟩ : ∃ g, g = i / 3 := ⟨_, rfl⟩
  have h4 : 4 * g < xs.length := by (clear hm h1 h0 hl hr; lia)
  refine Classical.byContradiction fun hN => ?_
  obtain ⟨e0, e1, e2⟩ := octs_get xs g hl h4
  refine hN ?_
  clear hN
  have rng : ∀ j, 0 ≤ xs.getD j 0 ∧ xs.getD j 0 < 64 := fun j => by
    rw [List.getD_eq_getElem?_getD]
    cases q : xs[j]? with
    | none => simp
    | some v => exact hr v (List.mem_of_getElem? q)
  have ra := rng (4 * g)
  have rb := rng (4 * g + 1)
  have rc := rng (4 * g + 2)
  have rd := rng (4 * g + 3)
  have r4 := rng (4 * g + 4)
  generalize ha : xs.getD (4 * g) 0 = a at *
  generalize hb : xs.getD (4 * g + 1) 0 = b at *
  generalize hc : xs.getD (4 * g + 2) 0 = c at *
  generalize hd : xs.getD (4 * g + 3) 0 = d at *
  have three : i % 3 = 0 ∨ i % 3 = 1 ∨ i % 3 = 2 := by (first | lia | omega)
  rcases three with h | h | h
  · have hi3 : i = 3 * g := by (first | lia | omega)
    subst hi3
    have q1 : 3 * g + 3 * g / 3 = 4 * g := by (first | lia | omega)
    have q2 : (3 * g + 1) % 3 = 1 := by (first | lia | omega)
    have q3 : 3 * g + 1 + (3 * g + 1) / 3 = 4 * g + 1 := by (clear q2 q1 h hg hm hi e2 rd hd e1 rc hc e0 rb hb ra ha r4 rng h4 h1 h0 hl hr; lia)
    rw [h, q1] at hm ⊢
    rw [q2, q3, hb]
    refine ⟨_, e0, by (clear q3 q2 q1 h hg hm hi e2 rd hd e1 rc hc e0 hb ha r4 rng h4 h1 h0 hl hr; lia), by (clear q3 q2 q1 h hg hm hi e2 rd hd e1 rc hc e0 hb ha r4 rng h4 h1 h0 hl hr; lia), fun j hj => ?_, by (clear q3 q2 q1 h hg hm hi e2 rd hd e1 rc hc e0 hb ra ha r4 rng h4 h1 h0 hl hr; lia), 1, by (exact Nat.zero_lt_succ _), by (exact rfl), by (exact Nat.le_add_left _ _), by (exact rfl)⟩
    have : j = 0 := by (first | lia | omega)
    subst this
    show (lc * 256 + (a * 4 + b / 16)) % 65536 / 4 % 64 = xs.getD (4 * g) 0 ∧ 4 * g < _
    rw [ha]
    exact ⟨by (clear hj q3 q2 q1 h hg hm hi e2 rd hd e1 rc hc e0 hb ha r4 rng h4 h1 h0 hl hr; omega), by (assumption)⟩
  · have hi3 : i = 3 * g + 1 := by (first | lia | omega)
    subst hi3
    have q1 : 3 * g + 1 + (3 * g + 1) / 3 = 4 * g + 1 := by (clear h hg hm hi e2 rd hd e1 rc hc e0 rb hb ra ha r4 rng h4 h1 h0 hl hr; lia)
    have q2 : (3 * g + 1 + 1) % 3 = 2 := by (first | lia | omega)
    have q3 : 3 * g + 1 + 1 + (3 * g + 1 + 1) / 3 = 4 * g + 2 := by (clear q2 q1 h hg hm hi e2 rd hd e1 rc hc e0 rb hb ra ha r4 rng h4 h1 h0 hl hr; lia)
    rw [h, q1, hb] at hm
    rw [h, q1, q2, q3, hc]
    refine ⟨_, e1, by (clear q3 q2 q1 h hg hm hi e2 rd hd e1 hc e0 rb hb ra ha r4 rng h4 h1 h0 hl hr; lia), by (clear q3 q2 q1 h hg hm hi e2 rd hd e1 hc e0 rb hb ra ha r4 rng h4 h1 h0 hl hr; lia), fun j hj => ?_, by (clear q3 q2 q1 h hg hm hi e2 rd hd e1 hc e0 rb hb ra ha r4 rng h4 h1 h0 hl hr; lia), 1, by (exact Nat.zero_lt_succ _), by (exact rfl), by (exact Nat.le_add_left _ _), by (exact rfl)⟩
    have : j = 0 := by (first | lia | omega)
    subst this
    show (lc * 256 + (b % 16 * 16 + c / 4)) % 65536 / 16 % 64 = xs.getD (4 * g + 1) 0 ∧ 4 * g + 1 < _
    rw [hb]
    exact ⟨by (clear hj q3 q2 q1 h hg hi e2 rd hd e1 hc e0 rb hb ra ha r4 rng h4 h1 h0 hl hr; omega), by (first | lia | omega)⟩
  · have hi3 : i = 3 * g + 2 := by (first | lia | omega)
    subst hi3
    have q1 : 3 * g + 2 + (3 * g + 2) / 3 = 4 * g + 2 := by (first | lia | omega)
    have q2 : (3 * g + 2 + 1) % 3 = 0 := by (first | lia | omega)
    have q3 : 3 * g + 2 + 1 + (3 * g + 2 + 1) / 3 = 4 * g + 4 := by (clear q2 q1 h hg hm hi e2 rd hd e1 rc hc e0 rb hb ra ha r4 rng h4 h1 h0 hl hr; lia)
    rw [h, q1, hc] at hm
    rw [h, q1, q2, q3]
    refine ⟨_, e2, by (clear q3 q2 q1 h hg hm hi e2 hd e1 rc hc e0 rb hb ra ha r4 rng h4 h1 h0 hl hr; lia), by (clear q3 q2 q1 h hg hm hi e2 hd e1 rc hc e0 rb hb ra ha r4 rng h4 h1 h0 hl hr; lia), fun j hj => ?_, by (clear q3 q2 q1 h hg hm hi e2 rd hd e1 rc hc e0 rb hb ra ha rng h4 h1 h0 hl hr; lia), 2, by (exact Nat.le_refl _), by (exact rfl), by (exact Nat.le_refl _), by (exact rfl)⟩
    have : j = 0 ∨ j = 1 := by (first | lia | omega)
    rcases this with rfl | rfl
    · show (lc * 256 + (c % 4 * 64 + d)) % 65536 / 64 % 64 = xs.getD (4 * g + 2) 0 ∧ 4 * g + 2 < _
      rw [hc]
      exact ⟨by (clear hj q3 q2 q1 h hg hi e2 hd e1 rc hc e0 rb hb ra ha r4 rng h4 h1 h0 hl hr; lia), by (clear hj q3 q2 q1 h hg hm hi e2 rd hd e1 rc hc e0 rb hb ra ha r4 rng h1 h0 hr; lia)⟩
    · show (lc * 256 + (c % 4 * 64 + d)) % 65536 / 1 % 64 = xs.getD (4 * g + 3) 0 ∧ 4 * g + 3 < _
      rw [hd]
      exact ⟨by (clear hj q3 q2 q1 h hg hm hi e2 hd e1 rc hc e0 rb hb ra ha r4 rng h4 h1 h0 hl hr; lia), by (clear hj q3 q2 q1 h hg hm hi e2 rd hd e1 rc hc e0 rb hb ra ha r4 rng h1 h0 hr; lia)⟩
end Mine
end

section
set_option maxRecDepth 100000
set_option linter.unusedVariables false
set_option tactic.hygienic false
namespace Mine
open PySem PySem.Calls PyProof.Rows PySem.W PySem.SeqAt
section
variable {C : Cx} {n : Nat}
theorem take_snoc {xs : List Int} {m : Nat} {v : Int} (h : m < xs.length) (e : xs.getD m 0 = v) : xs.take m ++ [v] = xs.take (m + 1) := by
  rw [List.take_add_one, List.getElem?_eq_getElem h]
  rw [List.getD_eq_getElem?_getD, List.getElem?_eq_getElem h] at e
  rw [← e]; rfl
noncomputable def notIn (x : Str) (r : Sto) : Bool := r.all fun p => p.1 != x
theorem SubL.skip {x : Str} {e : Ent} {σ : Sto} : ∀ {r : Sto}, SubL r σ → notIn x r = true → SubL r ((x, e) :: σ)
  | [], _, _ => trivial
  | (y, e') :: r, ⟨h1, h2⟩, hn => by
    unfold notIn at hn
    rw [List.all_cons, Bool.and_eq_true] at hn
    have hy : y ≠ x := by simpa using hn.1
    exact ⟨(lookup_ne hy).trans h1, SubL.skip h2 hn.2⟩
theorem code_range (x : Int) : 0 ≤ code x ∧ code x < 256 := by
  unfold code
  have := (b64Bytes.getD x.toNat 0).toNat_lt
  (first | lia | omega)
theorem Ex.narrow {env : Env} {O₀ Ow : List Addr} {σ : Sto} {N : List Addr → Sto → Prop} {R : D → Prop} {ss : List Stmt} (σ' : Sto) (hs : SubL σ' σ) (h : Ex C n env O₀ Ow σ' ss N R) : Ex C n env O₀ Ow σ ss N R := Fl.weak h hs
set_option maxHeartbeats 4000000 in
theorem b2a_spec (T : Top C) {xs : List Int} (h : ∀ x ∈ xs, 0 ≤ x ∧ x < 64) (hl : xs.length % 4 = 0) (hz : xs.length ≤ 64) {A : Around} {O : List Addr} {s : Shared} {v₁ v₂ : Value} {Q : Value → Shared → Prop} (ha : AOk (n + 2) A) (w : Wd C.K C.TB s.heap) (ex : OOk O s.heap)
    (i₁ : Is O s.heap v₁ (.bytes (byteArr (octs xs)))) (i₂ : Is O s.heap v₂ (.bool false)) (q : ∀ v s', SK C.TB s s' → Is O s'.heap v (.bytes (byteArr (xs.map code))) → Q v s') : wpAny C.M A (call (.ref T.b2a.a) [v₁] [("newline", v₂)]) Q NoE s := by
  refine call_own (R := (· = .bytes (byteArr (xs.map code)))) (σ := [("data", .val (.bytes (byteArr (octs xs)))), ("newline", .val (.bool false))]) (body := bodyOf PB 9) T.st ha w ex (T.hB2a.fk.at w) (.of_eq (binds := [("data", v₁), ("newline", v₂)]) rfl) (.cons i₁ (.cons i₂ .nil)) rfl rfl (nodupB_eq rfl) ?_ (nodupB_eq rfl) ?_ fun d v s' e k i => q v s' k (e ▸ i)
  · intro y hy
    simp only [List.mem_cons, List.not_mem_nil, or_false] at hy
    rcases hy with rfl | rfl
    · exact .inl rfl
    · exact .inl rfl
  generalize s.heap.objs.size = L
  have ge : GE (callEnvC (T.b2a.fd 9 .none (.ref T.kB2a)) L T.b2a.a) := ⟨rfl, rfl, rfl⟩
  refine Ex.set (.callF ge T.hBuffer.gv T.hBuffer.fk.obj (.cons (.name rfl) .nil) (buffer_spec T)) ?_
  refine Ex.set (.callF ge T.hTruth.gv T.hTruth.fk.obj (.cons (.name rfl) .nil) (truth_spec T)) ?_
  refine Ex.newOwn fun a haO => ?_
  refine Ex.set .int (Ex.set .int ?_)
  have hB : KBw.bInts (byteArr (octs xs)) = octs xs := bInts_byteArr _ (octs_range xs h)
  have hlen : (octs xs).length = xs.length / 4 * 3 := octs_length xs
  refine Ex.cons (N₁ := fun Ow σ => Ow = [a] ∧ ∃ lc, SubL (b2aS a xs 0 lc) σ) (Ex1.forN (ds := (KBw.bInts (byteArr (octs xs))).map .int) (fun i Ow σ => Ow = [a] ∧ ∃ lc : Int, 0 ≤ lc ∧ lc < 65536 ∧ lc % 2 ^ (2 * (i % 3)) = xs.getD (i + i / 3) 0 / 2 ^ (6 - 2 * (i % 3)) ∧ SubL (b2aS a (xs.take (i + i / 3)) (2 * (i % 3)) lc) σ)
    (It.bytes (.name rfl)) ?_ ?_ ?_) ?_
  · refine ⟨rfl, 0, by (exact Int.natCast_nonneg _), by (exact Int.natCast_nonneg _), ?_, rfl, rfl, rfl, rfl, trivial⟩
    show (0 : Int) % 1 = xs.getD 0 0 / 64
    have : 0 ≤ xs.getD 0 0 ∧ xs.getD 0 0 < 64 := by
      rw [List.getD_eq_getElem?_getD]
      cases q : xs[0]? with
      | none => simp
      | some v => exact h v (List.mem_of_getElem? q)
    (first | lia | omega)
  · rintro i hi _ σ ⟨rfl, lc, h0, h1, hr, hσ⟩
    have hi' : i < xs.length / 4 * 3 := by rw [List.length_map, hB, hlen] at hi; exact hi
    refine Classical.byContradiction fun hN => ?_
    obtain ⟨oc, hoc, ho0, ho1, hem, hm', j, hj2, hjl, hj6, hjn⟩ := emit_all xs h hl i hi' lc h0 h1 hr
    refine hN ?_
    clear hN
    have hnth : ((KBw.bInts (byteArr (octs xs))).map D.int)[i] = .int oc := by
      have : ((KBw.bInts (byteArr (octs xs))).map D.int)[i]? = some (.int oc) := by rw [hB, List.getElem?_map, hoc]; rfl
      exact (List.getElem?_eq_some_iff.mp this).2
    rw [hnth]
    refine Ex.narrow (("b", .val (.int oc)) :: b2aS a (xs.take (i + i / 3)) (2 * (i % 3)) lc) ⟨rfl, hσ.skip rfl⟩ ?_
    refine Ex.set (d := .int ((lc * 256 + oc) % 65536)) (.eq (.bitAnd (.bitOr (.lshift (.name rfl) .int (by decide) (by decide) (by (first | lia | omega))) (.name rfl)) .int) ?_) ?_
    · rw [show (2 : Int) ^ (8 : Int).toNat = 256 from rfl, or_add h0 ho0 ho1, and65535 (by (clear hnth hjn hj6 hjl hj2 hm' hem ho1 hoc hi' hσ hr h1 hi hlen hB haO ge q i₂ i₁ ex w ha hz hl h; lia))]
    refine Ex.set (d := .int ((2 * (i % 3) + 8 : Nat) : Int)) (.eq (.add (.name rfl) .int) ?_) ?_
    · push_cast; rfl
    refine Ex.narrow (b2aS a (xs.take (i + i / 3)) (2 * (i % 3) + 8) ((lc * 256 + oc) % 65536)) ⟨rfl, rfl, rfl, rfl, trivial⟩ ?_
    have hc0 : 0 ≤ (lc * 256 + oc) % 65536 ∧ (lc * 256 + oc) % 65536 < 65536 := by (first | lia | omega)
    generalize hc : (lc * 256 + oc) % 65536 = c at *
    refine Ex.cons (N₁ := fun Ow σ => Ow = [a] ∧ SubL (b2aS a (xs.take (i + i / 3 + j)) (2 * ((i + 1) % 3)) c) σ) (Ex1.while_ (fun k Ow σ => Ow = [a] ∧ ∃ e : Nat, e ≤ j ∧ k = j - e ∧ SubL (b2aS a (xs.take (i + i / 3 + e)) (2 * (i % 3) + 8 - 6 * e) c) σ) j ⟨rfl, 0, by (exact Nat.zero_le _), by (exact rfl), ?_⟩ ?_) ?_
    · exact ⟨rfl, rfl, rfl, rfl, trivial⟩
    · rintro k _ σ ⟨rfl, e, he, rfl, hσ⟩
      refine ⟨decide ((6 : Int) ≤ ((2 * (i % 3) + 8 - 6 * e : Nat) : Int)), .cmp (.name hσ.1) .int .geInt, fun hb => ?_, fun hb => ?_⟩
      · have hb' : 6 ≤ 2 * (i % 3) + 8 - 6 * e := by have := of_decide_eq_true hb; (first | lia | omega)
        have hej : e < j := by (first | lia | omega)
        obtain ⟨hv, hlt⟩ := hem e (by (first | lia | omega))
        have hx := h _ (List.getElem_mem hlt)
        have hg : xs.getD (i + i / 3 + e) 0 = xs[i + i / 3 + e] := by rw [List.getD_eq_getElem?_getD, List.getElem?_eq_getElem hlt]; rfl
        refine Ex.narrow (b2aS a (xs.take (i + i / 3 + e)) (2 * (i % 3) + 8 - 6 * e) c) hσ ?_
        refine Ex.one (.append (d := .int (code (xs.getD (i + i / 3 + e) 0))) rfl (.eq (.itemBytes (.glob ge T.b64v fun O h => .bytes _ _) (.eq (e := .BinOp _ _ _ _) (c := .int (xs.getD (i + i / 3 + e) 0)) (.bitAnd (.rshift (.name rfl) (.sub (.name rfl) .int) ?_) .int) ?_) ?_ ?_ ?_) ?_) ⟨rfl, rfl⟩ ?_) ?_
        · (first | lia | omega)
        · rw [and63 (Int.fdiv_nonneg hc0.1 (by exact_mod_cast Nat.zero_le _)), Int.fdiv_eq_ediv_of_nonneg _ (by exact_mod_cast Nat.zero_le _), show (((2 * (i % 3) + 8 - 6 * e : Nat) : Int) - 6).toNat = 2 * (i % 3) + 8 - 6 * (e + 1) from by (clear hg hx hlt hv hej hb' hb hσ he hc0 hm' hem hc hnth hjn hj6 hjl hj2 ho1 ho0 hoc hi' hr h1 h0 hi hlen hB haO ge q i₂ i₁ ex w ha hz hl h; omega), hv]
        · rw [hg]; exact hx.1
        · rw [hg, b64_len]; exact hx.2
        · rw [b64_len]; decide
        · rfl
        · rw [List.length_map, List.length_map]; have := List.length_take_le (i + i / 3 + e) xs; (clear hg hx hlt hv hej hb' hb hσ hc0 hm' hem hc hnth hjn hj6 hjl ho1 ho0 hoc hr h1 h0 hi hlen hB haO ge q i₂ i₁ ex w ha hl h; lia)
        · refine Ex.set (d := .int ((2 * (i % 3) + 8 - 6 * (e + 1) : Nat) : Int)) (.eq (.sub (.name rfl) .int) ?_) (.nil ⟨j - (e + 1), by (first | lia | omega), rfl, e + 1, by (assumption), rfl, rfl, rfl, ?_, rfl, trivial⟩)
          · congr 1; (first | lia | omega)
          · show some (Ent.own a (((xs.take (i + i / 3 + e)).map code).map D.int ++ [.int (code (xs.getD (i + i / 3 + e) 0))])) = _
            rw [← Nat.add_assoc (i + i / 3) e 1, ← take_snoc hlt rfl, List.map_append, List.map_append]
            rfl
      · have hb' : 2 * (i % 3) + 8 - 6 * e < 6 := by have := of_decide_eq_false hb; (first | lia | omega)
        have hej : e = j := by (first | lia | omega)
        subst hej
        rw [hjl] at hσ
        exact ⟨rfl, hσ⟩
    · rintro _ σ ⟨rfl, hσ⟩
      rw [hjn] at hσ
      exact .nil ⟨rfl, c, hc0.1, hc0.2, hm', hσ⟩
  · rintro _ σ ⟨rfl, lc, h0, h1, hr, hσ⟩
    refine ⟨rfl, lc, ?_⟩
    rw [List.length_map, hB, hlen] at hσ
    rw [List.take_of_length_le (by (clear hσ hr h1 h0 hlen hB haO ge q i₂ i₁ ex w ha hz h; lia)), show xs.length / 4 * 3 % 3 = 0 from by (first | lia | omega)] at hσ
    exact hσ
  · rintro _ σ ⟨rfl, lc, hσ⟩
    refine Ex.narrow (b2aS a xs 0 lc) hσ ?_
    refine Ex.one (Ow' := [a]) (σ' := b2aS a xs 0 lc) (.if_ (b := false) (.cmp (.name rfl) .int .eqInt) (fun h => by cases h) fun _ => .one (.if_ (b := false) (.cmp (.name rfl) .int .eqInt) (fun h => by cases h) fun _ => .nil ⟨rfl, rfl⟩) (.nil ⟨rfl, rfl⟩)) ?_
    refine Ex.one (Ow' := [a]) (σ' := b2aS a xs 0 lc) (.if_ (b := false) (.plain (.name rfl)) (fun h => by cases h) fun _ => .nil ⟨rfl, rfl⟩) ?_
    refine Ex.freeze (x := "out") rfl haO (Ex.ret (.callT ge T.bytes (.cons (.name rfl) .nil) (.bytes (fun i hi => ?_) ?_)) rfl)
    · obtain ⟨x, _, rfl⟩ := List.mem_map.mp hi
      exact code_range x
    · rw [List.length_map]; (exact Nat.le_trans (by assumption) (by decide))
end
end Mine
end

section
set_option maxRecDepth 100000
set_option linter.unusedVariables false
set_option tactic.hygienic false
namespace Mine
open PySem PySem.Calls PyProof.Rows PySem.W PySem.SeqAt
section
variable {C : Cx} {n : Nat}
theorem Fn.of2D {a : Addr} {fd : FuncData} {body : List Stmt} {x y : Str} {d₁ d₂ d : D} (st : Statics C) (hf : FnK C a fd) (hbody : fd.body = .stmts body) (hclo : fd.closure = []) (hbind : ∀ (s : Shared) v u, Wd C.K C.TB s.heap → BindsTo s fd ⟨[v, u], []⟩ [(x, v), (y, u)])
    (hkx : KindOk fd x) (hky : KindOk fd y) (hxy : x ≠ y) (hcn : nodupB ((cellsFrom 0 fd.scope.names []).map (·.1)) = true)
    (hEx : ∀ L O, Ex C n (callEnvC fd L a) O [] [(x, .val d₁), (y, .val d₂)] body (fun _ _ => D.none = d) (· = d)) (hco : fd.scope.isCoroutine = false := by rfl) (hgen : fd.scope.isGenerator = false := by rfl) (hk : fd.scope.kind = .function := by rfl) :
    Fn C (n + 1) (.ref a) [d₁, d₂] d := fun A O s vs Q ha w ex is q => by
  cases is with
  | cons i₁ is =>
  cases is with
  | cons i₂ is =>
  cases is
  refine call_own (R := (· = d)) st ha w ex (hf.at w) (hbind _ _ _ w) (.cons (e := .val d₁) i₁ (.cons (e := .val d₂) i₂ .nil)) hbody hclo (by simp [hxy]) (fun z hz => ?_) (nodupB_eq hcn) (hEx _ _) (fun d' v s' e k i => q v s' k (e ▸ i)) hco hgen hk
  simp only [List.mem_cons, List.not_mem_nil, or_false] at hz
  rcases hz with rfl | rfl
  · exact hkx.imp id fun ⟨h, h'⟩ => ⟨h, h' _⟩
  · exact hky.imp id fun ⟨h, h'⟩ => ⟨h, h' _⟩
theorem Ev.callKw1 {env : Env} {σ : Sto} {f k : Str} {p pos p₂ : Pos} {e e₂ : Expr} {a : Addr} {d₁ d₂ d : D} (ge : GE env) (gv : GV C f (.ref a)) (fo : FnObj C a) (h₁ : Ev C n env σ e d₁) (h₂ : Ev C n env σ e₂ d₂)
    (hf : ∀ (A : Around) (O : List Addr) (s : Shared) (v₁ v₂ : Value) (Q : Value → Shared → Prop), AOk n A → Wd C.K C.TB s.heap → OOk O s.heap → Is O s.heap v₁ d₁ → Is O s.heap v₂ d₂ → (∀ v s', SK C.TB s s' → Is O s'.heap v d → Q v s') → wpAny C.M A (call (.ref a) [v₁] [(k, v₂)]) Q NoE s)
    (hk : backToKw pos (keywordEach [{ arg := some k, value := e₂, pos := p₂ }] env) = [(some k, do let v ← eval e₂ env; standAt pos; pure v)] := by rfl)
    (hx : env.kindOf f = some .globalImplicit := by rfl) (he : starEach [e] env = (false, eval e env) :: starEach [] env := by rfl) (hd : (f == ("__debug__" : Str)) = false := by decide) :
    Ev C n env σ (.Call (.Name f p) [e] [{ arg := some k, value := e₂, pos := p₂ }] pos) d :=
  .callKw (k := k) (e₂ := e₂) ge gv fo h₁ h₂ hf hk (fun h => wpAny_bind (wpAny_mono h (fun v s' h' => wpAny_bind (wpAny_standAt (wpAny_pure h'))) fun _ _ e => e)) hx he hd
noncomputable abbrev parTab : Array UInt8 := transTable #[43, 47] #[40, 41]
/-- the sign that stands for a six -/
noncomputable def sgn (x : Int) : Nat := (parTab.getD (b64Bytes.getD x.toNat 0).toNat (b64Bytes.getD x.toNat 0)).toNat
theorem sgn_lt (x : Int) : sgn x < 256 := UInt8.toNat_lt _
theorem sgn62 : sgn 62 = 40 := by decide +kernel
theorem sgn63 : sgn 63 = 41 := by decide +kernel
theorem sgn_fin : ∀ k : Fin 64, sgn (k.val : Int) ≠ 34 ∧ sgn (k.val : Int) ≠ 92 ∧ (k.val < 62 → sgn (k.val : Int) ≠ 40 ∧ sgn (k.val : Int) ≠ 41) := by decide +kernel
theorem sgn_all {x : Int} (h0 : 0 ≤ x) (h1 : x < 64) : sgn x ≠ 34 ∧ sgn x ≠ 92 ∧ (x < 62 → sgn x ≠ 40 ∧ sgn x ≠ 41) := by
  have := sgn_fin ⟨x.toNat, by (first | lia | omega)⟩
  have e : ((x.toNat : Nat) : Int) = x := by (first | lia | omega)
  simp only [e] at this
  exact ⟨this.1, this.2.1, fun h => this.2.2 (by (first | lia | omega))⟩
theorem b64_bytes (xs : List Int) : translated (byteArr (xs.map code)) parTab = byteArr (xs.map fun x => (sgn x : Int)) := by
  unfold translated byteArr
  rw [List.map_toArray, List.map_map, List.map_map, List.map_map]
  congr 1
  apply List.map_congr_left
  intro x _
  show parTab.getD ((code x).toNat.toUInt8).toNat ((code x).toNat.toUInt8) = ((sgn x : Int).toNat).toUInt8
  have e : (code x).toNat.toUInt8 = b64Bytes.getD x.toNat 0 := by
    unfold code
    rw [Int.toNat_natCast, Nat.toUInt8_eq]
    exact UInt8.ofNat_toNat
  rw [e, Int.toNat_natCast]
  unfold sgn
  rw [Nat.toUInt8_eq, UInt8.ofNat_toNat]
set_option maxHeartbeats 2000000 in
theorem b64_spec (T : Top C) {xs : List Int} (h : ∀ x ∈ xs, 0 ≤ x ∧ x < 64) (hl : xs.length % 4 = 0) (hz : xs.length ≤ 64) : Fn C (n + 3) (.ref T.b64.a) [.bytes (byteArr (octs xs)), .bytes #[40, 41]] (.bytes (byteArr (xs.map fun x => (sgn x : Int)))) := by
  refine Classical.byContradiction fun hN => ?_
  obtain ⟨o, m, hto, htd⟩ := T.tB64
  refine hN ?_
  clear hN
  refine Fn.of2D (body := bodyOf PB 11) (x := "s") (y := "altchars") T.st T.hB64.fk rfl rfl (fun s v u w => BindsTo.of_defaults rfl (w.k _ _ hto) htd rfl rfl) (.inl rfl) (.inl rfl) (by decide) rfl fun L O => ?_
  have ge : GE (callEnvC (T.b64.fd 11 (.ref T.dB64)) L T.b64.a) := ⟨rfl, rfl, rfl⟩
  refine Ex.set (d := .bytes (byteArr (xs.map code))) (.callKw1 (d₁ := .bytes (byteArr (octs xs))) (d₂ := .bool false) ge T.hB2a.gv T.hB2a.fk.obj (.name rfl) .boolc (fun A O s v₁ v₂ Q ha w ex i₁ i₂ q => b2a_spec T h hl hz ha w ex i₁ i₂ q)) ?_
  refine Ex.ifRet (b := true) (.notNone (.name rfl)) (fun _ => ?_) fun h => by cases h
  refine Ex.one (.assert (.eq (.cmp (.callB ge T.len (.cons (.name rfl) .nil) (.lenBytes (by decide))) .int .eqInt) rfl) ⟨rfl, rfl⟩) ?_
  have e : transTable #[43, 47] #[40, 41] = parTab := rfl
  refine Ex.ret (.eq (.translate (.name rfl) (.maketrans (frm := #[43, 47]) (to := #[40, 41]) ge T.bytes .bytesc (.name rfl) rfl (fun h => methodCall_KW h)) (transTable_size _ _) ?_) ?_) rfl
  · rw [byteArr_size, List.length_map]; (exact Nat.le_trans (by assumption) (by decide))
  · rw [b64_bytes]
end
end Mine
end

section
set_option maxRecDepth 100000
set_option linter.unusedVariables false
set_option tactic.hygienic false
namespace Mine
open PySem PySem.Calls PyProof.Rows PySem.W PySem.SeqAt
noncomputable def pad4 (xs : List Int) : List Int := xs ++ List.replicate ((-(xs.length : Int)).fmod 4).toNat 0
theorem pad4_length (xs : List Int) : (pad4 xs).length % 4 = 0 ∧ (pad4 xs).length ≤ xs.length + 3 ∧ xs.length ≤ (pad4 xs).length := by
  unfold pad4
  rw [List.length_append, List.length_replicate]
  have e : (-(xs.length : Int)).fmod 4 = (-(xs.length : Int)) % 4 := Int.fmod_eq_emod_of_nonneg _ (by (exact Int.natCast_nonneg _))
  rw [e]
  (first | lia | omega)
noncomputable def txtOf (xs : List Int) : Str := ⟨(xs.map sgn).toArray⟩
theorem step4 {m : Nat} (hm : m ≤ 4) : Builtin.Range.small 0 ((4 * m : Nat) : Int) 4 = true ∧ Builtin.Range.rangeSize 0 ((4 * m : Nat) : Int) 4 = (m : Int) := by
  have : m = 0 ∨ m = 1 ∨ m = 2 ∨ m = 3 ∨ m = 4 := by (first | lia | omega)
  rcases this with rfl | rfl | rfl | rfl | rfl <;> decide
theorem octs_snoc (xs : List Int) (g : Nat) (hl : xs.length % 4 = 0) (h : 4 * g < xs.length) : octs (xs.take (4 * (g + 1))) = octs (xs.take (4 * g)) ++ [xs.getD (4 * g) 0 * 4 + xs.getD (4 * g + 1) 0 / 16, xs.getD (4 * g + 1) 0 % 16 * 16 + xs.getD (4 * g + 2) 0 / 4, xs.getD (4 * g + 2) 0 % 4 * 64 + xs.getD (4 * g + 3) 0] := by
  induction g generalizing xs with
  | zero =>
    match xs, hl, h with
    | a :: b :: c :: d :: r, _, _ => simp [octs]
    | [_], hl, _ => simp at hl
    | [_, _], hl, _ => simp at hl
    | [_, _, _], hl, _ => simp at hl
  | succ g ih =>
    match xs, hl, h with
    | a :: b :: c :: d :: r, hl, h =>
      have := ih r (by simp only [List.length_cons] at hl; (first | lia | omega)) (by simp only [List.length_cons] at h; (first | lia | omega))
      rw [show 4 * (g + 1 + 1) = 4 * (g + 1) + 1 + 1 + 1 + 1 from by (exact rfl), show 4 * (g + 1) = 4 * g + 1 + 1 + 1 + 1 from by (exact rfl)]
      simp only [List.take_succ_cons]
      rw [show 4 * g + 1 + 1 + 1 + 1 = 4 * (g + 1) from by (exact rfl)]
      show [a * 4 + b / 16, b % 16 * 16 + c / 4, c % 4 * 64 + d] ++ octs (r.take (4 * (g + 1))) = ([a * 4 + b / 16, b % 16 * 16 + c / 4, c % 4 * 64 + d] ++ octs (r.take (4 * g))) ++ _
      rw [this, List.append_assoc]
      rfl
    | [_], hl, _ => simp at hl
    | [_, _], hl, _ => simp at hl
    | [_, _, _], hl, _ => simp at hl
theorem mul_ok {a b : Int} (h : 0 ≤ a) (h2 : a < 65536) : IntMulOk a b := by
  refine .of_left ?_
  unfold Builtin.Int.intBits
  split
  · (exact Nat.zero_le _)
  · rename_i hne
    have hn : a.natAbs ≠ 0 := by
      intro q
      apply hne
      simp only [beq_iff_eq]; (first | lia | omega)
    have : a.natAbs.log2 < 16 := (Nat.log2_lt hn).mpr (by (first | lia | omega))
    (exact Nat.le_trans (by assumption) (by decide))
theorem glue_fold (cs : List Nat) : ∀ acc : Array Nat, (cs.map fun c => (⟨#[c]⟩ : Str)).foldl (fun acc p => acc ++ (Str.ofString "").cps ++ p.cps) acc = acc ++ cs.toArray := by
  induction cs with
  | nil => intro acc; simp
  | cons c r ih =>
    intro acc
    rw [List.map_cons, List.foldl_cons, ih, show (Str.ofString "").cps = #[] from rfl]
    apply Array.toList_inj.mp
    simp
theorem join_signs (cs : List Nat) : Txt.join "" (cs.map fun c => (⟨#[c]⟩ : Str)) = ⟨cs.toArray⟩ := by
  unfold Txt.join Builtin.Str.glued
  cases cs with
  | nil => rfl
  | cons c r =>
    congr 1
    rw [List.map_cons, List.drop_succ_cons, List.drop_zero, glue_fold]
    apply Array.toList_inj.mp
    simp
theorem joinOk_signs (cs : List Nat) (h : cs.length ≤ 1000000) : JoinOk "" (cs.map fun c => (⟨#[c]⟩ : Str)) = true := by
  unfold JoinOk
  have key : ∀ (l : List Nat) (k : Nat), (l.map fun c => (⟨#[c]⟩ : Str)).foldl (fun n s => n + s.length + (Str.ofString "").length) k = k + l.length := by
    intro l
    induction l with
    | nil => intro k; rfl
    | cons c r ih =>
      intro k
      rw [List.map_cons, List.foldl_cons, ih, show (⟨#[c]⟩ : Str).length = 1 from rfl, show (Str.ofString "").length = 0 from rfl, List.length_cons]
      (first | lia | omega)
  rw [List.foldl_toArray, key]
  unfold Builtin.Str.tooLong
  simp only [Bool.not_eq_true', decide_eq_false_iff_not, sizeLine_eq]
  (first | lia | omega)
end Mine
end

section
set_option maxRecDepth 100000
set_option maxHeartbeats 0
set_option linter.unusedVariables false
namespace Mine
open PySem PySem.Calls PyProof.Rows PySem.W PySem.SeqAt
section
variable {C : Cx} {n : Nat} {env : Env} {σ : Sto}
noncomputable def cut (x : Str) (a b : Nat) : Str := ⟨((x.cps.toList.drop a).take (b - a)).toArray⟩
theorem strLen (x : Str) : x.length = x.cps.toList.length := by show x.cps.size = _; rw [Array.length_toList]
/-- x[a:b] of a text -/
theorem Ev.strCut {value e₁ e₂ : Expr} {p pos : Pos} {x : Str} {a b : Nat} (h : Ev C n env σ value (.str x)) (h₁ : Ev C n env σ e₁ (.int a)) (h₂ : Ev C n env σ e₂ (.int b)) (hab : a ≤ b) (hb : b ≤ x.length) (hz : x.length ≤ 1000000) (ht : ∀ o r, letTemporaryGo value o r = pure () := by intro _ _; rfl) :
    Ev C n env σ (.Subscript value (.Slice (some e₁) (some e₂) none p) pos) (.str (cut x a b)) := fun A O Ow s Q g q => by
  refine wpAny_Subscript_str_slice (h A O Ow s _ g fun v₀ s₀ k₀ i₀ => ?_) ht
  rw [evalPart_some]
  refine h₁ A O Ow s₀ _ (g.sk k₀) fun v₁ s₁ k₁ i₁ => ?_
  rw [evalPart_some]
  refine h₂ A O Ow s₁ _ ((g.sk k₀).sk k₁) fun v₂ s₂ k₂ i₂ => ?_
  cases i₀
  cases i₁
  cases i₂
  rename_i t t₁ t₂
  refine ⟨x, t, some ((a : Int), t₁), some ((b : Int), t₂), rfl, rfl, rfl, ?_⟩
  have k := (k₀.trans k₁).trans k₂
  have hp : slicePicked x (some ((a : Int), t₁)) (some ((b : Int), t₂)) none = (List.range (b - a)).map (a + ·) := StrLaws.strSliceIndices_plain hab hb
  have hf : (slicePicked x (some ((a : Int), t₁)) (some ((b : Int), t₂)) none).filterMap (x.cps[·]?) = (x.cps.toList.drop a).take (b - a) := by
    rw [hp]
    exact pick_run x.cps a (b - a)
  have hl := strLen x
  unfold sliceMade
  split
  · rename_i hc
    have hlen : b - a = x.length := by
      rw [Bool.and_eq_true] at hc
      have := beq_iff_eq.mp hc.2
      rw [hp, List.length_map, List.length_range] at this
      exact this
    refine q _ _ (k.trans (.push _)) ?_
    have : cut x a b = x := by
      unfold cut
      have e : a = 0 := by omega
      subst e
      rw [List.drop_zero, List.take_of_length_le (by rw [← hl]; omega)]
    rw [this]
    exact .str _ _
  · rw [hf]
    refine ⟨?_, q _ _ ((k.trans (.push _)).trans (.toks _)) (.str _ _)⟩
    show (((x.cps.toList.drop a).take (b - a)).toArray).size ≤ _
    rw [List.size_toArray, List.length_take, List.length_drop, sizeLine_eq]
    omega
/-- xs[:-1] -/
theorem Ev.cutLast {value e : Expr} {p pos : Pos} {ds : List D} (h₁ : Ev C n env σ value (.list ds)) (h₂ : Ev C n env σ e (.int (-1))) (hz : ds.length ≤ 1000000) (ht : ∀ o r, letTemporaryGo value o r = pure () := by intro _ _; rfl) :
    Ev C n env σ (.Subscript value (.Slice none (some e) none p) pos) (.list ds.dropLast) := fun A O Ow s Q g q => by
  refine Subscript_Slice (h₁ A O Ow s _ g fun v₁ s₁ k₁ i₁ => ?_) ht
  rw [eval_Slice]
  refine wpAny_bind (m := valueOrNone none) (wpAny_pure ?_)
  refine wpAny_bind (wpAny_holding (m := eval e env) (h₂ A O Ow s₁ _ (g.sk k₁) fun v₂ s₂ k₂ i₂ => ?_))
  refine wpAny_bind (m := holding _ (valueOrNone none)) (wpAny_holding (wpAny_pure ?_))
  have i₁' := i₁.kp k₂.kp (g.sk k₁).w.tb
  cases i₂
  cases i₁' with
  | list hl hO xs =>
  rename_i t l vs
  have hlen := xs.length
  refine wpAny_newObj_type ?_ (by size_fits)
  have hl' : LsAt (s₂.heap.push { cls := .type "slice", data := .fields [Value.none, .int (-1) t, .none].toArray }) l vs := let ⟨kk, e⟩ := hl; ⟨kk, Heap.get?_push_of_some _ e⟩
  have g₂ := (g.sk k₁).sk k₂
  refine ⟨"list", _, slot_list_getitem.lookup, Heap.IsList.typeIs (s := { s₂ with heap := s₂.heap.push _ }) hl'.isList, ?_⟩
  refine wpAny_getItem_list_slice (s := { s₂ with heap := s₂.heap.push _ }) hl'.isList (Heap.IsSliceOf.new s₂.heap _ _ _) .none (.int _ _) .none (by simp) ?_ (by simp only [List.size_toArray, sizeLine_eq]; omega)
  have e1 : slicePick vs.toArray none (some (-1)) none = (vs.dropLast).toArray := by
    have := slicePick_butLast vs.toArray 1 (by omega)
    rw [show (-((1 : Nat) : Int)) = -1 from rfl] at this
    rw [this, List.dropLast_eq_take, List.size_toArray]
  rw [e1]
  have xs' : IsAll O (s₂.heap.push { cls := .type "slice", data := .fields [Value.none, .int (-1) t, .none].toArray }) vs.dropLast ds.dropLast := by
    rw [List.dropLast_eq_take, List.dropLast_eq_take, hlen]
    exact (xs.push _).take _
  refine q _ _ (((k₁.trans k₂).trans (.push _)).trans (.push (s := { s₂ with heap := s₂.heap.push _ }) _)) (is_newList xs' ?_)
  exact (g₂.sk (SK.push _)).newO
/-- xs[::-1] -/
theorem Ev.rev {value e : Expr} {p pos : Pos} {ds : List D} (h₁ : Ev C n env σ value (.list ds)) (h₂ : Ev C n env σ e (.int (-1))) (hz : ds.length ≤ 1000000) (ht : ∀ o r, letTemporaryGo value o r = pure () := by intro _ _; rfl) :
    Ev C n env σ (.Subscript value (.Slice none none (some e) p) pos) (.list ds.reverse) := fun A O Ow s Q g q => by
  refine wpAny_Subscript_Slice_step (T := "list") slot_list_getitem.lookup (h₁ A O Ow s _ g fun v₁ s₁ k₁ i₁ => ?_) ht
  rw [eval_Slice]
  refine wpAny_bind (m := valueOrNone none) (wpAny_pure ?_)
  refine wpAny_bind (m := holding _ (valueOrNone none)) (wpAny_holding (wpAny_pure ?_))
  refine wpAny_bind (wpAny_holding (m := eval e env) (h₂ A O Ow s₁ _ (g.sk k₁) fun v₂ s₂ k₂ i₂ => ?_))
  have i₁' := i₁.kp k₂.kp (g.sk k₁).w.tb
  cases i₂
  cases i₁' with
  | list hl hO xs =>
  rename_i t l vs
  have hlen := xs.length
  refine wpAny_newObj_type ?_ (by size_fits)
  have hl' : LsAt (s₂.heap.push { cls := .type "slice", data := .fields [Value.none, .none, .int (-1) t].toArray }) l vs := let ⟨kk, e⟩ := hl; ⟨kk, Heap.get?_push_of_some _ e⟩
  have g₂ := (g.sk k₁).sk k₂
  refine ⟨Heap.IsList.typeIs (s := { s₂ with heap := s₂.heap.push _ }) hl'.isList, ?_⟩
  refine wpAny_getItem_list_slice (s := { s₂ with heap := s₂.heap.push _ }) hl'.isList (Heap.IsSliceOf.new s₂.heap _ _ _) .none .none (.int _ _) (by simp) ?_ (by simp only [List.size_toArray, sizeLine_eq]; omega)
  rw [krv_pick]
  refine q _ _ (((k₁.trans k₂).trans (.push _)).trans (.push (s := { s₂ with heap := s₂.heap.push _ }) _)) (is_newList (xs.push _).reverse ?_)
  exact (g₂.sk (SK.push _)).newO
/-- a < b < c -/
theorem Tr.chain2 {l m r : Expr} {pos : Pos} {a b c : Int} (h₁ : Ev C n env σ l (.int a)) (h₂ : Ev C n env σ m (.int b)) (h₃ : Ev C n env σ r (.int c)) (hm : lastMarks [.Lt, .Lt] [m, r] = false := by with_unfolding_all rfl) :
    Tr C n env σ (.Compare l [.Lt, .Lt] [m, r] pos) (decide (a < b) && decide (b < c)) := fun A O Ow s Q g q => by
  refine isTrue_chain (rs := []) (h₁ A O Ow s _ g fun v₁ s₁ k₁ i₁ => test_link (h₂ A O Ow s₁ _ (g.sk k₁) fun v₂ s₂ k₂ i₂ => ?_)) hm
  cases i₁
  cases i₂
  refine lt_int (wpAny_truthy_bool ?_)
  by_cases h : a < b
  · rw [decide_eq_true h, if_pos rfl]
    refine test_last (h₃ A O Ow s₂ _ ((g.sk k₁).sk k₂) fun v₃ s₃ k₃ i₃ => ?_)
    cases i₃
    refine lt_int (wpAny_truthy_bool ?_)
    have := q _ ((k₁.trans k₂).trans k₃)
    rwa [decide_eq_true h, Bool.true_and] at this
  · rw [decide_eq_false h, if_neg (by decide)]
    have := q _ (k₁.trans k₂)
    rwa [decide_eq_false h, Bool.false_and] at this
end
end Mine
end

section
set_option maxRecDepth 100000
set_option maxHeartbeats 0
set_option linter.unusedVariables false
namespace Mine
open PySem PySem.Calls PyProof.Rows PySem.W PySem.SeqAt
noncomputable def maxL (ns : List Int) : Int := ns.getD (argBest (fun i j => decide (ns.getD j 0 < ns.getD i 0)) (ns.length - 1)) 0
section
variable {C : Cx} {n : Nat}
theorem Fn.maxI {ns : List Int} (h0 : 0 < ns.length) : Fn C n (.builtin "max") [L1 ns] (.int (maxL ns)) := fun A O s vs Q ha w ex is q => by
  cases is with
  | cons x xs =>
  cases xs
  cases x with
  | list hl hO xs =>
  rename_i a vs
  have hl2 := hl.isList
  have hlen := xs.length
  rw [List.length_map] at hlen
  obtain ⟨kk, e⟩ := hl
  have haI : a ≠ s.heap.objs.size := Nat.ne_of_lt (Heap.lt_size e)
  refine call_max_walk (wpAny_pyIter_list hl2 ?_)
  have W := Walks.list (prog := C.prog) (w := C.w) (A := A.in1) ha.hd s.heap.objs.size a haI vs.toArray
  rw [show vs.toArray.size = ns.length from by rw [List.size_toArray, hlen]] at W
  have at_ : ∀ (i : Nat) (v : Value), vs.toArray[i]? = some v → ∃ t, v = Value.int (ns.getD i 0) t := fun i v hv => by
    have hv : vs[i]? = some v := by simpa using hv
    obtain ⟨hi, e⟩ := List.getElem?_eq_some_iff.mp hv
    obtain ⟨t, e'⟩ := ints_at xs hi
    exact ⟨t, by rw [← e, e']⟩
  refine ⟨_, _, _, _, _, _, (fun i j => decide (ns.getD j 0 < ns.getD i 0)), rfl, W, ⟨⟨_, Heap.get?_push_size _ rfl, rfl, rfl⟩, hl2.push _⟩, fun b hb => ?_, h0, fun i j vi vj s' Q' E' hi hj hq => ?_, fun v h' tk hv hk => ?_⟩
  · simp only [List.mem_cons, List.not_mem_nil, or_false] at hb
    have := Heap.lt_size e
    rw [Heap.size_push]
    rcases hb with rfl | rfl
    · exact Nat.lt_succ_self _
    · exact Nat.lt_succ_of_lt this
  · obtain ⟨t, rfl⟩ := at_ i vi hi
    obtain ⟨u, rfl⟩ := at_ j vj hj
    exact PyProof.Rows.gt_int (by exact hq)
  · obtain ⟨t, rfl⟩ := at_ _ v hv
    refine q _ _ ⟨⟨fun b o e' hb => hk b o (fun hm => ?_) (Heap.get?_push_of_some _ e'), fun b hb ps e' => ⟨#[], ?_⟩⟩, rfl, #[], by simp, .empty⟩ (.int _ _)
    · rw [List.mem_singleton] at hm
      exact absurd (Heap.lt_size e') (by rw [hm]; exact Nat.lt_irrefl _)
    · have : b ∉ [s.heap.objs.size] := fun hm => by
        rw [List.mem_singleton] at hm
        exact absurd (Heap.lt_size e') (by rw [hm]; exact Nat.lt_irrefl _)
      have := hk b _ this (Heap.get?_push_of_some _ e')
      dsimp only
      rw [this]; simp
end
end Mine
end

section
set_option maxRecDepth 100000
set_option maxHeartbeats 0
set_option linter.unusedVariables false
set_option tactic.hygienic false
namespace Mine
open PySem PySem.Calls PyProof.Rows PySem.W PySem.SeqAt
theorem pad4_range {xs : List Int} (h : ∀ x ∈ xs, 0 ≤ x ∧ x < 64) : ∀ x ∈ pad4 xs, 0 ≤ x ∧ x < 64 := fun x hx => by
  unfold pad4 at hx
  rcases List.mem_append.mp hx with hx | hx
  · exact h x hx
  · rw [(List.mem_replicate.mp hx).2]; (first | lia | omega)
noncomputable def txB (sixes xs os : List Int) (a : Addr) : Sto := [("filled", .val (L1 xs)), ("octets", .own a (os.map .int)), ("sixes", .val (L1 sixes))]
section
variable {C : Cx} {n : Nat}
theorem rng_get (a c : Int) (m i : Nat) (h : i < (rng a c m).length) : (rng a c m)[i] = .int (a + (i : Nat) * c) := by simp [rng]
theorem Ev.floor {env : Env} {σ : Sto} {l r : Expr} {pos : Pos} {a b : Int} (h₁ : Ev C n env σ l (.int a)) (h₂ : Ev C n env σ r (.int b)) (hb : 0 < b) (hs : b < 1073741824) : Ev C n env σ (.BinOp l .FloorDiv r pos) (.int (a / b)) := by
  have := Ev.floordiv (pos := pos) h₁ h₂ (by (first | lia | omega)) (by (first | lia | omega))
  rwa [Int.fdiv_eq_ediv_of_nonneg _ (by (first | lia | omega))] at this
theorem Ev.modP {env : Env} {σ : Sto} {l r : Expr} {pos : Pos} {a b : Int} (h₁ : Ev C n env σ l (.int a)) (h₂ : Ev C n env σ r (.int b)) (hb : 0 < b) : Ev C n env σ (.BinOp l .Mod r pos) (.int (a % b)) := by
  have := Ev.mod (pos := pos) h₁ h₂ (by (first | lia | omega))
  rwa [Int.fmod_eq_emod_of_nonneg _ (by (first | lia | omega))] at this
theorem text_spec (T : Top C) {sixes : List Int} (hs : ∀ x ∈ sixes, 0 ≤ x ∧ x < 64) (hz : sixes.length ≤ 13) : Fn C (n + 4) (.ref T.text.a) [L1 sixes] (.str (txtOf (pad4 sixes))) := by
  refine Fn.of1 (body := bodyOf PB 17) (x := "sixes") T.st T.hText.fk rfl rfl (fun _ => rfl) (.inl rfl) rfl fun L O => ?_
  have ge : GE (callEnvC (T.text.fd 17) L T.text.a) := ⟨rfl, rfl, rfl⟩
  obtain ⟨hp4, hp3, hpl⟩ := pad4_length sixes
  have hlen : (pad4 sixes).length ≤ 16 := by (first | lia | omega)
  have hfm : (-(sixes.length : Int)).fmod 4 = (-(sixes.length : Int)) % 4 := Int.fmod_eq_emod_of_nonneg _ (by (first | lia | omega))
  refine Ex.set (d := L1 (pad4 sixes)) (.eq (.cat (a := sixes.map .int) (.name rfl) (.rep (.list (.cons .int .nil) (by simp)) (.mod (.neg (.lenI ge T.len (.name rfl) (by (first | lia | omega)))) .int (by decide)) ?_ ?_) ?_) ?_) ?_
  · rw [hfm]; (first | lia | omega)
  · rw [hfm]; (first | lia | omega)
  · rw [List.length_map, List.length_replicate, hfm]; (first | lia | omega)
  · show D.list _ = D.list ((pad4 sixes).map .int)
    unfold pad4
    rw [List.map_append, List.map_replicate]
  refine Ex.newOwn fun a haO => ?_
  have hr0 := pad4_range hs
  generalize hxs : pad4 sixes = xs at *
  obtain ⟨m, hm⟩ : ∃ m, xs.length = 4 * m := ⟨xs.length / 4, by (first | lia | omega)⟩
  have hm4 : m ≤ 4 := by (first | lia | omega)
  refine Ex.cons (N₁ := fun Ow σ => Ow = [a] ∧ SubL (txB sixes xs (octs xs) a) σ) (Ex1.forN (ds := rng 0 4 m) (fun i Ow σ => Ow = [a] ∧ SubL (txB sixes xs (octs (xs.take (4 * i))) a) σ)
    (It.range3 (a := 0) (b := ((4 * m : Nat) : Int)) (c := 4) ge T.range .int (.eq (.lenI ge T.len (.name rfl) (by (first | lia | omega))) (by rw [hm])) .int (by decide) (by decide) (step4 hm4).1 (step4 hm4).2) ?_ ?_ ?_) ?_
  · exact ⟨rfl, rfl, rfl, rfl, trivial⟩
  · rintro i hi _ σ ⟨rfl, hσ⟩
    have hi' : i < m := by rw [rng_length] at hi; exact hi
    have ei : (rng 0 4 m)[i] = .int ((4 * i : Nat) : Int) := by
      rw [rng_get]
      congr 1; push_cast; (first | lia | omega)
    rw [ei]
    refine Ex.narrow (("k", .val (.int ((4 * i : Nat) : Int))) :: txB sixes xs (octs (xs.take (4 * i))) a) ⟨rfl, hσ.skip rfl⟩ ?_
    have it : ∀ j, j < 4 → 0 ≤ xs.getD (4 * i + j) 0 ∧ xs.getD (4 * i + j) 0 < 64 ∧ (xs.map D.int)[(((4 * i + j : Nat) : Int)).toNat]? = some (.int (xs.getD (4 * i + j) 0)) := fun j hj => by
      have hlt : 4 * i + j < xs.length := by (first | lia | omega)
      have e : xs.getD (4 * i + j) 0 = xs[4 * i + j] := by rw [List.getD_eq_getElem?_getD, List.getElem?_eq_getElem hlt]; rfl
      have := hr0 _ (List.getElem_mem hlt)
      refine ⟨by rw [e]; exact this.1, by rw [e]; exact this.2, ?_⟩
      rw [Int.toNat_natCast, List.getElem?_map, List.getElem?_eq_getElem hlt, e]
      rfl
    have snoc := octs_snoc xs i hp4 (by (first | lia | omega))
    obtain ⟨a0, a1, ea⟩ := it 0 (by (first | lia | omega))
    obtain ⟨b0, b1, eb⟩ := it 1 (by (first | lia | omega))
    obtain ⟨c0, c1, ec⟩ := it 2 (by (first | lia | omega))
    obtain ⟨d0, d1, ed⟩ := it 3 (by (first | lia | omega))
    rw [Nat.add_zero] at a0 a1 ea
    generalize ha : xs.getD (4 * i) 0 = x0 at *
    generalize hb : xs.getD (4 * i + 1) 0 = x1 at *
    generalize hc : xs.getD (4 * i + 2) 0 = x2 at *
    generalize hd : xs.getD (4 * i + 3) 0 = x3 at *
    refine Ex.set (d := .int (x0 * 262144 + x1 * 4096 + x2 * 64 + x3)) (.add (.add (.add (.mul (.itemN (.name rfl) (.name rfl) (by (first | lia | omega)) (by (first | lia | omega)) ea) .int (mul_ok a0 (by (first | lia | omega)))) (.mul (.itemB (.name rfl) (.eq (.add (.name rfl) .int) (by congr 1)) (by (first | lia | omega)) (by (first | lia | omega)) eb) .int (mul_ok b0 (by (first | lia | omega))))) (.mul (.itemB (.name rfl) (.eq (.add (.name rfl) .int) (by congr 1)) (by (first | lia | omega)) (by (first | lia | omega)) ec) .int (mul_ok c0 (by (first | lia | omega))))) (.itemB (.name rfl) (.eq (.add (.name rfl) .int) (by congr 1)) (by (first | lia | omega)) (by (first | lia | omega)) ed)) ?_
    generalize hw : x0 * 262144 + x1 * 4096 + x2 * 64 + x3 = w
    refine Ex.one (.extend (es := [D.int (w / 65536), .int (w / 256 % 256), .int (w % 256)]) rfl (.list (.cons (.floor (.name rfl) .int (by decide) (by decide)) (.cons (.modP (.floor (.name rfl) .int (by decide) (by decide)) .int (by decide)) (.cons (.modP (.name rfl) .int (by decide)) .nil))) (by simp)) ⟨rfl, rfl⟩ ?_) (.nil ⟨rfl, rfl, ?_, rfl, trivial⟩)
    · rw [List.length_map, octs_length]
      have := List.length_take_le (4 * i) xs
      simp only [List.length_cons, List.length_nil]
      (first | lia | omega)
    · show some (Ent.own a ((octs (xs.take (4 * i))).map D.int ++ [D.int (w / 65536), .int (w / 256 % 256), .int (w % 256)])) = _
      rw [snoc, List.map_append, show w / 65536 = x0 * 4 + x1 / 16 from by (first | lia | omega), show w / 256 % 256 = x1 % 16 * 16 + x2 / 4 from by (first | lia | omega), show w % 256 = x2 % 4 * 64 + x3 from by (first | lia | omega)]
      rfl
  · rintro _ σ ⟨rfl, hσ⟩
    rw [rng_length, List.take_of_length_le (by (first | lia | omega))] at hσ
    exact ⟨rfl, hσ⟩
  rintro _ σ ⟨rfl, hσ⟩
  refine Ex.narrow _ hσ ?_
  refine Ex.freeze (x := "octets") rfl haO ?_
  refine Ex.ret (d := .str (txtOf xs)) (.eq (.join (ts := xs.map fun x => (⟨#[sgn x]⟩ : Str)) .strc (.eq (Ev.compI (ns := xs.map fun x => (sgn x : Int)) [] (fun _ => true) (fun i => .str ⟨#[i.toNat]⟩)
    (It.eq (.bytes (.callF ge T.hB64.gv T.hB64.fk.obj (.cons (.callT ge T.bytes (.cons (.name rfl) .nil) (.bytes (octs_range _ hr0) ?_)) (.cons .bytesc .nil)) (b64_spec T hr0 hp4 ?_))) ?_) (.by trivial) (fun _ _ _ _ => .nil) (fun cenv ce i hi _ => .callB (ce.ge ge rfl) T.chr (.cons (.name rfl) .nil) (.chr ?_ ?_) (ce.kind rfl (by decide))) ?_) ?_) ?_) ?_) rfl
  · rw [octs_length]; (first | lia | omega)
  · (first | lia | omega)
  · rw [bInts_byteArr]
    intro x hx
    obtain ⟨y, _, rfl⟩ := List.mem_map.mp hx
    have := sgn_lt y
    (first | lia | omega)
  · obtain ⟨y, _, rfl⟩ := List.mem_map.mp hi
    (first | lia | omega)
  · obtain ⟨y, _, rfl⟩ := List.mem_map.mp hi
    have := sgn_lt y
    (first | lia | omega)
  · rw [List.length_map]; (first | lia | omega)
  · rw [filter_true, List.map_map, List.map_map]
    rfl
  · have := joinOk_signs (xs.map sgn) (by rw [List.length_map]; (first | lia | omega))
    rw [List.map_map] at this
    exact this
  · have := join_signs (xs.map sgn)
    rw [List.map_map] at this
    rw [show (List.map (fun x => (⟨#[sgn x]⟩ : Str)) xs) = List.map ((fun c => (⟨#[c]⟩ : Str)) ∘ sgn) xs from rfl, this]
    rfl
end
end Mine
end

section
set_option maxRecDepth 100000
set_option maxHeartbeats 0
set_option linter.unusedVariables false
set_option tactic.hygienic false
namespace Mine
open PySem PySem.Calls PyProof.Rows PySem.W PySem.SeqAt
noncomputable def ends (low high : Nat) : List Int := (List.range (high - low - 1)).map fun i => ((low + 2 : Nat) : Int) + (i : Nat) * 1
noncomputable def closedB (x : Str) (low high : Nat) : Bool := !((ends low high).filter fun e => parB 0 (cut x low e.toNat).cps.toList).isEmpty
noncomputable def aheadI (x : Str) (i j : Nat) : Int := if i = j then 0 else if i < j then (if closedB x i j then -1 else 1) else (if closedB x j i then 1 else -1)
theorem mem_ends {low high : Nat} {e : Int} (h : e ∈ ends low high) : ∃ k : Nat, e = k ∧ low + 2 ≤ k ∧ k ≤ high := by
  unfold ends at h
  obtain ⟨i, hi, rfl⟩ := List.mem_map.mp h
  have := List.mem_range.mp hi
  exact ⟨low + 2 + i, by push_cast; (first | lia | omega), by (first | lia | omega), by (first | lia | omega)⟩
theorem cut_mem {x : Str} {a b c : Nat} (h : c ∈ (cut x a b).cps.toList) : c ∈ x.cps.toList := by
  unfold cut at h
  exact List.mem_of_mem_drop (List.mem_of_mem_take h)
section
variable {C : Cx} {n : Nat}
theorem closed_spec (T : Top C) {x : Str} {low high : Nat} (hx : ∀ c ∈ x.cps.toList, c ≠ 34 ∧ c ≠ 92) (hl : low < high) (hh : high ≤ x.length) (hz : x.length ≤ 100) : Fn C (n + 3) (.ref T.closed.a) [.str x, .int low, .int high] (.bool (closedB x low high)) := by
  refine Fn.of3 (body := bodyOf PB 18) (x := "text") (y := "low") (z := "high") T.st T.hClosed.fk rfl rfl (fun _ _ _ => rfl) (.inr ⟨rfl, fun L => rfl⟩) (.inr ⟨rfl, fun L => rfl⟩) (.inl rfl) (by decide) (by decide) (by decide) rfl fun L O => ?_
  have ge : GE (callEnvC (T.closed.fd 18) L T.closed.a) := ⟨rfl, rfl, rfl⟩
  refine Ex.ret (d := .bool (closedB x low high)) (.eq (.cmp (Ev.compI (ns := ends low high) [("low", .val (.int low)), ("text", .val (.str x))] (fun e => parB 0 (cut x low e.toNat).cps.toList) .int (It.eq (It.range2 (a := ((low + 2 : Nat) : Int)) (b := ((high + 1 : Nat) : Int)) ge T.range (.eq (.add (.name rfl) .int) (by push_cast; rfl)) (.eq (.add (.name rfl) .int) (by push_cast; rfl)) (by (first | lia | omega)) (by (first | lia | omega)) (by (first | lia | omega)) (by (first | lia | omega))) ?_) (.by ⟨⟨rfl, rfl, rfl⟩, ⟨rfl, rfl, rfl⟩, trivial⟩) (fun cenv ce e he => ?_) (fun cenv ce e he _ => .name rfl) ?_) (.list .nil (by simp)) .neNil) ?_) rfl
  · unfold ends rng
    rw [List.map_map]
    have e : (((high + 1 : Nat) : Int) - ((low + 2 : Nat) : Int)).toNat = high - low - 1 := by (first | lia | omega)
    rw [e]
    rfl
  · obtain ⟨k, rfl, h1, h2⟩ := mem_ends he
    exact .one (.plain (.callF (ce.ge ge rfl) T.hCheck.gv T.hCheck.fk.obj (.cons (.strCut (a := low) (b := k) (.name rfl) (.name rfl) (.name rfl) (by (first | lia | omega)) (by (first | lia | omega)) (by (first | lia | omega))) .nil) (check_spec T (fun h => (hx _ (cut_mem h)).1 rfl) fun c hc => (hx c (cut_mem hc)).2) (ce.kind rfl (by decide))))
  · unfold ends
    rw [List.length_map, List.length_range]
    (first | lia | omega)
  · unfold closedB
    rw [List.isEmpty_map]
theorem ahead_spec (T : Top C) {x : Str} {i j : Nat} (hx : ∀ c ∈ x.cps.toList, c ≠ 34 ∧ c ≠ 92) (hi : i ≤ x.length) (hj : j ≤ x.length) (hz : x.length ≤ 100) : Fn C (n + 4) (.ref T.ahead.a) [.str x, .int i, .int j] (.int (aheadI x i j)) := by
  refine Fn.of3 (body := bodyOf PB 19) (x := "text") (y := "one") (z := "two") T.st T.hAhead.fk rfl rfl (fun _ _ _ => rfl) (.inl rfl) (.inl rfl) (.inl rfl) (by decide) (by decide) (by decide) rfl fun L O => ?_
  have ge : GE (callEnvC (T.ahead.fd 19) L T.ahead.a) := ⟨rfl, rfl, rfl⟩
  refine Ex.ifRet (b := decide (i = j)) (.eq (.cmp (.name rfl) (.name rfl) .eqInt) ?_) (fun h => .ret .int ?_) fun h => ?_
  · rw [Bool.eq_iff_iff]; simp; (first | lia | omega)
  · have h := of_decide_eq_true h
    unfold aheadI; rw [if_pos h]
  have hne := of_decide_eq_false h
  refine Ex.ifRet (b := decide (i < j)) (.eq (.cmp (.name rfl) (.name rfl) .ltInt) ?_) (fun h => .ret (d := .int (if closedB x i j then -1 else 1)) (.ifExp (b := closedB x i j) (.plain (.callF ge T.hClosed.gv T.hClosed.fk.obj (.cons (.name rfl) (.cons (.name rfl) (.cons (.name rfl) .nil))) (closed_spec T hx (of_decide_eq_true h) hj hz))) (fun e => .eq (.neg .int) (by rw [e]; rfl)) fun e => .eq .int (by rw [e]; rfl)) ?_) fun h => ?_
  · simp
  · have h := of_decide_eq_true h
    unfold aheadI; rw [if_neg hne, if_pos h]
  have hlt := of_decide_eq_false h
  refine Ex.ret (d := .int (if closedB x j i then 1 else -1)) (.ifExp (b := closedB x j i) (.plain (.callF ge T.hClosed.gv T.hClosed.fk.obj (.cons (.name rfl) (.cons (.name rfl) (.cons (.name rfl) .nil))) (closed_spec T hx (by (first | lia | omega)) hi hz))) (fun e => .eq .int (by rw [e]; rfl)) fun e => .eq (.neg .int) (by rw [e]; rfl)) ?_
  unfold aheadI; rw [if_neg hne, if_neg hlt]
end
end Mine
end

section
set_option genInjectivity false
set_option genSizeOf false
set_option genSizeOfSpec false
set_option maxRecDepth 100000
set_option maxHeartbeats 0
set_option linter.unusedVariables false
set_option tactic.hygienic false
namespace Mine
open PySem PySem.Calls PyProof.Rows PySem.W PySem.SeqAt
structure Pile where
  heap : List Int
  gone : List Int
  vain : Int
  place : Int
noncomputable def pileD (s : Pile) : D := .tup [L1 s.heap, L1 s.gone, .int s.vain, .int s.place]
noncomputable def deedS (s : Pile) (six : Int) : Pile :=
  if six = 62 then ⟨s.heap ++ [s.place], s.gone, s.vain, s.place + 1⟩
  else if six = 63 then (if s.heap = [] then ⟨s.heap, s.gone, s.vain + 1, s.place + 1⟩ else ⟨s.heap.dropLast, s.gone ++ [s.heap.getLastD 0], s.vain, s.place + 1⟩)
  else ⟨s.heap, s.gone, s.vain, s.place + 1⟩
noncomputable def pileOf (sixes : List Int) : Pile := sixes.foldl deedS ⟨[], [], 0, 0⟩
theorem deed_len (s : Pile) (six : Int) : (deedS s six).heap.length ≤ s.heap.length + 1 ∧ (deedS s six).gone.length ≤ s.gone.length + 1 := by
  unfold deedS
  split
  · simp
  · split
    · split
      · simp
      · simp only [List.length_dropLast, List.length_append, List.length_cons, List.length_nil]; (first | lia | omega)
    · simp
theorem pile_len (l : List Int) : ∀ s : Pile, (l.foldl deedS s).heap.length ≤ s.heap.length + l.length ∧ (l.foldl deedS s).gone.length ≤ s.gone.length + l.length := by
  induction l with
  | nil => intro s; simp
  | cons x r ih =>
    intro s
    have h1 := ih (deedS s x)
    have h2 := deed_len s x
    rw [List.foldl_cons, List.length_cons]
    (first | lia | omega)
section
variable {C : Cx} {n : Nat}
theorem deed_spec (T : Top C) {s : Pile} {six : Int} (h1 : s.heap.length ≤ 100) (h2 : s.gone.length ≤ 100) : Fn C (n + 1) (.ref T.deed.a) [pileD s, .int six] (pileD (deedS s six)) := by
  refine Fn.of2 (body := bodyOf PB 21) (x := "state") (y := "six") T.st T.hDeed.fk rfl rfl (fun _ _ => rfl) (.inl rfl) (.inl rfl) (by decide) rfl fun L O => ?_
  have ge : GE (callEnvC (T.deed.fd 21) L T.deed.a) := ⟨rfl, rfl, rfl⟩
  refine Ex.one (.assignT (new := [("place", .val (.int s.place)), ("vain", .val (.int s.vain)), ("gone", .val (L1 s.gone)), ("heap", .val (L1 s.heap))]) (.name rfl) (.tup (.cons rfl (.cons rfl (.cons rfl (.cons rfl .nil))))) ⟨rfl, rfl⟩) ?_
  refine Ex.ifRet (b := decide (six = 62)) (.eq (.cmp (.name rfl) .int .eqInt) rfl) (fun h => .ret (d := pileD ⟨s.heap ++ [s.place], s.gone, s.vain, s.place + 1⟩) (.tup (.cons (.eq (.cat (.name rfl) (.list (.cons (.name rfl) .nil) (by simp)) (by simp only [List.length_map, List.length_cons, List.length_nil]; (first | lia | omega))) ?_) (.cons (.name rfl) (.cons (.name rfl) (.cons (.add (.name rfl) .int) .nil)))) (by simp)) ?_) fun h => ?_
  · rw [L1, List.map_append]; rfl
  · unfold deedS; rw [if_pos (of_decide_eq_true h)]
  have hn := of_decide_eq_false h
  refine Ex.ifRet (b := decide (six = 63) && (s.heap.isEmpty && true)) (.boolOp (.and (.eq (.cmp (.name rfl) .int .eqInt) rfl) fun _ => .and (.eq (.cmp (.name rfl) (.list .nil (by simp)) .eqNil) (by rw [List.isEmpty_map])) fun _ => .nil)) (fun h => .ret (d := pileD ⟨s.heap, s.gone, s.vain + 1, s.place + 1⟩) (.tup (.cons (.name rfl) (.cons (.name rfl) (.cons (.add (.name rfl) .int) (.cons (.add (.name rfl) .int) .nil)))) (by simp)) ?_) fun h => ?_
  · rw [Bool.and_true, Bool.and_eq_true, decide_eq_true_eq, List.isEmpty_iff] at h
    unfold deedS; rw [if_neg hn, if_pos h.1, if_pos h.2]
  rw [Bool.and_true] at h
  refine Ex.ifRet (b := decide (six = 63)) (.eq (.cmp (.name rfl) .int .eqInt) rfl) (fun h' => .ret (d := pileD ⟨s.heap.dropLast, s.gone ++ [s.heap.getLastD 0], s.vain, s.place + 1⟩) (.tup (.cons (.eq (.cutLast (.name rfl) (.neg .int) (by rw [List.length_map]; (first | lia | omega))) ?_) (.cons (.eq (.cat (.name rfl) (.list (.cons (.itemLast (d := .int (s.heap.getLastD 0)) (.name rfl) (.neg .int) ?_ (by rw [List.length_map]; (first | lia | omega))) .nil) (by simp)) (by simp only [List.length_map, List.length_cons, List.length_nil]; (first | lia | omega))) ?_) (.cons (.name rfl) (.cons (.add (.name rfl) .int) .nil)))) (by simp)) ?_) fun h' => ?_
  · rw [L1, List.map_dropLast]
  · have hne : s.heap ≠ [] := fun q => by
      rw [h', q] at h
      cases h
    rw [List.getLast?_map, List.getLast?_eq_some_getLast hne, List.getLastD_eq_getLast?, List.getLast?_eq_some_getLast hne]
    rfl
  · rw [L1, List.map_append]; rfl
  · have hne : s.heap ≠ [] := fun q => by
      rw [h', q] at h
      cases h
    unfold deedS; rw [if_neg hn, if_pos (of_decide_eq_true h'), if_neg hne]
  refine Ex.ret (d := pileD ⟨s.heap, s.gone, s.vain, s.place + 1⟩) (.tup (.cons (.name rfl) (.cons (.name rfl) (.cons (.name rfl) (.cons (.add (.name rfl) .int) .nil)))) (by simp)) ?_
  unfold deedS; rw [if_neg hn, if_neg (of_decide_eq_false h')]
end
end Mine
end

section
set_option maxRecDepth 100000
set_option maxHeartbeats 0
set_option linter.unusedVariables false
set_option tactic.hygienic false
namespace Mine
open PySem PySem.Calls PyProof.Rows PySem.W PySem.SeqAt
noncomputable def rightB (sixes found : List Int) : Bool :=
  if (parB 0 (txtOf (pad4 sixes)).cps.toList != ((pileOf sixes).heap.isEmpty && ((pileOf sixes).vain == 0))) = true then false else found == (pileOf sixes).gone ++ (pileOf sixes).heap.reverse
noncomputable def MissOk {C : Cx} (T : Top C) : Prop := ∃ o, C.K.lookup T.miss = some o ∧ o.cls ≠ .type "list" ∧ o.cls ≠ .type "tuple"
theorem txt_mem {xs : List Int} (h : ∀ x ∈ xs, 0 ≤ x ∧ x < 64) {c : Nat} (hc : c ∈ (txtOf xs).cps.toList) : c ≠ 34 ∧ c ≠ 92 := by
  unfold txtOf at hc
  obtain ⟨x, hx, rfl⟩ := List.mem_map.mp (by simpa using hc)
  have := sgn_all (h x hx).1 (h x hx).2
  exact ⟨this.1, this.2.1⟩
section
variable {C : Cx} {n : Nat}
theorem Ev.callReduce {env : Env} {σ : Sto} (T : Top C) (hm : MissOk T) {fn : Str} {f : Addr} {p p1 pos : Pos} {e₂ e₃ : Expr} {ds : List D} {stt : Nat → D} (ge : GE env) (gv : GV C fn (.ref f)) (fo : FnObj C f) (h0 : (∃ l, stt 0 = .list l) ∨ ∃ l, stt 0 = .tup l) (hz : ds.length ≤ 1000000)
    (hfn : ∀ i (hi : i < ds.length), Fn C n (.ref f) [stt i, ds[i]] (stt (i + 1))) (h₂ : Ev C (n + 1) env σ e₂ (.list ds)) (h₃ : Ev C (n + 1) env σ e₃ (stt 0))
    (hx : env.kindOf "reduce" = some .globalImplicit := by rfl) (hxf : env.kindOf fn = some .globalImplicit := by rfl) (he : starEach [.Name fn p1, e₂, e₃] env = [(false, eval (.Name fn p1) env), (false, eval e₂ env), (false, eval e₃ env)] := by rfl) (hd : (fn == ("__debug__" : Str)) = false := by decide) :
    Ev C (n + 1) env σ (.Call (.Name "reduce" p) [.Name fn p1, e₂, e₃] [] pos) (stt ds.length) := fun A O Ow s Q g q => by
  refine Call_Name rfl (Mine.glob ge hx T.hRed.gv g.w ?_)
  obtain ⟨oc, hoc, hdc⟩ := T.hRed.fk.ob
  rw [he]
  refine callWith_function (o := oc) (fd := T.red.fd 15 (.ref T.dRed)) (evalArgs_plain (spliced_cons (Mine.glob ge hxf gv g.w ?_ hd)))
  refine spliced_cons (h₂ A O Ow s _ g fun v₂ s₂ k₂ i₂ => ?_)
  refine spliced_cons (h₃ A O Ow s₂ _ (g.sk k₂) fun v₃ s₃ k₃ i₃ => ?_)
  have g₃ := (g.sk k₂).sk k₃
  refine spliced_nil ⟨⟨g₃.w.k _ _ hoc, hdc⟩, ?_⟩
  exact reduceG T hm fo h0 hz (fun i hi A s vs Q => hfn i hi A O s vs Q) g₃.a g₃.w g₃.r.ex (i₂.kp k₃.kp (g.sk k₂).w.tb) i₃ fun u s' k i => q u s' ((k₂.trans k₃).trans k) i
theorem right_spec (T : Top C) (hm : MissOk T) {sixes found : List Int} (hs : ∀ x ∈ sixes, 0 ≤ x ∧ x < 64) (hz : sixes.length ≤ 13) (hf : found.length ≤ 100) : Fn C (n + 6) (.ref T.right.a) [L1 sixes, L1 found] (.bool (rightB sixes found)) := by
  refine Fn.of2 (body := bodyOf PB 22) (x := "sixes") (y := "found") T.st T.hRight.fk rfl rfl (fun _ _ => rfl) (.inl rfl) (.inl rfl) (by decide) rfl fun L O => ?_
  have ge : GE (callEnvC (T.right.fd 22) L T.right.a) := ⟨rfl, rfl, rfl⟩
  have pl := pile_len sixes ⟨[], [], 0, 0⟩
  have pl' : ∀ i, (pileOf (sixes.take i)).heap.length ≤ 100 ∧ (pileOf (sixes.take i)).gone.length ≤ 100 := fun i => by
    have := pile_len (sixes.take i) ⟨[], [], 0, 0⟩
    rw [List.length_take] at this
    simp only [List.length_nil] at this
    unfold pileOf
    (first | lia | omega)
  refine Ex.one (.assignT (d := pileD (pileOf sixes)) (new := [("place", .val (.int (pileOf sixes).place)), ("vain", .val (.int (pileOf sixes).vain)), ("gone", .val (L1 (pileOf sixes).gone)), ("heap", .val (L1 (pileOf sixes).heap))]) (.eq (Ev.callReduce (n := n + 4) T hm (ds := sixes.map .int) (stt := fun i => pileD (pileOf (sixes.take i))) ge T.hDeed.gv T.hDeed.fk.obj (.inr ⟨_, rfl⟩) (by rw [List.length_map]; (first | lia | omega)) (fun i hi => ?_) (.name rfl) (.eq (b := .tup [.list [], .list [], .int 0, .int 0]) (.tup (.cons (.list .nil (by simp)) (.cons (.list .nil (by simp)) (.cons .int (.cons .int .nil)))) (by simp)) rfl)) ?_) (.tup (.cons rfl (.cons rfl (.cons rfl (.cons rfl .nil))))) ⟨rfl, rfl⟩) ?_
  · have hi' : i < sixes.length := by rw [List.length_map] at hi; exact hi
    have := deed_spec (n := n + 3) T (s := pileOf (sixes.take i)) (six := sixes[i]) (pl' i).1 (pl' i).2
    rw [List.getElem_map]
    have e : pileOf (sixes.take (i + 1)) = deedS (pileOf (sixes.take i)) sixes[i] := by
      unfold pileOf
      rw [List.take_add_one, List.getElem?_eq_getElem hi', List.foldl_append]
      rfl
    show Fn C (n + 4) _ _ (pileD (pileOf (sixes.take (i + 1))))
    rw [e]
    exact this
  · rw [List.length_map, List.take_length]
  have p4 := pad4_range hs
  refine Ex.ifRet (b := parB 0 (txtOf (pad4 sixes)).cps.toList != ((pileOf sixes).heap.isEmpty && ((pileOf sixes).vain == 0))) (.cmp (.callF ge T.hCheck.gv T.hCheck.fk.obj (.cons (.callF ge T.hText.gv T.hText.fk.obj (.cons (.name rfl) .nil) ((text_spec (n := n + 1) T hs hz).mono (by (first | lia | omega)))) .nil) ((check_spec (n := n + 3) T (fun h => (txt_mem p4 h).1 rfl) fun c hc => (txt_mem p4 hc).2).mono (by (first | lia | omega)))) (.and2 (.eq (.cmp (.name rfl) (.list .nil (by simp)) .eqNil) (by rw [List.isEmpty_map])) fun _ => .cmp (.name rfl) .int .eqInt) .neBool) (fun h => .ret .boolc ?_) fun h => ?_
  · unfold rightB; rw [if_pos h]
  refine Ex.ret (d := .bool (found == (pileOf sixes).gone ++ (pileOf sixes).heap.reverse)) (.cmp (.name rfl) (.eq (.cat (.name rfl) (.rev (.name rfl) (.neg .int) ?_) ?_) ?_) .eqL1) ?_
  · have := (pl' sixes.length).1
    rw [List.take_length] at this
    rw [List.length_map]; (first | lia | omega)
  · have := pl' sixes.length
    rw [List.take_length] at this
    rw [List.length_map, List.length_reverse, List.length_map]; (first | lia | omega)
  · rw [L1, List.map_append, List.map_reverse]
  · unfold rightB; rw [if_neg (by rw [h]; decide)]
end
end Mine
end

section
set_option genInjectivity false
set_option genSizeOf false
set_option genSizeOfSpec false
set_option maxRecDepth 100000
set_option maxHeartbeats 0
set_option linter.unusedVariables false
set_option tactic.hygienic false
namespace Mine
open PySem PySem.Calls PyProof.Rows PySem.W PySem.SeqAt
noncomputable def needAt (order : List Int) (k : Nat) : Int := 1 + maxL (order.take (k + 1))
noncomputable def rowAt (order : List Int) : Nat → List Int × Int
  | 0 => ([], 0)
  | k + 1 => ((rowAt order k).1 ++ List.replicate (needAt order k - (rowAt order k).2).toNat 62 ++ [63], needAt order k)
noncomputable def rowOf (order : List Int) : List Int := (rowAt order order.length).1
structure RowOk (order : List Int) : Prop where
  len : order.length ≤ 100
  at' : ∀ k, k ≤ order.length → (rowAt order k).1.length ≤ 1000 ∧ -100 ≤ (rowAt order k).2 ∧ (rowAt order k).2 ≤ 100
noncomputable def rowS (order : List Int) (i : Nat) : Sto := [("laid", .val (.int (rowAt order i).2)), ("row", .val (L1 (rowAt order i).1)), ("order", .val (L1 order))]
section
variable {C : Cx} {n : Nat}
theorem row_spec (T : Top C) {order : List Int} (ok : RowOk order) : Fn C (n + 1) (.ref T.row.a) [L1 order] (L1 (rowOf order)) := by
  refine Fn.of1 (body := bodyOf PB 23) (x := "order") T.st T.hRow.fk rfl rfl (fun _ => rfl) (.inl rfl) rfl fun L O => ?_
  have ge : GE (callEnvC (T.row.fd 23) L T.row.a) := ⟨rfl, rfl, rfl⟩
  have hl := ok.len
  refine Ex.set (d := L1 []) (.list .nil (by simp)) (Ex.set (d := .int 0) .int ?_)
  refine Ex.cons (N₁ := fun Ow σ => Ow = [] ∧ σ = rowS order order.length) (Ex1.forN (ds := (nums order.length).map .int) (fun i Ow σ => Ow = [] ∧ σ = rowS order i)
    (It.nums ge T.range (.lenI ge T.len (.name rfl) (by (first | lia | omega))) (by (first | lia | omega))) ⟨rfl, rfl⟩ ?_ ?_) ?_
  · rintro i hi _ _ ⟨rfl, rfl⟩
    have hi' : i < order.length := by rw [List.length_map, nums_length] at hi; exact hi
    have ei : ((nums order.length).map D.int)[i] = .int i := by simp [nums]
    rw [ei]
    have o1 := ok.at' i (by (first | lia | omega))
    have o2 := ok.at' (i + 1) (by (first | lia | omega))
    have e2 : (rowAt order (i + 1)).2 = needAt order i := rfl
    rw [e2] at o2
    refine Ex.set (d := .int (needAt order i)) (.eq (.add .int (.callB (ds := [L1 (order.take (i + 1))]) ge T.max (.cons (.eq (.upto (k := i + 1) (.name rfl) (.eq (.add (.name rfl) .int) (by push_cast; rfl)) (by rw [List.length_map]; (first | lia | omega))) ?_) .nil) (.maxI ?_))) rfl) ?_
    · rw [L1, List.map_take]
    · rw [List.length_take]; (first | lia | omega)
    refine Ex.set (d := L1 ((rowAt order i).1 ++ List.replicate (needAt order i - (rowAt order i).2).toNat 62 ++ [63])) (.eq (.cat (.cat (.name rfl) (.rep (k := needAt order i - (rowAt order i).2) (.list (.cons .int .nil) (by simp)) (.sub (.name rfl) (.name rfl)) (by (first | lia | omega)) (by (first | lia | omega))) ?_) (.list (.cons .int .nil) (by simp)) ?_) ?_) ?_
    · rw [List.length_map, List.length_replicate]; (first | lia | omega)
    · rw [List.length_append, List.length_map, List.length_replicate]; simp only [List.length_cons, List.length_nil]; (first | lia | omega)
    · rw [L1, List.map_append, List.map_append, List.map_replicate]; rfl
    refine Ex.set (.name rfl) (Ex.nilW (rowS order (i + 1)) ⟨rfl, rfl⟩ ⟨rfl, rfl, rfl, trivial⟩)
  · rintro _ _ ⟨rfl, rfl⟩
    rw [List.length_map, nums_length]
    exact ⟨rfl, rfl⟩
  · rintro _ _ ⟨rfl, rfl⟩
    exact Ex.ret (.name rfl) rfl
end
end Mine
end

section
set_option maxRecDepth 100000
set_option linter.unusedVariables false
set_option tactic.hygienic false
namespace Mine
open PySem
/-! the pile, and what closes -/
noncomputable def bal : Int → List Int → Bool
  | h, [] => h == 0
  | h, x :: r => if x = 62 then bal (h + 1) r else if x = 63 then (if h - 1 < 0 then false else bal (h - 1) r) else bal h r
theorem par_bal2 : ∀ {l : List Int} {h : Int}, (∀ x ∈ l, 0 ≤ x ∧ x < 64) → parB h (l.map sgn) = bal h l
  | [], h, _ => rfl
  | x :: r, h, hx => by
    have h1 := hx x List.mem_cons_self
    have ih := fun h => par_bal2 (l := r) (h := h) fun y hy => hx y (List.mem_cons_of_mem _ hy)
    rw [List.map_cons, parB, bal]
    by_cases e : x = 62
    · subst e
      rw [sgn62, if_pos rfl, if_pos rfl]
      exact ih _
    · by_cases e2 : x = 63
      · subst e2
        rw [sgn63, if_neg (show ¬ (41 : Nat) = 40 by decide), if_pos rfl, if_neg (show ¬ (63 : Int) = 62 by decide), if_pos rfl]
        split
        · rfl
        · exact ih _
      · have q := (sgn_all h1.1 h1.2).2.2 (by (first | lia | omega))
        rw [if_neg e, if_neg e2, if_neg q.1, if_neg q.2]
        exact ih _
theorem bal_zeros {m : Nat} : ∀ {h : Int}, bal h (List.replicate m 0) = (h == 0) := by
  induction m with
  | zero => intro h; rfl
  | succ m ih => intro h; rw [List.replicate_succ, bal, if_neg (by decide), if_neg (by decide)]; exact ih
theorem bal_pad {m : Nat} {l : List Int} : ∀ {h : Int}, bal h (l ++ List.replicate m 0) = bal h l := by
  induction l with
  | nil => intro h; exact bal_zeros
  | cons x r ih =>
    intro h
    rw [List.cons_append, bal, bal]
    split
    · exact ih
    · split
      · split
        · rfl
        · exact ih
      · exact ih
/-- what comes off, in order: the pile's top ahead -/
noncomputable def out : List Int → Int → List Int → List Int
  | st, _, [] => st
  | st, p, x :: r => if x = 62 then out (p :: st) (p + 1) r else if x = 63 then (match st with | [] => out [] (p + 1) r | t :: st' => t :: out st' (p + 1) r) else out st (p + 1) r
theorem out62 (st : List Int) (p : Int) (r : List Int) : out st p (62 :: r) = out (p :: st) (p + 1) r := by simp [out]
theorem out63n (p : Int) (r : List Int) : out [] p (63 :: r) = out [] (p + 1) r := by simp [out]
theorem out63c (t : Int) (st : List Int) (p : Int) (r : List Int) : out (t :: st) p (63 :: r) = t :: out st (p + 1) r := by simp [out]
theorem outO {x : Int} (h : x ≠ 62) (h' : x ≠ 63) (st : List Int) (p : Int) (r : List Int) : out st p (x :: r) = out st (p + 1) r := by cases st <;> simp [out, h, h']
theorem six3 (x : Int) : x = 62 ∨ x = 63 ∨ (x ≠ 62 ∧ x ≠ 63) := by (first | lia | omega)
/-- the pile ends so -/
theorem final_out (r : List Int) : ∀ (s : Pile) (st : List Int), s.heap = st.reverse → (r.foldl deedS s).gone ++ (r.foldl deedS s).heap.reverse = s.gone ++ out st s.place r := by
  induction r with
  | nil => intro s st h; show s.gone ++ s.heap.reverse = s.gone ++ st; rw [h, List.reverse_reverse]
  | cons x r ih =>
    intro s st h
    rw [List.foldl_cons]
    rcases six3 x with rfl | rfl | ⟨n1, n2⟩
    · rw [out62, ih (deedS s 62) (s.place :: st) (by unfold deedS; rw [if_pos rfl, h, List.reverse_cons])]
      unfold deedS; rw [if_pos rfl]
    · cases st with
      | nil =>
        have hh : s.heap = [] := h
        have e : deedS s 63 = ⟨s.heap, s.gone, s.vain + 1, s.place + 1⟩ := by unfold deedS; rw [if_neg (by decide), if_pos rfl, if_pos hh]
        rw [out63n, e, ih ⟨s.heap, s.gone, s.vain + 1, s.place + 1⟩ [] h]
      | cons t st =>
        have hne : s.heap ≠ [] := by rw [h]; simp
        have e : deedS s 63 = ⟨s.heap.dropLast, s.gone ++ [s.heap.getLastD 0], s.vain, s.place + 1⟩ := by unfold deedS; rw [if_neg (by decide), if_pos rfl, if_neg hne]
        have h1 : s.heap.dropLast = st.reverse := by rw [h]; simp
        have h2 : s.heap.getLastD 0 = t := by rw [h, List.reverse_cons]; simp
        rw [out63c, e, h2, ih ⟨s.heap.dropLast, s.gone ++ [t], s.vain, s.place + 1⟩ st h1]
        simp
    · have e : deedS s x = ⟨s.heap, s.gone, s.vain, s.place + 1⟩ := by unfold deedS; rw [if_neg n1, if_neg n2]
      rw [outO n1 n2, e, ih ⟨s.heap, s.gone, s.vain, s.place + 1⟩ st h]
theorem out_sub (r : List Int) : ∀ (st : List Int) (p : Int), st.Sublist (out st p r) := by
  induction r with
  | nil => intro st p; exact .refl _
  | cons x r ih =>
    intro st p
    rcases six3 x with rfl | rfl | ⟨n1, n2⟩
    · rw [out62]; exact ((List.Sublist.refl st).cons _).trans (ih (p :: st) (p + 1))
    · cases st with
      | nil => exact List.nil_sublist _
      | cons t st => rw [out63c]; exact (ih st (p + 1)).cons_cons t
    · rw [outO n1 n2]; exact ih st (p + 1)
theorem out_mem (r : List Int) : ∀ (st : List Int) (p : Int) (m : Nat), r[m]? = some 62 → p + m ∈ out st p r := by
  induction r with
  | nil => intro st p m h; cases h
  | cons x r ih =>
    intro st p m h
    cases m with
    | zero =>
      obtain rfl : x = 62 := Option.some.inj h
      rw [out62]
      have := (out_sub r (p :: st) (p + 1)).subset List.mem_cons_self
      simpa using this
    | succ m =>
      have h' : r[m]? = some 62 := h
      have e : p + ((m + 1 : Nat) : Int) = p + 1 + (m : Nat) := by push_cast; (first | lia | omega)
      rw [e]
      rcases six3 x with rfl | rfl | ⟨n1, n2⟩
      · rw [out62]; exact ih _ _ m h'
      · cases st with
        | nil => rw [out63n]; exact ih _ _ m h'
        | cons t st => rw [out63c]; exact List.mem_cons_of_mem _ (ih _ _ m h')
      · rw [outO n1 n2]; exact ih _ _ m h'
/-- of two brackets the one that is closed ahead of the other comes off first -/
theorem out_ahead (i : Int) (st : List Int) (r : List Int) : ∀ (top : List Int) (p : Int) (m : Nat), r[m]? = some 62 →
    ((∃ e, e ≤ m ∧ bal ((top.length : Int) + 1) (r.take e) = true) → [i, p + m].Sublist (out (top ++ i :: st) p r)) ∧
    ((¬ ∃ e, e ≤ m ∧ bal ((top.length : Int) + 1) (r.take e) = true) → [p + m, i].Sublist (out (top ++ i :: st) p r)) := by
  induction r with
  | nil => intro top p m h; cases h
  | cons x r ih =>
    intro top p m h
    have b0 : ∀ (l : List Int) (k : Nat), bal ((k : Int) + 1) (l.take 0) = false := fun l k => by
      rw [List.take_zero, bal]
      simp; (first | lia | omega)
    cases m with
    | zero =>
      obtain rfl : x = 62 := Option.some.inj h
      constructor
      · rintro ⟨e, he, hb⟩
        obtain rfl : e = 0 := by (first | lia | omega)
        rw [b0] at hb; cases hb
      · intro _
        rw [out62]
        refine List.Sublist.trans ?_ (out_sub r (p :: (top ++ i :: st)) (p + 1))
        have : p + ((0 : Nat) : Int) = p := by simp
        rw [this]
        exact List.Sublist.cons_cons p (List.singleton_sublist.mpr (by simp))
    | succ m =>
      have h' : r[m]? = some 62 := h
      have ep : p + ((m + 1 : Nat) : Int) = p + 1 + (m : Nat) := by push_cast; (first | lia | omega)
      rw [ep]
      have step : ∀ (k : Nat), (∀ e, bal ((top.length : Int) + 1) ((x :: r).take (e + 1)) = bal ((k : Int) + 1) (r.take e)) →
          ((∃ e, e ≤ m + 1 ∧ bal ((top.length : Int) + 1) ((x :: r).take e) = true) ↔ ∃ e, e ≤ m ∧ bal ((k : Int) + 1) (r.take e) = true) := fun k hk => by
        constructor
        · rintro ⟨e, he, hb⟩
          cases e with
          | zero => rw [b0] at hb; cases hb
          | succ e => exact ⟨e, by (first | lia | omega), by rw [← hk]; exact hb⟩
        · rintro ⟨e, he, hb⟩
          exact ⟨e + 1, by (first | lia | omega), by rw [hk]; exact hb⟩
      rcases six3 x with rfl | rfl | ⟨n1, n2⟩
      · rw [out62, step (p :: top).length fun e => by rw [List.take_succ_cons, bal, if_pos rfl]; congr 1]
        exact ih (p :: top) (p + 1) m h'
      · cases top with
        | nil =>
          rw [List.nil_append, out63c]
          constructor
          · intro _
            exact List.Sublist.cons_cons i (List.singleton_sublist.mpr (out_mem r st (p + 1) m h'))
          · intro hn
            refine absurd ⟨1, by (first | lia | omega), ?_⟩ hn
            rfl
        | cons t top =>
          rw [List.cons_append, out63c, step top.length fun e => by
            rw [List.take_succ_cons, bal, if_neg (by decide), if_pos rfl, if_neg (by simp; (first | lia | omega))]
            congr 1
            simp]
          have := ih top (p + 1) m h'
          exact ⟨fun q => (this.1 q).cons t, fun q => (this.2 q).cons t⟩
      · rw [outO n1 n2, step top.length fun e => by rw [List.take_succ_cons, bal, if_neg n1, if_neg n2]]
        exact ih top (p + 1) m h'
end Mine
end

section
set_option maxRecDepth 100000
set_option linter.unusedVariables false
set_option tactic.hygienic false
namespace Mine
open PySem
noncomputable def SixOk (xs : List Int) : Prop := ∀ x ∈ xs, 0 ≤ x ∧ x < 64
noncomputable def txt (xs : List Int) : Str := txtOf (pad4 xs)
theorem txt_codes (xs : List Int) : (txt xs).cps.toList = (pad4 xs).map sgn := by unfold txt txtOf; simp
theorem pad_ok {xs : List Int} (h : SixOk xs) : SixOk (pad4 xs) := fun x hx => by
  unfold pad4 at hx
  rcases List.mem_append.mp hx with hx | hx
  · exact h x hx
  · obtain rfl := List.eq_of_mem_replicate hx
    decide
theorem par_txt {xs : List Int} (h : SixOk xs) : parB 0 (txt xs).cps.toList = bal 0 xs := by
  rw [txt_codes, par_bal2 (pad_ok h)]
  unfold pad4
  exact bal_pad
/-- x[i:e] of the text is what stands between -/
theorem par_cut {xs : List Int} (h : SixOk xs) {i e : Nat} (he : e ≤ xs.length) : parB 0 (cut (txt xs) i e).cps.toList = bal 0 ((xs.drop i).take (e - i)) := by
  have hc : (cut (txt xs) i e).cps.toList = (((pad4 xs).drop i).take (e - i)).map sgn := by
    unfold cut
    rw [txt_codes, ← List.map_drop, ← List.map_take]
  rw [hc, par_bal2 fun x hx => pad_ok h x (List.mem_of_mem_drop (List.mem_of_mem_take hx))]
  congr 1
  unfold pad4
  by_cases hi : i ≤ xs.length
  · rw [List.drop_append_of_le_length hi, List.take_append_of_le_length (by rw [List.length_drop]; (first | lia | omega))]
  · have : e - i = 0 := by (first | lia | omega)
    rw [this, List.take_zero, List.take_zero]
theorem closed_bal {xs : List Int} (h : SixOk xs) {i j : Nat} (hij : i < j) (hj : j ≤ xs.length) (h62 : xs[i]? = some 62) :
    closedB (txt xs) i j = true ↔ ∃ e, e ≤ j - (i + 1) ∧ bal 1 ((xs.drop (i + 1)).take e) = true := by
  have hd : xs.drop i = 62 :: xs.drop (i + 1) := by
    have hl : i < xs.length := by (first | lia | omega)
    rw [List.drop_eq_getElem_cons hl]
    congr 1
    rw [List.getElem?_eq_getElem hl] at h62
    exact Option.some.inj h62
  have key : ∀ e : Nat, i + 1 ≤ e → e ≤ xs.length → parB 0 (cut (txt xs) i e).cps.toList = bal 1 ((xs.drop (i + 1)).take (e - (i + 1))) := fun e h1 h2 => by
    rw [par_cut h h2, hd, show e - i = (e - (i + 1)) + 1 by (first | lia | omega), List.take_succ_cons, bal, if_pos rfl]
    rfl
  unfold closedB
  rw [Bool.not_eq_true', List.isEmpty_eq_false_iff_exists_mem]
  constructor
  · rintro ⟨e, he⟩
    obtain ⟨hm, hp⟩ := List.mem_filter.mp he
    obtain ⟨k, rfl, k1, k2⟩ := mem_ends hm
    rw [Int.toNat_natCast, key k (by (first | lia | omega)) (by (first | lia | omega))] at hp
    exact ⟨k - (i + 1), by (first | lia | omega), hp⟩
  · rintro ⟨e, he, hb⟩
    have e1 : 1 ≤ e := by
      cases e with
      | zero => rw [List.take_zero] at hb; cases hb
      | succ e => (first | lia | omega)
    refine ⟨((i + 1 + e : Nat) : Int), List.mem_filter.mpr ⟨?_, ?_⟩⟩
    · unfold ends
      exact List.mem_map.mpr ⟨e - 1, List.mem_range.mpr (by (first | lia | omega)), by push_cast; (first | lia | omega)⟩
    · rw [Int.toNat_natCast, key _ (by (first | lia | omega)) (by (first | lia | omega)), show i + 1 + e - (i + 1) = e by (first | lia | omega)]
      exact hb
noncomputable def comes (xs : List Int) : List Int := (pileOf xs).gone ++ (pileOf xs).heap.reverse
theorem comes_out (xs : List Int) : comes xs = out [] 0 xs := by
  have := final_out xs ⟨[], [], 0, 0⟩ [] rfl
  unfold comes pileOf
  rw [this]
  rfl
/-- the places of the opening brackets from p on -/
noncomputable def plc : Int → List Int → List Int
  | _, [] => []
  | p, x :: r => if x = 62 then p :: plc (p + 1) r else plc (p + 1) r
theorem out_perm (r : List Int) : ∀ (st : List Int) (p : Int), (out st p r).Perm (st ++ plc p r) := by
  induction r with
  | nil => intro st p; rw [plc, List.append_nil]; exact .refl _
  | cons x r ih =>
    intro st p
    rcases six3 x with rfl | rfl | ⟨n1, n2⟩
    · rw [out62, plc, if_pos rfl]
      exact (ih (p :: st) (p + 1)).trans List.perm_middle.symm
    · rw [plc, if_neg (by decide)]
      cases st with
      | nil => rw [out63n]; exact ih [] (p + 1)
      | cons t st => rw [out63c]; exact (ih st (p + 1)).cons t
    · rw [outO n1 n2, plc, if_neg n1]; exact ih st (p + 1)
theorem plc_mem (r : List Int) : ∀ (p q : Int), q ∈ plc p r ↔ p ≤ q ∧ r[(q - p).toNat]? = some 62 := by
  induction r with
  | nil => intro p q; simp [plc]
  | cons x r ih =>
    intro p q
    have tail : q ∈ plc (p + 1) r ↔ p + 1 ≤ q ∧ (x :: r)[(q - p).toNat]? = some 62 := by
      rw [ih]
      constructor
      · rintro ⟨a, b⟩
        refine ⟨a, ?_⟩
        rw [show (q - p).toNat = (q - (p + 1)).toNat + 1 by (first | lia | omega)]
        exact b
      · rintro ⟨a, b⟩
        refine ⟨a, ?_⟩
        rw [show (q - p).toNat = (q - (p + 1)).toNat + 1 by (first | lia | omega)] at b
        exact b
    rw [plc]
    by_cases e : x = 62
    · rw [if_pos e, List.mem_cons, tail]
      constructor
      · rintro (rfl | ⟨a, b⟩)
        · exact ⟨Int.le_refl _, by rw [show (q - q).toNat = 0 by (first | lia | omega), e]; rfl⟩
        · exact ⟨by (first | lia | omega), b⟩
      · rintro ⟨a, b⟩
        by_cases h : q = p
        · exact .inl h
        · exact .inr ⟨by (first | lia | omega), b⟩
    · rw [if_neg e, tail]
      constructor
      · rintro ⟨a, b⟩; exact ⟨by (first | lia | omega), b⟩
      · rintro ⟨a, b⟩
        by_cases h : q = p
        · subst h
          rw [show (q - q).toNat = 0 by (first | lia | omega)] at b
          exact absurd (Option.some.inj b) e
        · exact ⟨by (first | lia | omega), b⟩
theorem plc_nodup (r : List Int) : ∀ p : Int, (plc p r).Nodup := by
  induction r with
  | nil => intro p; exact .nil
  | cons x r ih =>
    intro p
    rw [plc]
    split
    · refine List.nodup_cons.mpr ⟨fun h => ?_, ih _⟩
      have := ((plc_mem r (p + 1) p).mp h).1
      (first | lia | omega)
    · exact ih _
theorem comes_perm (xs : List Int) : (comes xs).Perm (plc 0 xs) := by rw [comes_out]; exact out_perm xs [] 0
theorem comes_nodup (xs : List Int) : (comes xs).Nodup := (comes_perm xs).nodup_iff.mpr (plc_nodup xs 0)
theorem out_split (l r : List Int) : ∀ (st : List Int) (p : Int), ∃ pre st', out st p (l ++ r) = pre ++ out st' (p + l.length) r := by
  induction l with
  | nil => intro st p; exact ⟨[], st, by simp⟩
  | cons x l ih =>
    intro st p
    have ep : p + ((x :: l).length : Int) = p + 1 + l.length := by rw [List.length_cons]; push_cast; (first | lia | omega)
    rw [ep]
    rcases six3 x with rfl | rfl | ⟨n1, n2⟩
    · rw [List.cons_append, out62]; exact ih _ _
    · rw [List.cons_append]
      cases st with
      | nil => rw [out63n]; exact ih _ _
      | cons t st =>
        rw [out63c]
        obtain ⟨pre, st', e⟩ := ih st (p + 1)
        exact ⟨t :: pre, st', by rw [e]; rfl⟩
    · rw [List.cons_append, outO n1 n2]; exact ih _ _
/-- the comparison says which comes ahead -/
theorem closed_order {xs : List Int} (h : SixOk xs) {i j : Nat} (hij : i < j) (hi : xs[i]? = some 62) (hj : xs[j]? = some 62) :
    if closedB (txt xs) i j = true then [(i : Int), j].Sublist (comes xs) else [(j : Int), i].Sublist (comes xs) := by
  have hjl : j < xs.length := by
    rcases Nat.lt_or_ge j xs.length with q | q
    · exact q
    · rw [List.getElem?_eq_none q] at hj; cases hj
  have hd : xs = xs.take i ++ 62 :: xs.drop (i + 1) := by
    have hl : i < xs.length := by (first | lia | omega)
    have e : xs[i] = 62 := by
      rw [List.getElem?_eq_getElem hl] at hi
      exact Option.some.inj hi
    have := List.take_append_drop i xs
    rw [List.drop_eq_getElem_cons hl, e] at this
    exact this.symm
  obtain ⟨pre, st', e⟩ := out_split (xs.take i) (62 :: xs.drop (i + 1)) [] 0
  rw [← hd, List.length_take, Nat.min_eq_left (by (first | lia | omega)), out62] at e
  have hm : (xs.drop (i + 1))[j - (i + 1)]? = some 62 := by rw [List.getElem?_drop, show i + 1 + (j - (i + 1)) = j by (first | lia | omega)]; exact hj
  have q := out_ahead (i : Int) st' (xs.drop (i + 1)) [] ((i : Int) + 1) (j - (i + 1)) hm
  have ej : (i : Int) + 1 + ((j - (i + 1) : Nat) : Int) = j := by (first | lia | omega)
  have e0 : (0 : Int) + (i : Nat) = i := by (first | lia | omega)
  rw [ej] at q
  rw [e0] at e
  have sub : (out ((i : Int) :: st') ((i : Int) + 1) (xs.drop (i + 1))).Sublist (comes xs) := by
    rw [comes_out, e]
    exact List.sublist_append_right _ _
  have cb := closed_bal h hij (by (first | lia | omega)) hi
  by_cases hc : closedB (txt xs) i j = true
  · rw [if_pos hc]
    exact (q.1 (cb.mp hc)).trans sub
  · rw [if_neg hc]
    exact (q.2 fun z => hc (cb.mpr z)).trans sub
/-- it is taken just if nothing was asked in vain and nothing is left -/
theorem bal_pile (r : List Int) : ∀ (s : Pile), s.vain ≤ (r.foldl deedS s).vain ∧ ((r.foldl deedS s).heap.isEmpty && ((r.foldl deedS s).vain == s.vain)) = bal s.heap.length r := by
  induction r with
  | nil => intro s; refine ⟨Int.le_refl _, ?_⟩; cases h : s.heap <;> simp [bal, h]; (first | lia | omega)
  | cons x r ih =>
    intro s
    rw [List.foldl_cons]
    rcases six3 x with rfl | rfl | ⟨n1, n2⟩
    · have e : deedS s 62 = ⟨s.heap ++ [s.place], s.gone, s.vain, s.place + 1⟩ := by unfold deedS; rw [if_pos rfl]
      have := ih (deedS s 62)
      rw [e] at this ⊢
      refine ⟨this.1, this.2.trans ?_⟩
      rw [bal, if_pos rfl]
      simp
    · by_cases hh : s.heap = []
      · have e : deedS s 63 = ⟨s.heap, s.gone, s.vain + 1, s.place + 1⟩ := by unfold deedS; rw [if_neg (by decide), if_pos rfl, if_pos hh]
        have := ih (deedS s 63)
        rw [e] at this ⊢
        have h1 := this.1
        dsimp only at h1
        refine ⟨by (first | lia | omega), ?_⟩
        rw [bal, if_neg (by decide), if_pos rfl, if_pos (by rw [hh]; decide)]
        have ne : (List.foldl deedS ⟨s.heap, s.gone, s.vain + 1, s.place + 1⟩ r).vain ≠ s.vain := by (first | lia | omega)
        rw [Bool.and_eq_false_iff]
        right
        simpa using ne
      · have e : deedS s 63 = ⟨s.heap.dropLast, s.gone ++ [s.heap.getLastD 0], s.vain, s.place + 1⟩ := by unfold deedS; rw [if_neg (by decide), if_pos rfl, if_neg hh]
        have := ih (deedS s 63)
        rw [e] at this ⊢
        refine ⟨this.1, this.2.trans ?_⟩
        have hl : 0 < s.heap.length := List.length_pos_iff.mpr hh
        rw [bal, if_neg (by decide), if_pos rfl, if_neg (by (first | lia | omega))]
        congr 1
        rw [List.length_dropLast]
        (first | lia | omega)
    · have e : deedS s x = ⟨s.heap, s.gone, s.vain, s.place + 1⟩ := by unfold deedS; rw [if_neg n1, if_neg n2]
      have := ih (deedS s x)
      rw [e] at this ⊢
      refine ⟨this.1, this.2.trans ?_⟩
      rw [bal, if_neg n1, if_neg n2]
theorem right_true {xs : List Int} (h : SixOk xs) : rightB xs (comes xs) = true := by
  unfold rightB
  have b := (bal_pile xs ⟨[], [], 0, 0⟩).2
  have p := par_txt h
  unfold txt at p
  have e : ((pileOf xs).heap.isEmpty && ((pileOf xs).vain == 0)) = bal 0 xs := b
  rw [p, e]
  simp [comes]
end Mine
end

section
set_option maxRecDepth 100000
set_option linter.unusedVariables false
set_option tactic.hygienic false
namespace Mine
open PySem
/-- the places of the opening brackets -/
noncomputable def placesOf (xs : List Int) : List Int := (nums xs.length).filter fun k => decide (xs.getD k.toNat 0 = 62)
noncomputable def keyOf (xs : List Int) (p : Int) : Int := (comes xs).idxOf p
noncomputable def pk (xs : List Int) (i : Nat) : Int := keyOf xs ((placesOf xs).getD i 0)
noncomputable def byOf (xs : List Int) : List Int := (sortedIdx (pk xs) (placesOf xs).length).map fun i => (placesOf xs).getD i 0
theorem mem_places {xs : List Int} {p : Int} : p ∈ placesOf xs ↔ ∃ k : Nat, p = k ∧ xs[k]? = some 62 := by
  unfold placesOf nums
  rw [List.mem_filter, List.mem_map]
  constructor
  · rintro ⟨⟨k, hk, rfl⟩, h⟩
    have hl := List.mem_range.mp hk
    have h := of_decide_eq_true h
    rw [Int.toNat_natCast, List.getD_eq_getElem?_getD, List.getElem?_eq_getElem hl] at h
    exact ⟨k, rfl, by rw [List.getElem?_eq_getElem hl]; exact congrArg some h⟩
  · rintro ⟨k, rfl, h⟩
    have hl : k < xs.length := by
      rcases Nat.lt_or_ge k xs.length with q | q
      · exact q
      · rw [List.getElem?_eq_none q] at h; cases h
    refine ⟨⟨k, List.mem_range.mpr hl, rfl⟩, ?_⟩
    rw [Int.toNat_natCast, List.getD_eq_getElem?_getD, h]
    rfl
theorem places_nodup (xs : List Int) : (placesOf xs).Nodup := by
  unfold placesOf nums
  refine List.Pairwise.filter _ ?_
  refine List.Pairwise.map _ (fun a b (h : a ≠ b) => ?_) List.nodup_range
  exact fun q => h (Int.ofNat.inj q)
theorem places_perm (xs : List Int) : (placesOf xs).Perm (comes xs) := by
  refine (List.perm_ext_iff_of_nodup (places_nodup xs) (comes_nodup xs)).mpr fun p => ?_
  rw [(comes_perm xs).mem_iff, plc_mem, mem_places]
  constructor
  · rintro ⟨k, rfl, h⟩
    refine ⟨by (first | lia | omega), ?_⟩
    rw [show ((k : Int) - 0).toNat = k by (first | lia | omega)]
    exact h
  · rintro ⟨h0, h⟩
    exact ⟨(p - 0).toNat, by (first | lia | omega), h⟩
theorem idx_ne {x a : Int} {r : List Int} (h : x ≠ a) : (x :: r).idxOf a = r.idxOf a + 1 := by
  have e : (x == a) = false := by simpa using h
  rw [List.idxOf_cons, e]
  rfl
theorem idx_lt {a b : Int} : ∀ {l : List Int}, l.Nodup → [a, b].Sublist l → l.idxOf a < l.idxOf b := by
  intro l
  induction l with
  | nil => intro _ h; cases h
  | cons x r ih =>
    intro hn h
    obtain ⟨hx, hr⟩ := List.nodup_cons.mp hn
    cases h with
    | cons _ h =>
      have ma := h.subset List.mem_cons_self
      have mb := h.subset (List.mem_cons_of_mem _ List.mem_cons_self)
      rw [idx_ne (fun (q : x = a) => hx (q ▸ ma)), idx_ne (fun (q : x = b) => hx (q ▸ mb))]
      exact Nat.succ_lt_succ (ih hr h)
    | cons_cons _ h =>
      have mb := h.subset List.mem_cons_self
      rw [List.idxOf_cons_self, idx_ne (fun q => hx (Eq.mpr (by rw [q]) mb))]
      exact Nat.succ_pos _
theorem pair_idx : ∀ {l : List Int}, l.Nodup → l.Pairwise fun a b => (l.idxOf a : Int) < l.idxOf b := by
  intro l hn
  refine List.pairwise_iff_forall_sublist.mpr fun h => ?_
  exact Int.ofNat_lt.mpr (idx_lt hn h)
theorem idx_inj {a b : Int} {l : List Int} (ha : a ∈ l) (e : l.idxOf a = l.idxOf b) : a = b := by
  induction l with
  | nil => cases ha
  | cons x r ih =>
    by_cases h1 : x = a
    · subst h1
      rw [List.idxOf_cons_self] at e
      by_cases h2 : x = b
      · exact h2
      · rw [idx_ne h2] at e; cases e
    · rw [idx_ne h1] at e
      by_cases h2 : x = b
      · subst h2; rw [List.idxOf_cons_self] at e; cases e
      · rw [idx_ne h2] at e
        exact ih ((List.mem_cons.mp ha).resolve_left (Ne.symm h1)) (Nat.succ.inj e)
/-- what the comparison says is the order of coming -/
theorem ahead_key {xs : List Int} (h : SixOk xs) {i j : Int} (hi : i ∈ placesOf xs) (hj : j ∈ placesOf xs) : decide (aheadI (txt xs) i.toNat j.toNat < 0) = decide (keyOf xs i < keyOf xs j) := by
  obtain ⟨i, rfl, ei⟩ := mem_places.mp hi
  obtain ⟨j, rfl, ej⟩ := mem_places.mp hj
  rw [Int.toNat_natCast, Int.toNat_natCast, decide_eq_decide]
  unfold aheadI keyOf
  have hn := comes_nodup xs
  by_cases e : i = j
  · subst e; rw [if_pos rfl]; simp
  · rw [if_neg e]
    by_cases hl : i < j
    · rw [if_pos hl]
      have q := closed_order h hl ei ej
      by_cases c : closedB (txt xs) i j = true
      · rw [if_pos c] at q ⊢
        have := idx_lt hn q
        constructor <;> intro _ <;> (first | lia | omega)
      · rw [if_neg c] at q ⊢
        have := idx_lt hn q
        constructor <;> intro _ <;> (first | lia | omega)
    · rw [if_neg hl]
      have q := closed_order h (show j < i by (first | lia | omega)) ej ei
      by_cases c : closedB (txt xs) j i = true
      · rw [if_pos c] at q ⊢
        have := idx_lt hn q
        constructor <;> intro _ <;> (first | lia | omega)
      · rw [if_neg c] at q ⊢
        have := idx_lt hn q
        constructor <;> intro _ <;> (first | lia | omega)
theorem map_range_getD {l : List Int} : (List.range l.length).map (fun i => l.getD i 0) = l := by
  apply List.ext_getElem
  · simp
  · intro i h1 h2
    simp [List.getD_eq_getElem?_getD, h2]
/-- the places, sorted by the comparison, come as from the pile -/
theorem byOf_eq {xs : List Int} (h1 : 1 ≤ (placesOf xs).length) : byOf xs = comes xs := by
  obtain ⟨p, s⟩ := sort_stable (key := pk xs) h1
  have hp : (byOf xs).Perm (placesOf xs) := by
    have := p.map fun i => (placesOf xs).getD i 0
    rw [map_range_getD] at this
    exact this
  have ps : (byOf xs).Pairwise fun a b => keyOf xs a < keyOf xs b := by
    unfold byOf
    refine List.pairwise_map.mpr (List.Pairwise.imp_of_mem (fun {a b} ha hb hlt => ?_) s)
    rcases hlt with q | ⟨q, hab⟩
    · exact q
    · exfalso
      have la := List.mem_range.mp (p.mem_iff.mp ha)
      have lb := List.mem_range.mp (p.mem_iff.mp hb)
      unfold pk keyOf at q
      have ma : (placesOf xs).getD a 0 ∈ comes xs := (places_perm xs).mem_iff.mp (by rw [List.getD_eq_getElem?_getD, List.getElem?_eq_getElem la]; exact List.getElem_mem la)
      have := idx_inj ma (b := (placesOf xs).getD b 0) (by (first | lia | omega))
      rw [List.getD_eq_getElem?_getD, List.getElem?_eq_getElem la, List.getD_eq_getElem?_getD, List.getElem?_eq_getElem lb] at this
      exact List.pairwise_iff_getElem.mp (places_nodup xs) a b la lb hab this
  have pc : (comes xs).Pairwise fun a b => keyOf xs a < keyOf xs b := pair_idx (comes_nodup xs)
  exact (hp.trans (places_perm xs)).eq_of_pairwise (fun a b _ _ h1 h2 => by (first | lia | omega)) ps pc
end Mine
end

section
set_option maxRecDepth 100000
set_option maxHeartbeats 0
set_option linter.unusedVariables false
set_option tactic.hygienic false
namespace Mine
open PySem PySem.Calls PyProof.Rows PySem.W PySem.SeqAt
noncomputable def cRow (xs : List Int) (a b : Int) : List D := ((rng (b + 1) 1 ((xs.length : Int) - (b + 1)).toNat).filter fun c => decide (xs.getD b.toNat 0 < xs.getD (unI c).toNat 0) && decide (xs.getD (unI c).toNat 0 < xs.getD a.toNat 0)).flatMap fun c => [D.tup [.int a, .int b, c]]
noncomputable def bRow (xs : List Int) (a : Int) : List D := ((rng (a + 1) 1 ((xs.length : Int) - (a + 1)).toNat).filter fun _ => true).flatMap fun b => cRow xs a (unI b)
noncomputable def crossL (xs : List Int) : List D := ((rng 0 1 xs.length).filter fun _ => true).flatMap fun a => bRow xs (unI a)
noncomputable def crossedB (xs : List Int) : Bool := !(crossL xs).isEmpty
theorem mem_rng {a : Int} {m : Nat} {d : D} (h : d ∈ rng a 1 m) : ∃ i : Int, d = .int i ∧ a ≤ i ∧ i < a + m := by
  unfold rng at h
  obtain ⟨i, hi, rfl⟩ := List.mem_map.mp h
  have := List.mem_range.mp hi
  exact ⟨_, rfl, by (first | lia | omega), by (first | lia | omega)⟩
theorem at_L1 {xs : List Int} {i : Int} (h0 : 0 ≤ i) (h : i < xs.length) : (xs.map D.int)[i.toNat]? = some (.int (xs.getD i.toNat 0)) := by
  have hl : i.toNat < xs.length := by (first | lia | omega)
  rw [List.getElem?_map, List.getD_eq_getElem?_getD, List.getElem?_eq_getElem hl]
  rfl
section
variable {C : Cx} {n : Nat}
theorem crossed_spec (T : Top C) {xs : List Int} (hz : xs.length ≤ 12) (hc : (crossL xs).length ≤ 1000000) : Fn C (n + 1) (.ref T.crossed.a) [L1 xs] (.bool (crossedB xs)) := by
  refine Fn.of1 (body := bodyOf PB 24) (x := "order") T.st T.hCrossed.fk rfl rfl (fun _ => rfl) (.inr ⟨rfl, fun L => rfl⟩) rfl fun L O => ?_
  have ge : GE (callEnvC (T.crossed.fd 24) L T.crossed.a) := ⟨rfl, rfl, rfl⟩
  refine Ex.setC (d := .int xs.length) rfl (.lenI ge T.len (.name rfl) (by (first | lia | omega))) ?_
  refine Ex.ret (d := .bool (crossedB xs)) (.cmp (Ev.nest (ds := rng 0 1 xs.length) [("size", .val (.int xs.length)), ("order", .val (L1 xs))] (fun d => [("a", .val d)]) (fun _ => true) (fun a => bRow xs (unI a)) (It.range1 ge T.range (.name rfl) (by (first | lia | omega))) (.by ⟨⟨rfl, rfl, rfl⟩, ⟨rfl, rfl, rfl⟩, trivial⟩) (by decide) rfl (by decide) (fun _ => rfl) (fun g' e => by cases e; rfl) (fun i => htg_name rfl) (fun cenv ce d hd => .name (ce.kind rfl (by decide))) (fun cenv ce d hd => .nil) ?_ hc (fun A I s v Q => own_name I s v Q)) (.list .nil (by simp)) .neNil) rfl
  intro cenv A O b₀ acc ce ha w hb hL a ham _
  obtain ⟨a, rfl, a0, a1⟩ := mem_rng ham
  refine EndAt.mid (ds := rng (a + 1) 1 ((xs.length : Int) - (a + 1)).toNat) (tgt := fun d => [("b", .val d)]) (p := fun _ => true) (F := fun b => cRow xs a (unI b)) ha w hb hL rfl (fun g' e => by cases e; rfl) (fun _ => rfl) (It.range2 (ce.ge ge rfl) T.range (.add (.name rfl) .int) (.name rfl) (by (first | lia | omega)) (by (first | lia | omega)) (by (first | lia | omega)) (by (first | lia | omega)) (ce.kind rfl (by decide))) (fun i => htg_name rfl) (fun d hd => .name (ce.kind rfl (by decide))) (fun d hd => .nil) ?_ (fun I s v Q => own_name I s v Q)
  intro b hbm _
  obtain ⟨b, rfl, b0, b1⟩ := mem_rng hbm
  refine EndAt.mid (ds := rng (b + 1) 1 ((xs.length : Int) - (b + 1)).toNat) (tgt := fun d => [("c", .val d)]) (p := fun c => decide (xs.getD b.toNat 0 < xs.getD (unI c).toNat 0) && decide (xs.getD (unI c).toNat 0 < xs.getD a.toNat 0)) (F := fun c => [D.tup [.int a, .int b, c]]) ha w hb hL rfl (fun g' e => by cases e) (fun _ => rfl) (It.range2 (ce.ge ge rfl) T.range (.add (.name rfl) .int) (.name rfl) (by (first | lia | omega)) (by (first | lia | omega)) (by (first | lia | omega)) (by (first | lia | omega)) (ce.kind rfl (by decide))) (fun i => htg_name rfl) (fun d hd => .name (ce.kind rfl (by decide))) (fun d hd => .one ?_) ?_ (fun I s v Q => own_name I s v Q)
  · obtain ⟨c, rfl, c0, c1⟩ := mem_rng hd
    exact .chain2 (.itemN (.name rfl) (.name rfl) (by (first | lia | omega)) (by (first | lia | omega)) (at_L1 (by (first | lia | omega)) (by (first | lia | omega)))) (.itemN (.name rfl) (.name rfl) (by (first | lia | omega)) (by (first | lia | omega)) (at_L1 (by (first | lia | omega)) (by show c < _; (first | lia | omega)))) (.itemN (.name rfl) (.name rfl) (by (first | lia | omega)) (by (first | lia | omega)) (at_L1 (by (first | lia | omega)) (by (first | lia | omega))))
  · intro c hcm _
    obtain ⟨c, rfl, c0, c1⟩ := mem_rng hcm
    exact .leaf w hb rfl (.tup (.cons (.name rfl) (.cons (.name rfl) (.cons (.name rfl) .nil))) (by simp))
end
end Mine
end

section
set_option maxRecDepth 100000
set_option linter.unusedVariables false
namespace Mine
open PySem
noncomputable def cameOf (w : List Int) : List Int := (comes (rowOf w)).map fun p => ((placesOf (rowOf w)).idxOf p : Int)
/-- all that is asked of an order of the four things -/
noncomputable def okW (w : List Int) : Bool :=
  !crossedB (cameOf w) && ((cameOf w == w) == !crossedB w) && decide ((placesOf (rowOf w)).length = 4) && (rowOf w).all (fun x => decide (0 ≤ x) && decide (x < 64)) && decide ((rowOf w).length ≤ 12) &&
  (List.range 5).all (fun k => decide ((rowAt w k).1.length ≤ 1000) && decide (-100 ≤ (rowAt w k).2) && decide ((rowAt w k).2 ≤ 100)) && decide ((crossL w).length ≤ 100) && decide ((crossL (cameOf w)).length ≤ 100) && decide ((cameOf w).length = 4) && (comes (rowOf w)).all (fun p => (placesOf (rowOf w)).contains p)
set_option maxHeartbeats 0 in
theorem okW_all : ∀ a b c d : Fin 4, [a, b, c, d].Nodup → okW [(a.val : Int), b.val, c.val, d.val] = true := by decide +kernel
end Mine
end

section
set_option maxRecDepth 100000
set_option maxHeartbeats 0
set_option linter.unusedVariables false
set_option tactic.hygienic false
namespace Mine
open PySem PySem.Calls PySem.SeqAt PySem.W PyProof.Rows PySem.W.X
section
variable {w : World} {oB : Obj} {n : Nat} {A : Around} {env : Env} {σ : Sto}
noncomputable abbrev bbL : Expr := lamAt (bbSt 2)
theorem ahead_fn (T : Top (C0 w oB)) {xs : List Int} (six : SixOk xs) (hl : xs.length ≤ 60) {s : Shared} {f c rc : Addr} {nm ct : Value} (hw : Wd (C0 w oB).K (C0 w oB).TB s.heap)
    (hf : s.heap.get? f = some (fnObj (lamOf bbQ (lamArgs bbL) (lamBody bbL) (lamScope bbL) nm c [("text", rc)] ct))) (gm : GM s.heap bbQ c)
    (ic : ∃ v, s.heap.IsCell rc (some v) ∧ Is [] s.heap v (.str (txt xs))) {i j : Int} (hi : i ∈ placesOf xs) (hj : j ∈ placesOf xs) : FnS (C0 w oB) (n + 5) s (.ref f) [.int i, .int j] (.int (aheadI (txt xs) i.toNat j.toNat)) := fun A s' vs Q k ha is q => by
  cases is with
  | cons i₁ is =>
  cases is with
  | cons i₂ is =>
  cases is
  obtain ⟨v, ic, iv⟩ := ic
  have hw' := hw.sk k
  have kk : ∀ b o, s.heap.get? b = some o → s'.heap.get? b = some o := fun b o e => k.kp.keep b o e fun h => nomatch h
  have ic' := k.kp.cell hw.tb ic
  refine call_lam (n := n + 4) (O := []) (σ := [("one", .val (.int i)), ("two", .val (.int j))]) (σf := [("text", .val (.str (txt xs)))]) (fd := lamOf bbQ (lamArgs bbL) (lamBody bbL) (lamScope bbL) nm c [("text", rc)] ct) T.st ha hw' (fun _ h => nomatch h) ⟨⟨_, kk _ _ hf, rfl⟩, (gm.keep kk).rec⟩ (.of_eq (by kernel_rfl)) (.cons (e := .val _) i₁ (.cons (e := .val _) i₂ .nil)) rfl (by show ([Str.ofString "one", Str.ofString "two"] : List Str).Nodup; decide +kernel) ?_ ?_ ?_ ?_ ?_ q
  · show ∀ x ∈ (lamScope bbL).names, x.2 ≠ .cell
    decide +kernel
  · intro x hx
    simp only [List.mem_cons, List.not_mem_nil, or_false] at hx
    rcases hx with rfl | rfl <;> kernel_rfl
  · intro y c' hc
    by_cases hy : y = "text"
    · subst hy
      have : rc = c' := by
        have h2 : List.lookup (Str.ofString "text") [((Str.ofString "text" : Str), rc)] = some c' := hc
        rw [List.lookup_cons_self] at h2
        exact Option.some.inj h2
      exact this ▸ ⟨_, ic'⟩
    · exfalso
      have h2 : List.lookup y [((Str.ofString "text" : Str), rc)] = some c' := hc
      rw [List.lookup_cons, show (y == (Str.ofString "text")) = false from by simpa using hy] at h2
      cases h2
  · intro y e he
    by_cases hy : y = "text"
    · subst hy
      rw [List.lookup_cons_self] at he
      cases he
      exact ⟨by kernel_rfl, rc, v, List.lookup_cons_self, ic', iv.kp k.kp hw.tb⟩
    · rw [lookup_ne hy] at he
      cases he
  · obtain ⟨i, rfl, ei⟩ := mem_places.mp hi
    obtain ⟨j, rfl, ej⟩ := mem_places.mp hj
    have lt_of : ∀ {k : Nat}, xs[k]? = some 62 → k < xs.length := fun {k} h => by
      rcases Nat.lt_or_ge k xs.length with q | q
      · exact q
      · rw [List.getElem?_eq_none q] at h; cases h
    have tl : (txt xs).length = (pad4 xs).length := by rw [strLen, txt_codes, List.length_map]
    have pl := pad4_length xs
    have li := lt_of ei
    have lj := lt_of ej
    refine .callF (n := n + 4) ⟨rfl, rfl, rfl⟩ T.hAhead.gv T.hAhead.fk.obj (.cons (.name rfl) (.cons (.name rfl) (.cons (.name rfl) .nil))) (ahead_spec (n := n) T (fun c hc => ?_) (by (first | lia | omega)) (by (first | lia | omega)) (by (first | lia | omega)))
    rw [txt_codes] at hc
    obtain ⟨x, hx, rfl⟩ := List.mem_map.mp hc
    have := pad_ok six x hx
    exact ⟨(sgn_all this.1 this.2).1, (sgn_all this.1 this.2).2.1⟩
end
end Mine
end

section
set_option maxRecDepth 100000
set_option maxHeartbeats 0
set_option linter.unusedVariables false
set_option tactic.hygienic false
namespace Mine
open PySem PySem.Calls PySem.SeqAt PySem.W PyProof.Rows PySem.W.X
variable {h₀ : Heap}
section
variable {w : World} {oB : Obj} {n : Nat} {A : Around} {env : Env} {σ : Sto}
theorem nmK (hB : BOk oB) {h : Heap} (hw : Wd (C0 w oB).K (C0 w oB).TB h) : NmK h :=
  ⟨⟨obIn (C0 w oB).K mainGlobals, hw.k _ _ (by kernel_rfl), by kernel_rfl⟩, ⟨oB, hw.k _ _ (by kernel_rfl), hB _ _ (by decide +kernel) (by kernel_rfl), hB _ _ (by decide +kernel) (by kernel_rfl)⟩⟩
theorem GlobK.skt {s s' : Shared} {nm : Value} {bm : Addr} (x : GlobK s.heap nm bm) (k : SKT h₀ s s') : GlobK s'.heap nm bm := by
  obtain ⟨⟨es, ep, c, dd, sl, e1, e2, e3⟩, ⟨sl', e4⟩, nb⟩ := x
  exact ⟨⟨es, ep, c, dd, sl, k.far e1 (fun ⟨ps, q⟩ => by cases q), e2, e3⟩, ⟨sl', k.far e4 fun ⟨ps, q⟩ => by cases q⟩, nb⟩
theorem skt_ext {g : Array GenState} {d : Drawn} {t tk : Nat} {os : OsState} {h h' : Heap} {P : Addr} (x : Heap.ExtBut P h h') (ht : ∀ o, h.get? P = some o → ∃ ps, o = tableObj ps) (gr : Grew P h h') (hP : P ∈ T3 ∨ h₀.get? P = none) : SKT h₀ ⟨h, g, d, t, os⟩ ⟨h', g, d, tk, os⟩ := by
  cases e : h.get? P with
  | none => exact .plain ⟨⟨fun b o eb _ => x b o (fun q => by rw [q, e] at eb; cases eb) eb, fun _ h => nomatch h⟩, rfl, #[], by simp, .empty⟩
  | some o =>
    obtain ⟨ps, rfl⟩ := ht _ e
    refine ⟨[P], fun b hb => ?_, fun b hb => (by rw [List.mem_singleton] at hb; subst hb; exact hP), ⟨⟨fun b o eb hb => x b o (fun q => hb (by rw [q]; exact List.mem_cons_self)) eb, fun b hb qs eb => ?_⟩, rfl, #[], by simp, .empty⟩⟩
    · rw [List.mem_singleton] at hb; subst hb; exact ⟨ps, e⟩
    · rw [List.mem_singleton] at hb; subst hb; exact gr qs eb
/-- sorted(xs, key=cmp_to_key(lambda ..)) -/
theorem sortedLam (hB : BOk oB) (hD : ∃ es ep, oB.data = .dict es ep) {argE lb : Expr} {la : Arguments} {ls : Scope} {lp p1 p2 p3 kp pos : Pos} {q : Str} {kc P bm : Addr} {qs : List (Pos × Str)} {clos : List (Str × Addr)} {nm : Value} {ns : List Int} {cmp : Nat → Nat → Int} {key : Nat → Int} {s : Shared} {Q : Value → Shared → Prop}
    (g : GS (C0 w oB) (n + 4) A [] [] env σ s) (ge : GE env) (hx1 : env.kindOf "sorted" = some .globalImplicit) (hx2 : env.kindOf "cmp_to_key" = some .globalImplicit) (hst : starEach [argE] env = [(false, eval argE env)])
    (hA : Ev (C0 w oB) (n + 4) env σ argE (L1 ns))
    (hkw : la.kwonlyargs = []) (hdf : la.defaults = []) (hkd : la.kw_defaults = []) (hcl : closureFor ls env = pure clos) (hne : clos ≠ []) (hq : env.qual ++ "<lambda>" = q) (hcode : env.code = .ref kc)
    (hG : ∀ h, TI h₀ h → GoodM h kc P qs) (hm : (lp, q) ∈ qs) (ap : Apart qs) (hT : ∀ h h', TI h₀ h → Heap.ExtBut P h h' → GoodM h' kc P qs → TI h₀ h') (hP : ∀ h, TI h₀ h → ∃ ps, h.get? P = some (tableObj ps)) (hP3 : P ∈ T3)
    (ti : TI h₀ s.heap) (gl : GlobK s.heap nm bm) (hsm : ∃ o, s.heap.get? sysModules = some o) (hd : A.depth ≤ 700) (hu : A.units ≤ 7000)
    (h2 : 2 ≤ ns.length) (h64 : ns.length < 64)
    (hF : ∀ s' f c' ct, SKT h₀ s s' → Wd (C0 w oB).K (C0 w oB).TB s'.heap → s'.heap.get? f = some (fnObj (lamOf q la lb ls nm c' clos ct)) → GM s'.heap q c' → ∀ i j, i < ns.length → j < ns.length → FnS (C0 w oB) (n + 1) s' (.ref f) [.int (ns.getD i 0), .int (ns.getD j 0)] (.int (cmp i j)))
    (hkey : ∀ i j, i < ns.length → j < ns.length → decide (cmp i j < 0) = ltB key i j)
    (hQ : ∀ v s', SKT h₀ s s' → TI h₀ s'.heap → Is [] s'.heap v (L1 ((sortedIdx key ns.length).map fun i => ns.getD i 0)) → Q v s') :
    wpAny (C0 w oB).M A (eval (.Call (.Name "sorted" p1) [argE] [⟨some "key", .Call (.Name "cmp_to_key" p2) [.Lambda la lb ls lp] [] p3, kp⟩] pos) env) Q NoE s := by
  have T := topC (w := w) hB
  refine wpAny_bind (glob ge hx1 T.sorted g.g.w ?_)
  rw [hst]
  refine callWith_builtin_kwB rfl rfl (evalArgs_kwB rfl ?_)
  refine spliced_cons (hA A ([] ++ []) [] s _ g.g fun vl s₁ k₁ il => spliced_nil ?_)
  refine wpAny_evalAll_cons (wpAny_bind ?_)
  have g₁ := g.sk k₁
  have kk₁ : Keeps1 s.heap s₁.heap := fun b o e => k₁.kp.keep b o e fun h => nomatch h
  refine Call_Name rfl (glob ge hx2 dC2k.gv g₁.g.w ?_)
  obtain ⟨oc, hoc, hdc⟩ := (dC2k (w := w) (oB := oB)).fk.ob
  have hoc₁ : s₁.heap.get? 79 = some oc := g₁.g.w.k _ _ hoc
  refine callWith_function (o := oc) (fd := (defIn (C0 w oB).K 79).fd 13) (evalArgs_plain (spliced_cons ?_))
  have ti₁ := ti.keep kk₁
  have gl₁' := gl.keep kk₁
  obtain ⟨h₁, gg₁, d₁, tk₁, os₁⟩ := s₁
  dsimp only at hoc₁ ti₁ gl₁'
  have hne79 : ∀ b o, (C0 w oB).K.lookup b = some o → ¬ ∃ ps, o = tableObj ps := fun b o e => noTabK hD e
  refine makeLamG (env := env) (params := la) (P := P) (clos := clos) (q := q) hkw hdf hkd hcl hne hq ge.gl ge.bt hcode (hG _ ti₁) hm ap gl₁' fun f c' ct h₂ tk₂ nf x₂ hf gm G₂ gr₂ => ?_
  have tab₁ : ∀ o, h₁.get? P = some o → ∃ ps, o = tableObj ps := fun o e => by
    obtain ⟨ps, q⟩ := hP _ ti₁
    rw [q] at e
    exact ⟨ps, (Option.some.inj e).symm⟩
  have k₂ : SKT h₀ (⟨h₁, gg₁, d₁, tk₁, os₁⟩ : Shared) ⟨h₂, gg₁, d₁, tk₂, os₁⟩ := skt_ext x₂ tab₁ gr₂ (.inl hP3)
  refine spliced_nil ⟨⟨k₂.far hoc₁ (hne79 _ _ hoc), hdc⟩, ?_⟩
  have ti₂ : TI h₀ h₂ := hT _ _ ti₁ x₂ G₂
  have g₂ := g₁.growT hD k₂
  have gl₂ : GlobK h₂ nm bm := GlobK.skt (h₀ := h₀) (s := ⟨h₁, gg₁, d₁, tk₁, os₁⟩) (s' := ⟨h₂, gg₁, d₁, tk₂, os₁⟩) gl₁' k₂
  have hsm₂ : ∃ o, h₂.get? sysModules = some o := k₂.there (hsm.imp fun o e => kk₁ _ _ e)
  refine callK (a := 79) (f := f) (c0 := 78) (P0 := 74) (pm := (defIn (C0 w oB).K 79).pm) ⟨oc, k₂.far hoc₁ (hne79 _ _ hoc), hdc⟩ ((dC2k (w := w) (oB := oB)).fk.at g₂.g.w).code ti₂.good gl₂ (nmK hB g₂.g.w) (g₂.g.w.k _ _ noLoc) g.g.a.hd (Nat.le_trans hd (by decide)) (Nat.le_trans hu (by decide)) hsm₂ fun cls x P' h₃ tk₃ keep₃ pc cell kc grew gp grP fldP => ?_
  obtain ⟨ti₃, tabP, newP⟩ := ti₂.cls keep₃ pc grew gp
  have tab74 : ∃ ps, h₂.get? 74 = some (tableObj ps) := by obtain ⟨ps, t, _⟩ := ti₂.k; exact ⟨ps, t.tab.2⟩
  have k₃ : SKT h₀ (⟨h₂, gg₁, d₁, tk₂, os₁⟩ : Shared) ⟨h₃, gg₁, d₁, tk₃, os₁⟩ := by
    refine ⟨[74] ++ (if (h₂.get? P').isSome then [P'] else []), fun b hb => ?_, fun b hb => ?_, ⟨⟨fun b o e hb => keep₃ b o (fun q => hb (by rw [q]; simp)) (fun q => hb ?_) e, fun b hb ps e => ?_⟩, rfl, #[], by simp, .empty⟩⟩
    · rcases List.mem_append.mp hb with h | h
      · rw [List.mem_singleton] at h; subst h; exact tab74
      · split at h
        · rename_i hs
          rw [List.mem_singleton] at h; subst h
          obtain ⟨o, e⟩ := Option.isSome_iff_exists.mp hs
          obtain ⟨ps, rfl⟩ := tabP _ e
          exact ⟨ps, e⟩
        · cases h
    · rcases List.mem_append.mp hb with h | h
      · rw [List.mem_singleton] at h; subst h; exact .inl (by decide)
      · split at h
        · rw [List.mem_singleton] at h; subst h; exact .inr newP
        · cases h
    · dsimp only at e
      rw [q] at e
      rw [if_pos (by rw [e]; rfl), q]
      simp
    · rcases List.mem_append.mp hb with h | h
      · rw [List.mem_singleton] at h; subst h; exact grew _ e
      · split at h
        · rw [List.mem_singleton] at h; subst h; exact grP _ e
        · cases h
  have g₃ := g₂.growT hD k₃
  refine wpAny_bind (wpAny_standAt (wpAny_pure (wpAny_evalAll_nil ?_)))
  obtain ⟨l, rfl⟩ : ∃ l, vl = .ref l := by cases il; exact ⟨_, rfl⟩
  have fnNot : ¬ ∃ ps, fnObj (lamOf q la lb ls nm c' clos ct) = tableObj ps := fun ⟨ps, q⟩ => by cases q
  have hf₃ := k₃.far hf fnNot
  have far₃ : ∀ {b o}, h₂.get? b = some o → (¬ ∃ ps, o = tableObj ps) → h₃.get? b = some o := fun e hn => k₃.far e hn
  have gm₃ : GM h₃ q c' := by
    obtain ⟨o, vs, t, e, hc, r⟩ := gm
    exact ⟨o, vs, t, far₃ e (fun ⟨ps, q⟩ => by rw [q] at hc; cases hc), hc, r⟩
  have k13 := (SKT.plain k₁).trans (k₂.trans k₃)
  have il₃ : Is [] h₃ (.ref l) (L1 ns) := by
    obtain ⟨T', t', _, k'⟩ := k₂.trans k₃
    exact Is.kp k'.kp t' il
  refine sortedCmp (C := C0 w oB) (O := []) (n := n + 1) (cmp := cmp) (key := key) (s := ⟨h₃, gg₁, d₁, tk₃, os₁⟩) g₃.g.a g₃.g.w noLoc (fun _ h => nomatch h) ⟨kc, cell⟩ hf₃ rfl il₃ h2 h64
    (fun i j hi hj => hF ⟨h₃, gg₁, d₁, tk₃, os₁⟩ f c' ct k13 g₃.g.w hf₃ gm₃ i j hi hj) hkey fun v s₄ k₄ i₄ => ?_
  exact hQ v s₄ (k13.trans (.plain k₄)) (TI.sk (s := ⟨h₃, gg₁, d₁, tk₃, os₁⟩) ti₃ k₄) i₄
end
end Mine
end

section
set_option maxRecDepth 100000
set_option maxHeartbeats 0
set_option linter.unusedVariables false
set_option tactic.hygienic false
namespace Mine
open PySem PySem.Calls PySem.SeqAt PySem.W PyProof.Rows PySem.W.X
variable {h₀ : Heap}
section
variable {w : World} {oB : Obj} {n : Nat} {A : Around} {σ : Sto}
noncomputable def bbEnv (pm : Value) (cd L : Addr) : Env := callEnvC (DefA.fd ⟨110, pm, cd⟩ 20) L 110
theorem bb_body : bodyOf PB 20 = [bbSt 0, bbSt 1] ++ [bbSt 2] := rfl
theorem bb_first (T : Top (C0 w oB)) {xs : List Int} {pm : Value} {cd L : Addr} {O : List Addr} (six : SixOk xs) (hl : xs.length ≤ 12) :
    Ex (C0 w oB) (n + 10) (bbEnv pm cd L) O [] [("sixes", .val (L1 xs))] [bbSt 0, bbSt 1] (fun a b => a = [] ∧ b = ([("places", .val (L1 (placesOf xs))), ("text", .val (.str (txt xs))), ("sixes", .val (L1 xs))] : Sto)) (fun _ => False) := by
  have ge : GE (bbEnv pm cd L) := ⟨rfl, rfl, rfl⟩
  refine Ex.setC (d := .str (txt xs)) rfl (.callF ge T.hText.gv T.hText.fk.obj (.cons (.name rfl) .nil) (text_spec T six (by (first | lia | omega)))) ?_
  refine Ex.setCompI (ns := nums xs.length) [("sixes", .val (L1 xs))] (fun k => decide (xs.getD k.toNat 0 = 62)) .int (It.nums ge T.range (.lenI ge T.len (.name rfl) (by (first | lia | omega))) (by (first | lia | omega))) (.by ⟨⟨rfl, rfl, rfl⟩, trivial⟩) (fun cenv ce i hi => .one ?_) (fun cenv ce i hi _ => .name rfl) (by rw [nums_length]; (first | lia | omega)) (Ex.nil ⟨rfl, rfl⟩)
  have hi' : i ∈ nums xs.length := hi
  unfold nums at hi'
  obtain ⟨k, hk, rfl⟩ := List.mem_map.mp hi'
  have hk := List.mem_range.mp hk
  exact .eq (.cmp (.itemN (.name rfl) (.name rfl) (Int.natCast_nonneg _) (by (first | lia | omega)) (at_L1 (Int.natCast_nonneg _) (by (first | lia | omega)))) .int .eqInt) rfl
theorem bb_ret : bbSt 2 = .Return (some (.Call (.Name "sorted" (match bbSt 2 with | .Return (some (.Call (.Name _ p) _ _ _)) _ => p | _ => default)) [.Name "places" (match bbSt 2 with | .Return (some (.Call _ [.Name _ p] _ _)) _ => p | _ => default)]
    [⟨some "key", .Call (.Name "cmp_to_key" (match bbSt 2 with | .Return (some (.Call _ _ [⟨_, .Call (.Name _ p) _ _ _, _⟩] _)) _ => p | _ => default)) [.Lambda (lamArgs bbL) (lamBody bbL) (lamScope bbL) (lamPos bbL)] [] (match bbSt 2 with | .Return (some (.Call _ _ [⟨_, .Call _ _ _ p, _⟩] _)) _ => p | _ => default), (match bbSt 2 with | .Return (some (.Call _ _ [⟨_, _, p⟩] _)) _ => p | _ => default)⟩]
    (match bbSt 2 with | .Return (some (.Call _ _ _ p)) _ => p | _ => default))) (match bbSt 2 with | .Return _ p => p | _ => default) := rfl
theorem lookup_nodup {l : List (Str × Addr)} {x : Str} {c : Addr} (h : (l.map (·.1)).Nodup) (m : (x, c) ∈ l) : l.lookup x = some c := by
  induction l with
  | nil => cases m
  | cons p r ih =>
    obtain ⟨h1, h2⟩ := List.nodup_cons.mp h
    rcases List.mem_cons.mp m with e | m
    · subst e; exact List.lookup_cons_self
    · have ne : x ≠ p.1 := fun q => h1 (List.mem_map.mpr ⟨(x, c), m, q⟩)
      rw [List.lookup_cons, show (x == p.1) = false from by simpa using ne]
      exact ih h2 m
theorem TI.ss {C : Cx} {env : Env} {O : List Addr} {σ : Sto} {s s' : Shared} (hC : C.TB = []) (x : TI h₀ s.heap) (g : GS C n A O [] env σ s) (ss : SS C env [] s s') : TI h₀ s'.heap := by
  have ks := ss.ks
  rw [hC] at ks
  refine x.far (fun b o e hc => ks.keep b o e (fun h => nomatch h) fun hm => ?_) fun b o e => (by
    cases q : s'.heap.get? b with
    | some o' => exact ⟨o', rfl⟩
    | none => have := ss.there b q; rw [e] at this; cases this)
  unfold Mu at hm
  rcases List.mem_cons.mp hm with rfl | hm
  · obtain ⟨m, o', es, ep, e', hd, _⟩ := g.g.r.ok.ns
    rw [e] at e'; cases e'
    rcases hc with ⟨vs, hc⟩ | ⟨ps, rfl⟩
    · rw [hd] at hc; cases hc
    · cases hd
  · rw [List.append_nil] at hm
    obtain ⟨y, hy⟩ := mem_ownCells hm
    obtain ⟨v, o', e', hd⟩ := g.g.r.ok.cells y b (lookup_nodup g.nd hy)
    rw [e] at e'; cases e'
    rcases hc with ⟨vs, hc⟩ | ⟨ps, rfl⟩
    · rw [hd] at hc; cases hc
    · cases hd
theorem look_cell {env : Env} {h : Heap} {x : Str} {v : Value} (l : Look env h x v) (hx : env.kindOf x = some .cell) : ∃ c, env.cells.lookup x = some c ∧ h.IsCell c (some v) := by
  rcases l with ⟨k, _⟩ | ⟨_, c, e, i⟩
  · rw [hx] at k; cases k
  · exact ⟨c, e, i⟩
theorem SKT.more {env : Env} {s₀ s s' : Shared} (k : SKT h₀ s₀ s) (x : SS (C0 w oB) env [] s s') (n : ∀ b ∈ Mu env [], s₀.heap.get? b = none) : SKT h₀ s₀ s' := by
  obtain ⟨T, t, c, k⟩ := k
  exact ⟨T, t, c, k.more rfl x n⟩
theorem brackets_call (hB : BOk oB) (hD : ∃ es ep, oB.data = .dict es ep) {xs : List Int} {s : Shared} {v : Value} {bm : Addr} {nm : Value} {Q : Value → Shared → Prop} (hh : A.handled = none) (hd : A.depth ≤ 600) (hu : A.units ≤ 6000) (hw : Wd (C0 w oB).K (C0 w oB).TB s.heap) (iv : Is [] s.heap v (L1 xs))
    (six : SixOk xs) (hl : xs.length ≤ 12) (h2 : 2 ≤ (placesOf xs).length) (ti : TI h₀ s.heap) (gl : GlobK s.heap nm bm) (hsm : ∃ o, s.heap.get? sysModules = some o)
    (hQ : ∀ r s', SKT h₀ s s' → TI h₀ s'.heap → Is [] s'.heap r (L1 (byOf xs)) → Q r s') : wpAny (C0 w oB).M A (call (.ref 110) [v]) Q NoE s := by
  have pl : (placesOf xs).length ≤ 12 := by
    unfold placesOf
    exact Nat.le_trans (List.length_filter_le _ _) (by rw [nums_length]; exact hl)
  refine call_raw (n := 11) (O := []) (σ := [("sixes", .val (L1 xs))]) (binds := [("sixes", v)]) (body := bodyOf PB 20) (fd := (defIn (C0 w oB).K 110).fd 20) noLoc ⟨hh, by (first | lia | omega), by (first | lia | omega)⟩ hw (fun _ h => nomatch h) ((dByB (w := w) (oB := oB)).fk.at hw) (.of_eq (by kernel_rfl)) (.cons (e := .val _) iv .nil) rfl rfl (by simp) ?_ (nodupB_eq rfl) fun s₁ keep hos hgs new g => ?_
  · intro x hx
    rw [List.mem_singleton] at hx
    subst hx
    exact .inr ⟨by kernel_rfl, by kernel_rfl⟩
  have k₁ : SKT h₀ s s₁ := .plain ⟨.of keep, hos, #[], by rw [hgs]; simp, .empty⟩
  rw [bb_body]
  have T := topC (w := w) hB
  refine Ex.goOn (C := C0 w oB) (bb_first (n := 1) (pm := (defIn (C0 w oB).K 110).pm) (cd := (defIn (C0 w oB).K 110).cd) (L := s.heap.objs.size) T six hl) g fun s₂ ss₂ _ g₂ => ?_
  have k₂ : SKT h₀ s s₂ := k₁.more ss₂ new
  have ti₂ : TI h₀ s₂.heap := (ti.keep keep).ss rfl g ss₂
  rw [bb_ret]
  refine wpAny_execs_cons (wpAny_Return_some ?_)
  obtain ⟨vt, lt, it⟩ := g₂.g.r.val "text" _ rfl
  obtain ⟨rc, hrc, icr⟩ := look_cell lt (by kernel_rfl)
  have hrc' : rc = s.heap.objs.size + 2 := by
    have : (bbEnv (defIn (C0 w oB).K 110).pm (defIn (C0 w oB).K 110).cd s.heap.objs.size).cells.lookup (Str.ofString "text") = some (s.heap.objs.size + 2) := by kernel_rfl
    rw [show (callEnvC ((defIn (C0 w oB).K 110).fd 20) s.heap.objs.size 110) = bbEnv (defIn (C0 w oB).K 110).pm (defIn (C0 w oB).K 110).cd s.heap.objs.size from rfl, this] at hrc
    exact (Option.some.inj hrc).symm
  have mem : ∀ i, i < (placesOf xs).length → (placesOf xs).getD i 0 ∈ placesOf xs := fun i hi => by
    rw [List.getD_eq_getElem?_getD, List.getElem?_eq_getElem hi]
    exact List.getElem_mem hi
  refine sortedLam (n := 7) (env := bbEnv (defIn (C0 w oB).K 110).pm (defIn (C0 w oB).K 110).cd s.heap.objs.size) (ns := placesOf xs) (q := bbQ) (kc := 109) (P := 107) (qs := bbQs) (clos := [("text", rc)]) (nm := nm) (bm := bm) (cmp := fun i j => aheadI (txt xs) ((placesOf xs).getD i 0).toNat ((placesOf xs).getD j 0).toNat) (key := pk xs) hB hD g₂ ⟨rfl, rfl, rfl⟩ rfl rfl rfl (.name rfl) rfl rfl rfl (by subst hrc'; kernel_rfl) (by simp) (by kernel_rfl) (by kernel_rfl)
    (fun h x => x.b) List.mem_cons_self (fun p hp q hq => .inl (by rw [List.mem_singleton.mp hp, List.mem_singleton.mp hq])) (fun h h' x e g => x.lamB e g) (fun h x => by obtain ⟨ps, t, _⟩ := x.b; exact ⟨ps, t.tab.2⟩) (by decide)
    ti₂ (gl.skt k₂) (k₂.there hsm) (by show A.depth + 1 ≤ 700; (first | lia | omega)) (by show A.units + 3 ≤ 7000; (first | lia | omega)) h2 (by (first | lia | omega)) (fun s' f c' ct kk hw' hf gm i j hi hj => ?_) (fun i j hi hj => ahead_key six (mem i hi) (mem j hj)) fun r s' kk ti' ir => hQ r s' (k₂.trans kk) ti' ir
  obtain ⟨T', t', _, k'⟩ := kk
  exact ahead_fn (n := 3) T six (by (first | lia | omega)) hw' hf gm ⟨vt, k'.kp.cell t' icr, Is.kp k'.kp t' it⟩ (mem i hi) (mem j hj)
end
end Mine
end

section
set_option maxRecDepth 100000
set_option maxHeartbeats 0
set_option linter.unusedVariables false
namespace Mine
open PySem PySem.Calls PySem.SeqAt PySem.W PyProof.Rows PySem.W.X
/-! what the law computes -/
noncomputable def drawn (ns : List Int) : List Int := ns.take 7 ++ [4, 10, 1, 12, 6]
noncomputable def sixOf (x : Int) : Int := if x.fmod 4 < 2 then 62 else if x.fmod 4 = 2 then 63 else (x.fdiv 4).fmod 62
noncomputable def sixesOf (ns : List Int) : List Int := (drawn ns).map sixOf
noncomputable def ranksOf (ns : List Int) : List Int := ((drawn ns).take 4).map fun x => (x.fdiv 4).fmod 5
noncomputable abbrev four : List Int := [0, 1, 2, 3]
noncomputable def okey (ranks holes : List Int) (i : Nat) : Int := ranks.getD (holes.getD i 0).toNat 0
noncomputable def orderOf (ranks holes : List Int) : List Int := (sortedIdx (okey ranks holes) holes.length).map fun i => holes.getD i 0
noncomputable abbrev lawEnv (pm : Value) (cd L : Addr) : Env := callEnvC (fdOf PB 25 pm cd .none .none) L 141
noncomputable def lawS0 (l : Addr) : Sto := [("script", .raw (.ref l))]
noncomputable def lawS3 (l : Addr) (ns : List Int) : Sto := ("ranks", .val (L1 (ranksOf ns))) :: ("sixes", .val (L1 (sixesOf ns))) :: ("drawn", .val (L1 (drawn ns))) :: lawS0 l
theorem drawn_len (ns : List Int) : 5 ≤ (drawn ns).length ∧ (drawn ns).length ≤ 12 := by
  unfold drawn
  simp only [List.length_append, List.length_cons, List.length_nil, List.length_take]
  (first | lia | omega)
theorem six_ok (ns : List Int) : SixOk (sixesOf ns) := fun y hy => by
  obtain ⟨x, _, rfl⟩ := List.mem_map.mp hy
  unfold sixOf
  have h1 : 0 ≤ (x.fdiv 4).fmod 62 := Int.fmod_nonneg_of_pos _ (by decide)
  have h2 : (x.fdiv 4).fmod 62 < 62 := Int.fmod_lt_of_pos _ (by decide)
  split
  · decide
  · split
    · decide
    · (first | lia | omega)
section
variable {C : Cx} {n : Nat} {O : List Addr}
theorem Ev.uptoRaw {env : Env} {σ : Sto} {x : Str} {l : Addr} {o : Obj} {vs : List Value} {ns : List Int} {m : Nat} {e : Expr} {p0 p pos : Pos} {k : Nat} (hx : σ.lookup x = some (.raw (.ref l))) (ho : C.K.lookup l = some o) (hc : o.cls = .type "list") (hd : o.data = .seq vs.toArray m) (hi : IntsAre vs ns)
    (h₂ : Ev C n env σ e (.int k)) (hz : vs.length ≤ 1000000) (ht : ∀ o r, letTemporaryGo (.Name x p0) o r = pure () := by intro _ _; rfl) (hdb : (x == ("__debug__" : Str)) = false := by decide) (hcd : (x == Str.ofString "__classdict__") = false := by decide) :
    Ev C n env σ (.Subscript (.Name x p0) (.Slice none (some e) none p) pos) (L1 (ns.take k)) := fun A O Ow s Q g q => by
  refine Subscript_Slice (EvR.name hx hdb hcd A O Ow s _ g fun s₁ k₁ => ?_) ht
  rw [eval_Slice]
  refine wpAny_bind (m := valueOrNone none) (wpAny_pure ?_)
  refine wpAny_bind (wpAny_holding (m := eval e env) (h₂ A O Ow s₁ _ (g.sk k₁) fun v₂ s₂ k₂ i₂ => ?_))
  refine wpAny_bind (m := holding _ (valueOrNone none)) (wpAny_holding (wpAny_pure ?_))
  cases i₂
  rename_i t
  refine wpAny_newObj_type ?_ (by size_fits)
  have g₂ := (g.sk k₁).sk k₂
  have hl' : (s₂.heap.push { cls := .type "slice", data := .fields [Value.none, .int k t, .none].toArray }).IsList l vs.toArray := ⟨o, Heap.get?_push_of_some _ (g₂.w.k _ _ ho), hc, m, hd⟩
  refine ⟨"list", _, slot_list_getitem.lookup, Heap.IsList.typeIs (s := { s₂ with heap := s₂.heap.push _ }) hl', ?_⟩
  refine wpAny_getItem_list_slice (s := { s₂ with heap := s₂.heap.push _ }) hl' (Heap.IsSliceOf.new s₂.heap _ _ _) .none (.int _ _) .none (by simp) ?_ (by simp only [List.size_toArray, sizeLine_eq]; (exact Nat.le_trans (by assumption) (by decide)))
  rw [slicePick_upto']
  have xs : IsAll O (s₂.heap.push { cls := .type "slice", data := .fields [Value.none, .int k t, .none].toArray }) (vs.take k) ((ns.take k).map .int) := by
    rw [List.map_take]
    exact (IsAll.ofInts hi).take k
  refine q _ _ (((k₁.trans k₂).trans (.push _)).trans (.push (s := { s₂ with heap := s₂.heap.push _ }) _)) (is_newList xs ?_)
  exact (g₂.sk (SK.push _)).newO
theorem law_st0 (T : Top C) {ns : List Int} {l : Addr} {o : Obj} {vs : List Value} {m : Nat} (hlo : C.K.lookup l = some o) (hlc : o.cls = .type "list") (hld : o.data = .seq vs.toArray m) (hli : IntsAre vs ns) (hvz : vs.length ≤ 63) (hz : ns.length ≤ 63) {pm : Value} {cd L : Addr} :
    Ex C n (lawEnv pm cd L) O [] (lawS0 l) [lawSt 0, lawSt 1, lawSt 2] (fun a b => a = [] ∧ b = lawS3 l ns) (fun _ => False) := by
  have ge : GE (lawEnv pm cd L) := ⟨rfl, rfl, rfl⟩
  have dl := drawn_len ns
  refine Ex.set (d := L1 (drawn ns)) (.eq (.cat (.uptoRaw (k := 7) rfl hlo hlc hld hli .int (by (first | lia | omega))) (.list (.cons .int (.cons .int (.cons .int (.cons .int (.cons .int .nil))))) (by simp)) (by simp only [List.length_cons, List.length_nil, List.length_take, List.length_map]; (first | lia | omega))) ?_) ?_
  · unfold drawn
    rw [L1, List.map_append, List.map_take]
    rfl
  refine Ex.setCompI (ns := drawn ns) [] (fun _ => true) (fun x => .int (sixOf x)) (It.list (.name rfl)) (.by trivial) (fun _ _ _ _ => .nil) (fun cenv ce x hx _ => ?_) (by (first | lia | omega)) ?_
  · unfold sixOf
    refine .ifExp (b := decide (x.fmod 4 < 2)) (.cmp (.mod (.name rfl) .int (by decide)) .int .ltInt) (fun e => .eq .int (by rw [if_pos (of_decide_eq_true e)])) fun e => .ifExp (b := decide (x.fmod 4 = 2)) (.eq (.cmp (.mod (.name rfl) .int (by decide)) .int .eqInt) (by rw [Bool.eq_iff_iff]; simp)) (fun e2 => .eq .int (by rw [if_neg (of_decide_eq_false e), if_pos (of_decide_eq_true e2)])) fun e2 => .eq (.mod (.floordiv (.name rfl) .int (by decide) (by decide)) .int (by decide)) (by rw [if_neg (of_decide_eq_false e), if_neg (of_decide_eq_false e2)])
  rw [filter_true]
  have h4 : ((drawn ns).take 4).length ≤ 4 := by rw [List.length_take]; (first | lia | omega)
  refine Ex.setC rfl (.eq (c := L1 (ranksOf ns)) (Ev.compI (ns := (drawn ns).take 4) [] (fun _ => true) (fun x => .int ((x.fdiv 4).fmod 5)) (It.eq (It.list (.upto (k := 4) (.name rfl) .int (by rw [List.length_map]; (first | lia | omega)))) ?_) (.by trivial) (fun _ _ _ _ => .nil) (fun cenv ce x hx _ => .mod (.floordiv (.name rfl) .int (by decide) (by decide)) .int (by decide)) (by (first | lia | omega))) ?_) (.nil ⟨rfl, ?_⟩)
  · rw [List.map_take]
  · rw [filter_true]
    unfold ranksOf
    rw [L1, List.map_map]
    rfl
  · unfold lawS3 sixesOf
    rw [show L1 (List.map sixOf (drawn ns)) = D.list (List.map (fun x => D.int (sixOf x)) (drawn ns)) from by rw [L1, List.map_map]; rfl]
end
end Mine
end

section
set_option maxRecDepth 100000
set_option maxHeartbeats 0
set_option linter.unusedVariables false
set_option tactic.hygienic false
namespace Mine
open PySem PySem.Calls PySem.SeqAt PySem.W PyProof.Rows PySem.W.X
variable {h₀ : Heap}
section
variable {w : World} {oB : Obj} {n : Nat} {A : Around} {env : Env} {σ : Sto}
theorem diff_fn {ranks holes : List Int} {s : Shared} {f c rc : Addr} {nm ct : Value} (hw : Wd (C0 w oB).K (C0 w oB).TB s.heap) (hr : ∀ k ∈ holes, 0 ≤ k ∧ k.toNat < ranks.length) (hl : ranks.length ≤ 10)
    (hf : s.heap.get? f = some (fnObj (lamOf lwQ (lamArgs (lamAt (lawSt 3))) (lamBody (lamAt (lawSt 3))) (lamScope (lamAt (lawSt 3))) nm c [("ranks", rc)] ct))) (gm : GM s.heap lwQ c)
    (ic : ∃ v, s.heap.IsCell rc (some v) ∧ Is [] s.heap v (L1 ranks)) {i j : Int} (hi : i ∈ holes) (hj : j ∈ holes) : FnS (C0 w oB) (n + 1) s (.ref f) [.int i, .int j] (.int (ranks.getD i.toNat 0 - ranks.getD j.toNat 0)) := fun A s' vs Q k ha is q => by
  cases is with
  | cons i₁ is =>
  cases is with
  | cons i₂ is =>
  cases is
  obtain ⟨v, ic, iv⟩ := ic
  have hw' := hw.sk k
  have kk : ∀ b o, s.heap.get? b = some o → s'.heap.get? b = some o := fun b o e => k.kp.keep b o e fun h => nomatch h
  have ic' := k.kp.cell hw.tb ic
  refine call_lam (n := n) (O := []) (σ := [("one", .val (.int i)), ("two", .val (.int j))]) (σf := [("ranks", .val (L1 ranks))]) (fd := lamOf lwQ (lamArgs (lamAt (lawSt 3))) (lamBody (lamAt (lawSt 3))) (lamScope (lamAt (lawSt 3))) nm c [("ranks", rc)] ct) noLoc ha hw' (fun _ h => nomatch h) ⟨⟨_, kk _ _ hf, rfl⟩, (gm.keep kk).rec⟩ (.of_eq (by kernel_rfl)) (.cons (e := .val _) i₁ (.cons (e := .val _) i₂ .nil)) rfl (by show ([Str.ofString "one", Str.ofString "two"] : List Str).Nodup; decide +kernel) ?_ ?_ ?_ ?_ ?_ q
  · show ∀ x ∈ (lamScope (lamAt (lawSt 3))).names, x.2 ≠ .cell
    decide +kernel
  · intro x hx
    simp only [List.mem_cons, List.not_mem_nil, or_false] at hx
    rcases hx with rfl | rfl <;> kernel_rfl
  · intro y c' hc
    by_cases hy : y = "ranks"
    · subst hy
      have : rc = c' := by
        have h2 : List.lookup (Str.ofString "ranks") [((Str.ofString "ranks" : Str), rc)] = some c' := hc
        rw [List.lookup_cons_self] at h2
        exact Option.some.inj h2
      exact this ▸ ⟨_, ic'⟩
    · exfalso
      have h2 : List.lookup y [((Str.ofString "ranks" : Str), rc)] = some c' := hc
      rw [List.lookup_cons, show (y == (Str.ofString "ranks")) = false from by simpa using hy] at h2
      cases h2
  · intro y e he
    by_cases hy : y = "ranks"
    · subst hy
      rw [List.lookup_cons_self] at he
      cases he
      exact ⟨by kernel_rfl, rc, v, List.lookup_cons_self, ic', iv.kp k.kp hw.tb⟩
    · rw [lookup_ne hy] at he
      cases he
  · have a1 := hr i hi
    have a2 := hr j hj
    exact .sub (.itemN (.name rfl) (.name rfl) a1.1 (by (first | lia | omega)) (getD_int a1.1 a1.2)) (.itemN (.name rfl) (.name rfl) a2.1 (by (first | lia | omega)) (getD_int a2.1 a2.2))
theorem lw_asg : lawSt 3 = .Assign [.Name "wished" (match lawSt 3 with | .Assign [.Name _ p] _ _ => p | _ => default)] (.Call (.Name "sorted" (match lawSt 3 with | .Assign _ (.Call (.Name _ p) _ _ _) _ => p | _ => default)) [match lawSt 3 with | .Assign _ (.Call _ [e] _ _) _ => e | _ => default]
    [⟨some "key", .Call (.Name "cmp_to_key" (match lawSt 3 with | .Assign _ (.Call _ _ [⟨_, .Call (.Name _ p) _ _ _, _⟩] _) _ => p | _ => default)) [.Lambda (lamArgs (lamAt (lawSt 3))) (lamBody (lamAt (lawSt 3))) (lamScope (lamAt (lawSt 3))) (lamPos (lamAt (lawSt 3)))] [] (match lawSt 3 with | .Assign _ (.Call _ _ [⟨_, .Call _ _ _ p, _⟩] _) _ => p | _ => default), (match lawSt 3 with | .Assign _ (.Call _ _ [⟨_, _, p⟩] _) _ => p | _ => default)⟩]
    (match lawSt 3 with | .Assign _ (.Call _ _ _ p) _ => p | _ => default)) (match lawSt 3 with | .Assign _ _ p => p | _ => default) := rfl
theorem law_wished (hB : BOk oB) (hD : ∃ es ep, oB.data = .dict es ep) {ranks : List Int} {pm : Value} {L bm : Addr} {nm : Value} {s₀ s : Shared} {Q : Flow → Shared → Prop} {rest : List Stmt}
    (g : GS (C0 w oB) (n + 4) A [] [] (lawEnv pm 140 L) σ s) (hσr : σ.lookup ("ranks" : Str) = some (.val (L1 ranks))) (ti : TI h₀ s.heap) (gl : GlobK s.heap nm bm) (hsm : ∃ o, s.heap.get? sysModules = some o) (hd : A.depth ≤ 700) (hu : A.units ≤ 7000) (hrl : ranks.length = 4)
    (k₀ : SKT h₀ s₀ s) (new : ∀ b ∈ Mu (lawEnv pm 140 L) [], s₀.heap.get? b = none)
    (k : ∀ s', SKT h₀ s₀ s' → TI h₀ s'.heap → GS (C0 w oB) (n + 4) A [] [] (lawEnv pm 140 L) (("wished", .val (L1 (orderOf ranks four))) :: σ) s' → wpAny (C0 w oB).M A (execs rest (lawEnv pm 140 L)) Q NoE s') :
    wpAny (C0 w oB).M A (execs (lawSt 3 :: rest) (lawEnv pm 140 L)) Q NoE s := by
  rw [lw_asg]
  refine wpAny_execs_cons (wpAny_Assign_Name ?_ rfl)
  obtain ⟨vr, lr, ir⟩ := g.g.r.val "ranks" _ hσr
  obtain ⟨rc, hrc, icr⟩ := look_cell lr (by kernel_rfl)
  have hrc' : rc = L + 3 := by
    have : (lawEnv pm 140 L).cells.lookup (Str.ofString "ranks") = some (L + 3) := by kernel_rfl
    rw [this] at hrc
    exact (Option.some.inj hrc).symm
  have mem : ∀ i, i < four.length → four.getD i 0 ∈ four := fun i hi => by
    rw [List.getD_eq_getElem?_getD, List.getElem?_eq_getElem hi]
    exact List.getElem_mem hi
  have hr : ∀ k ∈ four, 0 ≤ k ∧ k.toNat < ranks.length := fun k hk => by
    simp only [List.mem_cons, List.not_mem_nil, or_false] at hk
    rcases hk with rfl | rfl | rfl | rfl <;> exact ⟨by decide, by rw [hrl]; decide⟩
  refine sortedLam (n := n) (env := lawEnv pm 140 L) (ns := four) (q := lwQ) (kc := 140) (P := 138) (qs := lwQs) (clos := [("ranks", rc)]) (nm := nm) (bm := bm) (cmp := fun i j => okey ranks four i - okey ranks four j) (key := okey ranks four) hB hD g ⟨rfl, rfl, rfl⟩ rfl rfl rfl (.list (.cons .int (.cons .int (.cons .int (.cons .int .nil)))) (by simp)) rfl rfl rfl (by subst hrc'; kernel_rfl) (by simp) (by kernel_rfl) (by kernel_rfl)
    (fun h x => x.l) List.mem_cons_self (fun p hp q hq => .inl (by rw [List.mem_singleton.mp hp, List.mem_singleton.mp hq])) (fun h h' x e g => x.lamL e g) (fun h x => by obtain ⟨ps, t, _⟩ := x.l; exact ⟨ps, t.tab.2⟩) (by decide)
    ti gl hsm hd hu (by decide) (by decide) (fun s' f c' ct kk hw' hf gm i j hi hj => ?_) (fun i j hi hj => ?_) fun r s' kk ti' ir => ?_
  · obtain ⟨T', t', _, k'⟩ := kk
    exact diff_fn (n := n) hw' hr (by (first | lia | omega)) hf gm ⟨vr, k'.kp.cell t' icr, Is.kp k'.kp t' ir⟩ (mem i hi) (mem j hj)
  · show decide _ = decide _
    rw [decide_eq_decide]
    (first | lia | omega)
  · have g' := g.growT hD kk
    refine storeL (en := .val (L1 (orderOf ranks four))) g'.g.r g'.g.w.tb (by kernel_rfl) ir fun h' tk ks r => ?_
    have ss : SS (C0 w oB) (lawEnv pm 140 L) [] s' { s' with heap := h', toks := tk } := ss_store g'.g.w.tb ks Mu.loc (r.ok.ns.elim fun m ⟨o, es, ep, e, _⟩ => ⟨o, e⟩)
    exact k _ ((k₀.trans kk).more ss new) (ti'.ss rfl g' ss) (g'.ss ss r .refl)
end
end Mine
end

section
set_option genInjectivity false
set_option genSizeOf false
set_option genSizeOfSpec false
set_option maxRecDepth 100000
set_option maxHeartbeats 0
set_option linter.unusedVariables false
set_option tactic.hygienic false
namespace Mine
open PySem
theorem okW_perm {l : List Int} (h : l.Perm four) : okW l = true := by
  have hl := h.length_eq
  have hn : l.Nodup := h.nodup_iff.mpr (by decide)
  have hm : ∀ x ∈ l, ∃ k : Fin 4, x = k.val := fun x hx => by
    have := h.mem_iff.mp hx
    simp only [List.mem_cons, List.not_mem_nil, or_false] at this
    rcases this with rfl | rfl | rfl | rfl
    · exact ⟨0, rfl⟩
    · exact ⟨1, rfl⟩
    · exact ⟨2, rfl⟩
    · exact ⟨3, rfl⟩
  match l, hl with
  | [a, b, c, d], _ =>
    obtain ⟨a, rfl⟩ := hm a (by simp)
    obtain ⟨b, rfl⟩ := hm b (by simp)
    obtain ⟨c, rfl⟩ := hm c (by simp)
    obtain ⟨d, rfl⟩ := hm d (by simp)
    refine okW_all a b c d ?_
    have e : [(a.val : Int), b.val, c.val, d.val] = [a, b, c, d].map (fun k : Fin 4 => (k.val : Int)) := rfl
    rw [e] at hn
    exact List.Pairwise.of_map _ (fun x y hxy q => hxy (by rw [q])) hn
/-- what is so of every order of the four things -/
structure WFacts (l : List Int) : Prop where
  came : crossedB (cameOf l) = false
  law : (cameOf l == l) = !crossedB l
  four : (placesOf (rowOf l)).length = 4
  six : SixOk (rowOf l)
  len : (rowOf l).length ≤ 12
  row : RowOk l
  cl : (crossL l).length ≤ 1000000
  cc : (crossL (cameOf l)).length ≤ 1000000
  clen : (cameOf l).length = 4
  mem : ∀ p ∈ comes (rowOf l), p ∈ placesOf (rowOf l)
theorem wfacts {l : List Int} (h : l.Perm four) : WFacts l := by
  have o := okW_perm h
  have hl : l.length = 4 := h.length_eq
  unfold okW at o
  simp only [Bool.and_eq_true, decide_eq_true_eq, Bool.not_eq_true', beq_iff_eq, List.all_eq_true, List.mem_range, List.contains_iff_mem] at o
  obtain ⟨⟨⟨⟨⟨⟨⟨⟨⟨h1, h2⟩, h3⟩, h4⟩, h5⟩, h6⟩, h7⟩, h8⟩, h9⟩, h10⟩ := o
  exact ⟨h1, h2, h3, fun x hx => h4 x hx, h5, ⟨by (first | lia | omega), fun k hk => ⟨(h6 k (by (first | lia | omega))).1.1, (h6 k (by (first | lia | omega))).1.2, (h6 k (by (first | lia | omega))).2⟩⟩, by (first | lia | omega), by (first | lia | omega), h9, fun p hp => h10 p hp⟩
theorem wish_perm (ranks : List Int) : (orderOf ranks four).Perm four := by
  obtain ⟨p, _⟩ := sort_stable (key := okey ranks four) (N := 4) (by decide)
  have := p.map fun i => four.getD i 0
  exact this
theorem two_places (ns : List Int) : 2 ≤ (placesOf (sixesOf ns)).length := by
  have hd : sixesOf ns = (ns.take 7).map sixOf ++ [62, 63, 62, 62, 63] := by
    unfold sixesOf drawn
    rw [List.map_append]
    rfl
  have at' : ∀ k, (k = 0 ∨ k = 2) → (sixesOf ns)[(ns.take 7).length + k]? = some 62 := fun k hk => by
    rw [hd, List.getElem?_append_right (by rw [List.length_map]; (first | lia | omega)), List.length_map, Nat.add_sub_cancel_left]
    rcases hk with rfl | rfl <;> rfl
  have m0 : (((ns.take 7).length + 0 : Nat) : Int) ∈ placesOf (sixesOf ns) := mem_places.mpr ⟨_, rfl, at' 0 (.inl rfl)⟩
  have m2 : (((ns.take 7).length + 2 : Nat) : Int) ∈ placesOf (sixesOf ns) := mem_places.mpr ⟨_, rfl, at' 2 (.inr rfl)⟩
  match h : placesOf (sixesOf ns), m0, m2 with
  | [], m0, _ => cases m0
  | [x], m0, m2 =>
    have a := List.mem_singleton.mp m0
    have b := List.mem_singleton.mp m2
    (first | lia | omega)
  | _ :: _ :: _, _, _ => simp
theorem sixes_len (ns : List Int) : (sixesOf ns).length ≤ 12 := by unfold sixesOf; rw [List.length_map]; exact (drawn_len ns).2
end Mine
end

section
set_option maxRecDepth 100000
set_option linter.unusedVariables false
set_option tactic.hygienic false
namespace Mine
open PySem PySem.Calls PySem.SeqAt PySem.W PyProof.Rows
noncomputable def unP : D → Int × Int
  | .tup [a, b] => (unI a, unI b)
  | _ => (0, 0)
theorem unP_pairD (p : Int × Int) : unP (pairD p) = p := rfl
noncomputable def pairsOf (ranks holes : List Int) : List (Int × Int) := holes.map fun k => (ranks.getD k.toNat 0, k)
noncomputable def secondOf (ranks holes : List Int) : List Int := ((sortedIdx (pkey (pairsOf ranks holes)) (pairsOf ranks holes).length).map fun i => (pairsOf ranks holes).getD i (0, 0)).map (·.2)
theorem order_second {ranks holes : List Int} (ha : holes.Pairwise (· < ·)) (hb : ∀ h ∈ holes, 0 ≤ h ∧ h < 1000) (hn : 1 ≤ holes.length) : orderOf ranks holes = secondOf ranks holes := by
  have pl : (pairsOf ranks holes).length = holes.length := by unfold pairsOf; rw [List.length_map]
  have at_ : ∀ i, i < holes.length → (pairsOf ranks holes).getD i (0, 0) = (okey ranks holes i, holes.getD i 0) := fun i hi => by
    unfold pairsOf okey
    have e : holes.getD i 0 = holes[i] := by rw [List.getD_eq_getElem?_getD, List.getElem?_eq_getElem hi]; rfl
    rw [e, List.getD_eq_getElem?_getD, List.getElem?_map, List.getElem?_eq_getElem hi]
    rfl
  have mem : ∀ i, i < holes.length → 0 ≤ holes.getD i 0 ∧ holes.getD i 0 < 1000 := fun i hi => by
    rw [List.getD_eq_getElem?_getD, List.getElem?_eq_getElem hi]
    exact hb _ (List.getElem_mem hi)
  have pk : ∀ i, i < holes.length → pkey (pairsOf ranks holes) i = okey ranks holes i * 1000 + holes.getD i 0 := fun i hi => by
    unfold pkey
    rw [at_ i hi]
  obtain ⟨p1, s1⟩ := sort_stable (key := okey ranks holes) hn
  obtain ⟨p2, s2⟩ := sort_stable (key := pkey (pairsOf ranks holes)) hn
  have lt1 : ∀ i ∈ sortedIdx (okey ranks holes) holes.length, i < holes.length := fun i hi => List.mem_range.mp (p1.mem_iff.mp hi)
  have lt2' : ∀ i ∈ sortedIdx (pkey (pairsOf ranks holes)) holes.length, i < holes.length := fun i hi => List.mem_range.mp (p2.mem_iff.mp hi)
  have asc : ∀ i j, i < j → j < holes.length → holes.getD i 0 < holes.getD j 0 := fun i j hij hj => by
    have := List.pairwise_iff_getElem.mp ha i j (by (exact Nat.lt_trans (by assumption) (by assumption))) hj hij
    rw [List.getD_eq_getElem?_getD, List.getD_eq_getElem?_getD, List.getElem?_eq_getElem hj, List.getElem?_eq_getElem (by (exact Nat.lt_trans (by assumption) (by assumption)) : i < holes.length)]
    exact this
  have e : (sortedIdx (okey ranks holes) holes.length).map (pkey (pairsOf ranks holes)) = (sortedIdx (pkey (pairsOf ranks holes)) holes.length).map (pkey (pairsOf ranks holes)) := by
    refine lks_uniq ((p1.trans p2.symm).map _) ?_ ?_
    · rw [List.pairwise_map]
      refine List.Pairwise.imp_of_mem (fun {a b} ha' hb' h => ?_) s1
      have a1 := lt1 a ha'
      have b1 := lt1 b hb'
      have ma := mem a a1
      have mb := mem b b1
      rw [pk a a1, pk b b1]
      rcases h with h | ⟨h, hab⟩
      · (first | lia | omega)
      · have := asc a b hab b1
        (clear hab mb ma b1 a1 hb' ha' asc lt2' lt1 s2 p2 s1 p1 pk mem at_ pl hn hb ha; lia)
    · rw [List.pairwise_map]
      exact s2.imp fun {a b} h => by
        rcases h with h | ⟨h, _⟩
        · exact Int.le_of_lt h
        · exact Int.le_of_eq h
  have back : ∀ l : List Nat, (∀ i ∈ l, i < holes.length) → l.map (fun i => holes.getD i 0) = (l.map (pkey (pairsOf ranks holes))).map (· % 1000) := fun l hl => by
    rw [List.map_map]
    apply List.map_congr_left
    intro i hi
    have := mem i (hl i hi)
    show _ = pkey (pairsOf ranks holes) i % 1000
    rw [pk i (hl i hi)]
    (first | lia | omega)
  unfold orderOf secondOf
  rw [pl, List.map_map, back _ lt1, e, ← back _ lt2']
  apply List.map_congr_left
  intro i hi
  show _ = ((pairsOf ranks holes).getD i (0, 0)).2
  rw [at_ i (lt2' i hi)]
end Mine
end

section
set_option maxRecDepth 100000
set_option maxHeartbeats 0
set_option linter.unusedVariables false
set_option tactic.hygienic false
namespace Mine
open PySem PySem.Calls PySem.SeqAt PySem.W PyProof.Rows PySem.W.X
variable {h₀ : Heap}
section
variable {C : Cx} {n : Nat} {O : List Addr}
noncomputable def lawS4 (l : Addr) (ns : List Int) (wd : List Int) : Sto := ("wished", .val (L1 wd)) :: lawS3 l ns
noncomputable def lawS6 (l : Addr) (ns : List Int) (wd : List Int) : Sto := ("begins", .val (L1 (placesOf (rowOf wd)))) :: ("second", .val (L1 (rowOf wd))) :: lawS4 l ns wd
theorem law_st4 (T : Top C) {ns wd : List Int} {l : Addr} (f : WFacts wd) {pm : Value} {cd L : Addr} :
    Ex C (n + 2) (lawEnv pm cd L) O [] (lawS4 l ns wd) [lawSt 4, lawSt 5] (fun a b => a = [] ∧ b = lawS6 l ns wd) (fun _ => False) := by
  have ge : GE (lawEnv pm cd L) := ⟨rfl, rfl, rfl⟩
  have hl := f.len
  refine Ex.setC (d := L1 (rowOf wd)) rfl (.callF ge T.hRow.gv T.hRow.fk.obj (.cons (.name rfl) .nil) (row_spec T f.row)) ?_
  refine Ex.setC rfl (.eq (c := L1 (placesOf (rowOf wd))) (Ev.compI (ns := nums (rowOf wd).length) [("second", .val (L1 (rowOf wd)))] (fun k => decide ((rowOf wd).getD k.toNat 0 = 62)) .int (It.nums ge T.range (.lenI ge T.len (.name rfl) (by (first | lia | omega))) (by (first | lia | omega))) (.by ⟨⟨rfl, rfl, rfl⟩, trivial⟩) (fun cenv ce i hi => .one ?_) (fun cenv ce i hi _ => .name rfl) (by rw [nums_length]; (first | lia | omega))) rfl) (Ex.nil ⟨rfl, rfl⟩)
  have hi' : i ∈ nums (rowOf wd).length := hi
  unfold nums at hi'
  obtain ⟨k, hk, rfl⟩ := List.mem_map.mp hi'
  have hk := List.mem_range.mp hk
  exact .eq (.cmp (.itemN (.name rfl) (.name rfl) (Int.natCast_nonneg _) (by (first | lia | omega)) (at_L1 (Int.natCast_nonneg _) (by (first | lia | omega)))) .int .eqInt) rfl
end
section
variable {w : World} {oB : Obj} {n : Nat} {A : Around} {σ : Sto}
theorem lw6 : lawSt 6 = .Assign [.Name "found" (match lawSt 6 with | .Assign [.Name _ p] _ _ => p | _ => default)] (.Call (.Name "_law_by_brackets" (match lawSt 6 with | .Assign _ (.Call (.Name _ p) _ _ _) _ => p | _ => default)) [.Name "second" (match lawSt 6 with | .Assign _ (.Call _ [.Name _ p] _ _) _ => p | _ => default)] [] (match lawSt 6 with | .Assign _ (.Call _ _ _ p) _ => p | _ => default)) (match lawSt 6 with | .Assign _ _ p => p | _ => default) := rfl
/-- a call of _law_by_brackets, where an expression stands -/
theorem eval_brackets (hB : BOk oB) (hD : ∃ es ep, oB.data = .dict es ep) {env : Env} {xs : List Int} {x : Str} {p1 p2 p3 : Pos} {bm : Addr} {nm : Value} {s : Shared} {Q : Value → Shared → Prop} (ge : GE env) (hx1 : env.kindOf "_law_by_brackets" = some .globalImplicit)
    (g : GS (C0 w oB) (n + 4) A [] [] env σ s) (hσ : Ev (C0 w oB) (n + 4) env σ (.Name x p2) (L1 xs)) (six : SixOk xs) (hl : xs.length ≤ 12) (h2 : 2 ≤ (placesOf xs).length) (ti : TI h₀ s.heap) (gl : GlobK s.heap nm bm) (hsm : ∃ o, s.heap.get? sysModules = some o) (hd : A.depth ≤ 600) (hu : A.units ≤ 6000)
    (hQ : ∀ r s', SKT h₀ s s' → TI h₀ s'.heap → Is [] s'.heap r (L1 (comes xs)) → Q r s') : wpAny (C0 w oB).M A (eval (.Call (.Name "_law_by_brackets" p1) [.Name x p2] [] p3) env) Q NoE s := by
  refine Call_Name rfl (glob ge hx1 (dByB (w := w) (oB := oB)).gv g.g.w ?_)
  obtain ⟨oc, hoc, hdc⟩ := (dByB (w := w) (oB := oB)).fk.ob
  refine callWith_function (o := oc) (fd := (defIn (C0 w oB).K 110).fd 20) (evalArgs_plain (spliced_cons (hσ A ([] ++ []) [] s _ g.g fun v s₁ k₁ iv => spliced_nil ?_)))
  have g₁ := g.sk k₁
  refine ⟨⟨g₁.g.w.k _ _ hoc, hdc⟩, ?_⟩
  refine brackets_call hB hD g.g.a.hd hd hu g₁.g.w iv six hl h2 (ti.sk k₁) (gl.keep fun b o e => k₁.kp.keep b o e fun h => nomatch h) (k₁.kp.there tbNil hsm) fun r s' kk ti' ir => hQ r s' ((SKT.plain k₁).trans kk) ti' (by rw [← byOf_eq (show 1 ≤ (placesOf xs).length by (first | lia | omega))]; exact ir)
end
end Mine
end

section
set_option maxRecDepth 100000
set_option maxHeartbeats 0
set_option linter.unusedVariables false
set_option tactic.hygienic false
namespace Mine
open PySem PySem.Calls PySem.SeqAt PySem.W PyProof.Rows PySem.W.X
variable {h₀ : Heap}
section
variable {C : Cx} {n : Nat} {O : List Addr}
noncomputable def lawS7 (l : Addr) (ns : List Int) (wd : List Int) : Sto := ("found", .val (L1 (comes (rowOf wd)))) :: lawS6 l ns wd
noncomputable def lawS8 (l : Addr) (ns : List Int) (wd : List Int) : Sto := ("came", .val (L1 (cameOf wd))) :: lawS7 l ns wd
theorem ranks_len (ns : List Int) : (ranksOf ns).length = 4 := by
  have := (drawn_len ns).1
  unfold ranksOf
  rw [List.length_map, List.length_take]
  (first | lia | omega)
theorem law_st7 (T : Top C) {ns wd : List Int} {l : Addr} (f : WFacts wd) (hw : wd = secondOf (ranksOf ns) four) {pm : Value} {cd L : Addr} :
    Ex C (n + 5) (lawEnv pm cd L) O [] (lawS7 l ns wd) [lawSt 7, lawSt 8] (fun a b => a = [] ∧ b = lawS8 l ns wd) (fun _ => False) := by
  have ge : GE (lawEnv pm cd L) := ⟨rfl, rfl, rfl⟩
  have hl := f.len
  have h4 := f.four
  have cl : (comes (rowOf wd)).length = 4 := by rw [← (places_perm (rowOf wd)).length_eq, h4]
  have rl := ranks_len ns
  generalize hr : ranksOf ns = ranks at *
  have pl : (pairsOf ranks four).length = 4 := rfl
  refine Ex.setCompI (ns := comes (rowOf wd)) [("begins", .val (L1 (placesOf (rowOf wd))))] (fun _ => true) (fun p => .int ((placesOf (rowOf wd)).idxOf p : Nat)) (It.list (.name rfl)) (.by ⟨⟨rfl, rfl, rfl⟩, trivial⟩) (fun _ _ _ _ => .nil) (fun cenv ce p hp _ => .index (.name rfl) (.name rfl) (f.mem p hp) (by (first | lia | omega))) (by (first | lia | omega)) ?_
  rw [filter_true]
  have e1 : D.list ((comes (rowOf wd)).map fun p => D.int ((placesOf (rowOf wd)).idxOf p : Nat)) = L1 (cameOf wd) := by
    unfold cameOf
    rw [L1, List.map_map]
    rfl
  rw [e1]
  refine Ex.ifRet (b := wd != secondOf ranks four) (.cmp (.name rfl) (.eq (c := L1 (secondOf ranks four)) (Ev.compG pairD unP unP_pairD [] (fun p => [("thing", .val (.int p.2)), ("rank", .val (.int p.1))]) (fun _ => true) (fun p => .int p.2)
    (It.list (.callB ge T.sorted (.cons (.eq (c := .list ((pairsOf ranks four).map pairD)) (Ev.compI (ns := four) [("ranks", .val (L1 ranks))] (fun _ => true) (fun k => pairD (ranks.getD k.toNat 0, k)) (It.eq (It.range1 (m := 4) ge T.range .int (by decide)) rfl) (.by ⟨⟨?_, rfl, rfl⟩, trivial⟩) (fun _ _ _ _ => .nil) (fun cenv ce k hk _ => ?_) (by decide)) ?_) .nil) (Fn.sortedP ?_ (by rw [pl]; decide) (by rw [pl]; decide))))
    (.by trivial) (fun cenv ce p _ => .tup (.cons (ce.kind rfl (by decide)) (.cons (ce.kind rfl (by decide)) .nil))) (fun _ _ _ _ => .nil) (fun cenv ce p _ _ => .name rfl) ?_ (fun _ _ _ h => by cases h) (fun A I s v Q => own_tup I s v Q)) ?_) .neL1) (fun e => ?_) fun e₁ => .nil ⟨rfl, rfl⟩
  · rw [← hr]; rfl
  · have hk' : 0 ≤ k ∧ k.toNat < ranks.length := by
      simp only [List.mem_cons, List.not_mem_nil, or_false] at hk
      rcases hk with rfl | rfl | rfl | rfl <;> exact ⟨by decide, by rw [rl]; decide⟩
    exact .tup (.cons (.itemN (.name rfl) (.name rfl) hk'.1 (by (first | lia | omega)) (at_L1 hk'.1 (by (first | lia | omega)))) (.cons (.name rfl) .nil)) (by simp)
  · rw [filter_true]
    unfold pairsOf
    rw [List.map_map]
    rfl
  · intro p hp
    unfold pairsOf at hp
    obtain ⟨k, hk, rfl⟩ := List.mem_map.mp hp
    simp only [List.mem_cons, List.not_mem_nil, or_false] at hk
    have hk2 : 0 ≤ k ∧ k < 1000 := by rcases hk with rfl | rfl | rfl | rfl <;> exact ⟨by decide, by decide⟩
    exact hk2
  · rw [List.length_map]
    have : (sortedIdx (pkey (pairsOf ranks four)) (pairsOf ranks four).length).length = (pairsOf ranks four).length := by
      have := (sort_stable (key := pkey (pairsOf ranks four)) (N := (pairsOf ranks four).length) (by rw [pl]; decide)).1.length_eq
      rw [List.length_range] at this
      exact this
    rw [this, pl]; decide
  · rw [filter_true]
    unfold secondOf
    simp only [L1, List.map_map]
    rfl
  · exfalso
    rw [hw] at e
    simp at e
theorem law_st10 (T : Top C) {ns wd : List Int} {l : Addr} (f : WFacts wd) (hl : wd.length = 4) {pm : Value} {cd L : Addr} :
    Ex C (n + 2) (lawEnv pm cd L) O [] (lawS8 l ns wd) [lawSt 10, lawSt 11] (fun _ _ => False) (· = .bool true) := by
  have ge : GE (lawEnv pm cd L) := ⟨rfl, rfl, rfl⟩
  have cl := f.clen
  refine Ex.ifRet (b := crossedB (cameOf wd)) (.plain (.callF ge T.hCrossed.gv T.hCrossed.fk.obj (.cons (.name rfl) .nil) (crossed_spec T (by (first | lia | omega)) f.cc))) (fun e => ?_) fun e => ?_
  · rw [f.came] at e; cases e
  · refine Ex.ret (d := .bool ((cameOf wd == wd) == !crossedB wd)) (.cmp (.cmp (.name rfl) (.name rfl) .eqL1) (.notB (.callF ge T.hCrossed.gv T.hCrossed.fk.obj (.cons (.name rfl) .nil) (crossed_spec T (by (first | lia | omega)) f.cl))) .eqBool) ?_
    rw [f.law]
    simp
end
section
variable {w : World} {oB : Obj} {n : Nat} {A : Around} {σ : Sto}
theorem law_found (hB : BOk oB) (hD : ∃ es ep, oB.data = .dict es ep) {xs : List Int} {pm : Value} {L bm : Addr} {nm : Value} {s₀ s : Shared} {Q : Flow → Shared → Prop} {rest : List Stmt}
    (g : GS (C0 w oB) (n + 4) A [] [] (lawEnv pm 140 L) σ s) (hσr : σ.lookup ("second" : Str) = some (.val (L1 xs))) (six : SixOk xs) (hl : xs.length ≤ 12) (h2 : 2 ≤ (placesOf xs).length) (ti : TI h₀ s.heap) (gl : GlobK s.heap nm bm) (hsm : ∃ o, s.heap.get? sysModules = some o) (hd : A.depth ≤ 600) (hu : A.units ≤ 6000)
    (k₀ : SKT h₀ s₀ s) (new : ∀ b ∈ Mu (lawEnv pm 140 L) [], s₀.heap.get? b = none)
    (k : ∀ s', SKT h₀ s₀ s' → TI h₀ s'.heap → GS (C0 w oB) (n + 4) A [] [] (lawEnv pm 140 L) (("found", .val (L1 (comes xs))) :: σ) s' → wpAny (C0 w oB).M A (execs rest (lawEnv pm 140 L)) Q NoE s') :
    wpAny (C0 w oB).M A (execs (lawSt 6 :: rest) (lawEnv pm 140 L)) Q NoE s := by
  rw [lw6]
  refine wpAny_execs_cons (wpAny_Assign_Name ?_ rfl)
  refine eval_brackets hB hD (env := lawEnv pm 140 L) ⟨rfl, rfl, rfl⟩ rfl g (.name hσr) six hl h2 ti gl hsm hd hu fun r s' kk ti' ir => ?_
  have g' := g.growT hD kk
  refine storeL (en := .val (L1 (comes xs))) g'.g.r g'.g.w.tb (by kernel_rfl) ir fun h' tk ks r => ?_
  have ss : SS (C0 w oB) (lawEnv pm 140 L) [] s' { s' with heap := h', toks := tk } := ss_store g'.g.w.tb ks Mu.loc (r.ok.ns.elim fun m ⟨o, es, ep, e, _⟩ => ⟨o, e⟩)
  exact k _ ((k₀.trans kk).more ss new) (ti'.ss rfl g' ss) (g'.ss ss r .refl)
end
end Mine
end

section
set_option maxRecDepth 100000
set_option maxHeartbeats 0
set_option linter.unusedVariables false
set_option tactic.hygienic false
namespace Mine
open PySem PySem.Calls PySem.SeqAt PySem.W PyProof.Rows PySem.W.X
variable {h₀ : Heap}
noncomputable def t9 : Expr := match lawSt 9 with | .If t _ _ _ => t | _ => default
noncomputable def t9a : Expr := match t9 with | .BoolOp _ (.UnaryOp _ e _ :: _) _ => e | _ => default
noncomputable def t9b : Expr := match t9 with | .BoolOp _ [_, e] _ => e | _ => default
theorem lw9 : lawSt 9 = .If (.BoolOp .Or [.UnaryOp .Not (.Call (.Name "_law_right" (match t9a with | .Call (.Name _ p) _ _ _ => p | _ => default)) [.Name "sixes" (match t9a with | .Call _ (.Name _ p :: _) _ _ => p | _ => default), .Call (.Name "_law_by_brackets" (match t9a with | .Call _ [_, .Call (.Name _ p) _ _ _] _ _ => p | _ => default)) [.Name "sixes" (match t9a with | .Call _ [_, .Call _ [.Name _ p] _ _] _ _ => p | _ => default)] [] (match t9a with | .Call _ [_, .Call _ _ _ p] _ _ => p | _ => default)] [] (match t9a with | .Call _ _ _ p => p | _ => default)) (match t9 with | .BoolOp _ (.UnaryOp _ _ p :: _) _ => p | _ => default), t9b] (match t9 with | .BoolOp _ _ p => p | _ => default)) (match lawSt 9 with | .If _ b _ _ => b | _ => default) [] (match lawSt 9 with | .If _ _ _ p => p | _ => default) := rfl
section
variable {w : World} {oB : Obj} {n : Nat} {A : Around}
theorem law_st9 (hB : BOk oB) (hD : ∃ es ep, oB.data = .dict es ep) (hM : MissOk (topC (w := w) hB)) {ns wd : List Int} {l : Addr} (f : WFacts wd) {pm : Value} {L bm : Addr} {nm : Value} {s₀ s : Shared} {Q : Flow → Shared → Prop} {rest : List Stmt}
    (g : GS (C0 w oB) (n + 7) A [] [] (lawEnv pm 140 L) (lawS8 l ns wd) s) (ti : TI h₀ s.heap) (gl : GlobK s.heap nm bm) (hsm : ∃ o, s.heap.get? sysModules = some o) (hd : A.depth ≤ 600) (hu : A.units ≤ 6000)
    (k₀ : SKT h₀ s₀ s)
    (k : ∀ s', SKT h₀ s₀ s' → TI h₀ s'.heap → GS (C0 w oB) (n + 7) A [] [] (lawEnv pm 140 L) (lawS8 l ns wd) s' → wpAny (C0 w oB).M A (execs rest (lawEnv pm 140 L)) Q NoE s') :
    wpAny (C0 w oB).M A (execs (lawSt 9 :: rest) (lawEnv pm 140 L)) Q NoE s := by
  have ge : GE (lawEnv pm 140 L) := ⟨rfl, rfl, rfl⟩
  have sl := sixes_len ns
  have cl : (comes (sixesOf ns)).length ≤ 12 := by
    rw [← (places_perm (sixesOf ns)).length_eq]
    unfold placesOf
    exact Nat.le_trans (List.length_filter_le _ _) (by rw [nums_length]; exact sl)
  have cr : (comes (rowOf wd)).length = 4 := by rw [← (places_perm (rowOf wd)).length_eq, f.four]
  rw [lw9]
  refine wpAny_execs_cons (wpAny_If (wpAny_isTrue_BoolOp ?_))
  rw [allTrue_cons]
  refine wpAny_bind (wpAny_isTrue_Not ?_)
  refine wpAny_bind ?_
  refine Call_Name rfl (glob ge rfl (dRight (w := w) (oB := oB)).gv g.g.w ?_)
  obtain ⟨oc, hoc, hdc⟩ := (dRight (w := w) (oB := oB)).fk.ob
  refine callWith_function (o := oc) (fd := (defIn (C0 w oB).K 124).fd 22) (evalArgs_plain (spliced_cons ?_))
  refine (Ev.name (n := n + 7) (σ := lawS8 l ns wd) (d := L1 (sixesOf ns)) rfl) A ([] ++ []) [] s _ g.g fun v₁ s₁ k₁ i₁ => spliced_cons ?_
  have g₁ := g.sk k₁
  have ti₁ := ti.sk k₁
  refine eval_brackets (n := n + 3) hB hD (env := lawEnv pm 140 L) ge rfl g₁ (.name rfl) (six_ok ns) sl (two_places ns) ti₁ (gl.keep fun b o e => k₁.kp.keep b o e fun h => nomatch h) (k₁.kp.there tbNil hsm) hd hu fun r s₂ kk ti₂ ir => spliced_nil ?_
  have g₂ := g₁.growT hD kk
  refine ⟨⟨g₂.g.w.k _ _ hoc, hdc⟩, ?_⟩
  have i₁' : Is [] s₂.heap v₁ (L1 (sixesOf ns)) := by
    obtain ⟨T', t', _, k'⟩ := kk
    exact Is.kp k'.kp t' i₁
  refine right_spec (n := n) (topC hB) hM (six_ok ns) (by (first | lia | omega)) (by (first | lia | omega)) A [] s₂ [v₁, r] _ (g₂.g.a.mono (by (first | lia | omega))) g₂.g.w (fun _ h => nomatch h) (.cons i₁' (.cons ir .nil)) fun v s₃ k₃ i₃ => ?_
  rw [right_true (six_ok ns)] at i₃
  cases i₃
  refine wpAny_bind (wpAny_standAt (wpAny_holding (wpAny_truthy_bool ?_)))
  have g₃ := g₂.sk k₃
  have rt := right_true f.six
  have T2 : TrAll (C0 w oB) (n + 7) (lawEnv pm 140 L) (lawS8 l ns wd) .Or [t9b] (!rightB (rowOf wd) (comes (rowOf wd)) || (BoolOp.Or == .And)) :=
    .or (.not (.plain (.callF ge (topC hB).hRight.gv (topC hB).hRight.fk.obj (.cons (.name rfl) (.cons (.name rfl) .nil)) (right_spec (n := n + 1) (topC hB) hM f.six (by have := f.len; (first | lia | omega)) (by (first | lia | omega)))))) fun _ => .nil
  rw [rt] at T2
  show wpAny _ _ (allTrue .Or [t9b] (lawEnv pm 140 L)) _ _ _
  refine T2 A ([] ++ []) [] s₃ _ g₃.g fun s₄ k₄ => ?_
  have ts : SKT h₀ s s₄ := (SKT.plain k₁).trans (kk.trans ((SKT.plain k₃).trans (.plain k₄)))
  exact wpAny_execs_nil (k s₄ (k₀.trans ts) ((ti₂.sk k₃).sk k₄) (g₃.sk k₄))
end
end Mine
end

section
set_option maxRecDepth 100000
set_option maxHeartbeats 0
set_option linter.unusedVariables false
set_option tactic.hygienic false
namespace Mine
open PySem PySem.Calls PySem.SeqAt PySem.W PyProof.Rows
/-- more objects known -/
noncomputable abbrev Cx.add (C : Cx) (X : Frag) : Cx := ⟨C.prog, C.w, C.K ++ X, C.TB⟩
section
variable {C : Cx} {X : Frag}
theorem look_add {a : Addr} {o : Obj} (h : C.K.lookup a = some o) : (C.add X).K.lookup a = some o := by
  show List.lookup a (C.K ++ X) = some o
  rw [List.lookup_append, h]; rfl
theorem wd_add {h : Heap} (w : Wd (C.add X).K C.TB h) : Wd C.K C.TB h :=
  ⟨fun a o e => w.k a o (look_add e), w.tb, fun b hb => by
    cases q : C.K.lookup b with
    | none => rfl
    | some o => rw [← w.ap b hb]; exact (look_add q).symm⟩
theorem GV.up {f : Str} {v : Value} (x : GV C f v) : GV (C.add X) f v := fun env A Q E s hg hb w q => x env A Q E s hg hb (wd_add w) q
theorem FnK.up {a : Addr} {fd : FuncData} (x : FnK C a fd) : FnK (C.add X) a fd :=
  ⟨let ⟨o, e, d⟩ := x.ob; ⟨o, look_add e, d⟩, let ⟨c, o, vs, t, e, ec, r⟩ := x.code; ⟨c, o, vs, t, e, look_add ec, r⟩⟩
theorem DefAt.up {x : Str} {i : Nat} {d : DefA} {df kw : Value} (h : DefAt C x i d df kw) : DefAt (C.add X) x i d df kw := ⟨h.gv.up, h.fk.up⟩
noncomputable def Top.up (T : Top C) : Top (C.add X) where
  st := look_add T.st
  len := T.len.up
  range := T.range.up
  sorted := T.sorted.up
  chr := T.chr.up
  bytes := T.bytes.up
  bytearray := T.bytearray.up
  bool := T.bool.up
  type := T.type.up
  iter := T.iter.up
  enumerate := T.enumerate.up
  b64t := T.b64t
  b64v := T.b64v.up
  esc := T.esc
  hEsc := T.hEsc.up
  strip := T.strip
  hStrip := T.hStrip.up
  check := T.check
  hCheck := T.hCheck.up
  buffer := T.buffer
  hBuffer := T.hBuffer.up
  truth := T.truth
  hTruth := T.hTruth.up
  b2a := T.b2a
  kB2a := T.kB2a
  hB2a := T.hB2a.up
  b64 := T.b64
  dB64 := T.dB64
  hB64 := T.hB64.up
  tB64 := let ⟨o, m, e, d⟩ := T.tB64; ⟨o, m, look_add e, d⟩
  c2k := T.c2k
  hC2k := T.hC2k.up
  red := T.red
  dRed := T.dRed
  hRed := T.hRed.up
  miss := T.miss
  tRed := let ⟨o, m, e, d⟩ := T.tRed; ⟨o, m, look_add e, d⟩
  vMiss := T.vMiss.up
  max := T.max.up
  text := T.text
  hText := T.hText.up
  closed := T.closed
  hClosed := T.hClosed.up
  ahead := T.ahead
  hAhead := T.hAhead.up
  byB := T.byB
  hByB := T.hByB.up
  deed := T.deed
  hDeed := T.hDeed.up
  right := T.right
  hRight := T.hRight.up
  row := T.row
  hRow := T.hRow.up
  crossed := T.crossed
  hCrossed := T.hCrossed.up
theorem mem_of_look {a : Addr} {o : Obj} : ∀ {X : Frag}, X.lookup a = some o → (a, o) ∈ X
  | (b, p) :: r, h => by
    by_cases q : a = b
    · subst q; rw [List.lookup_cons_self] at h; cases h; exact List.mem_cons_self
    · rw [List.lookup_cons, show (a == b) = false from by simpa using q] at h
      exact List.mem_cons_of_mem _ (mem_of_look h)
theorem look_of_mem {a : Addr} {o : Obj} {h : Heap} : ∀ {X : Frag}, (∀ p ∈ X, h.get? p.1 = some p.2) → (a, o) ∈ X → X.lookup a = some o
  | (b, p) :: r, hX, hm => by
    by_cases q : a = b
    · subst q
      rw [List.lookup_cons_self]
      have e1 := hX _ hm
      have e2 := hX _ (List.mem_cons_self (a := (a, p)) (l := r))
      dsimp only at e1 e2
      rw [e1] at e2; exact e2.symm
    · rw [List.lookup_cons, show (a == b) = false from by simpa using q]
      rcases List.mem_cons.mp hm with hm | hm
      · cases hm; exact absurd rfl q
      · exact look_of_mem (fun p hp => hX p (List.mem_cons_of_mem _ hp)) hm
/-- what stands may be known -/
theorem wd_more {h : Heap} (hT : C.TB = []) (w : Wd C.K C.TB h) (hX : ∀ p ∈ X, h.get? p.1 = some p.2) : Wd (C.add X).K (C.add X).TB h ∧ ∀ p ∈ X, (C.add X).K.lookup p.1 = some p.2 := by
  refine ⟨⟨fun a o e => ?_, w.tb, fun b hb => by rw [show (C.add X).TB = [] from hT] at hb; cases hb⟩, fun p hp => ?_⟩
  · have e' : (C.K.lookup a).or (X.lookup a) = some o := by rw [← List.lookup_append]; exact e
    cases q : C.K.lookup a with
    | some o' => rw [q] at e'; cases e'; exact w.k a o q
    | none =>
      rw [q] at e'
      exact hX _ (mem_of_look e')
  · show List.lookup p.1 (C.K ++ X) = some p.2
    rw [List.lookup_append, look_of_mem hX hp]
    cases q : C.K.lookup p.1 with
    | none => rfl
    | some o' =>
      have e1 := w.k _ _ q
      rw [hX p hp] at e1
      cases e1; rfl
end
end Mine
end

section
set_option maxRecDepth 100000
set_option maxHeartbeats 0
set_option linter.unusedVariables false
namespace Mine
open PySem PySem.Calls PySem.SeqAt PySem.W PyProof.Rows PySem.W.X
variable {h₀ : Heap}
theorem law_body : bodyOf PB 25 = [lawSt 0, lawSt 1, lawSt 2] ++ (lawSt 3 :: ([lawSt 4, lawSt 5] ++ (lawSt 6 :: ([lawSt 7, lawSt 8] ++ (lawSt 9 :: [lawSt 10, lawSt 11]))))) := rfl
section
variable {w : World} {oB : Obj} {A : Around}
theorem missOk (hB : BOk oB) : MissOk (topC (w := w) hB) := ⟨obIn (C0 w oB).K (missIn (C0 w oB).K), by kernel_rfl, by show Value.type "object" ≠ Value.type "list"; decide, by show Value.type "object" ≠ Value.type "tuple"; decide⟩
theorem law_walk (hB : BOk oB) (hD : ∃ es ep, oB.data = .dict es ep) {s : Shared} {l : Addr} {vs : List Value} {ns : List Int} {nm : Value} {bm : Addr} {Q : Value → Shared → Prop} (hK : (C0 w oB).K.In s.heap) (ti : TI h₀ s.heap) (gl : GlobK s.heap nm bm) (hsm : ∃ o, s.heap.get? sysModules = some o)
    (hl : s.heap.IsList l vs.toArray) (hi : IntsAre vs ns) (hz : ns.length ≤ 63) (hh : A.handled = none) (hd : A.depth ≤ 500) (hu : A.units ≤ 5000) (hq : ∀ s', SKT h₀ s s' → Q (.bool true) s') : wpAny (C0 w oB).M A (call (.ref 141) [.ref l]) Q NoE s := by
  have rl := ranks_len ns
  have wp := wish_perm (ranksOf ns)
  have f := wfacts wp
  have w4 : (orderOf (ranksOf ns) four).length = 4 := wp.length_eq
  have hw2 : orderOf (ranksOf ns) four = secondOf (ranksOf ns) four := order_second (by decide) (by decide) (by decide)
  have w₀ : Wd (C0 w oB).K (C0 w oB).TB s.heap := ⟨hK, fun _ h => (nomatch h), fun _ h => (nomatch h)⟩
  obtain ⟨ol, hol, hcl, m, hdl⟩ := hl
  have hvl : vs.length = ns.length := (IsAll.ofInts (O := []) (h := s.heap) hi).length.trans (List.length_map ..)
  refine call_raw (n := 12) (O := []) (σ := lawS0 l) (binds := [("script", .ref l)]) (body := bodyOf PB 25) (fd := (defIn (C0 w oB).K 141).fd 25) noLoc ⟨hh, by omega, by omega⟩ w₀ (fun _ h => nomatch h) ((dLaw (w := w) (oB := oB)).fk.at w₀) (.of_eq (by kernel_rfl)) (.cons (e := .raw _) rfl .nil) rfl rfl (by simp) ?_ (nodupB_eq rfl) fun s₁ keep hos hgs new g => ?_
  · intro x hx
    rw [List.mem_singleton] at hx
    subst hx
    exact .inl (by kernel_rfl)
  have k₁ : SKT h₀ s s₁ := .plain ⟨.of keep, hos, #[], by rw [hgs]; simp, .empty⟩
  rw [law_body]
  obtain ⟨wX, hX⟩ := wd_more (C := C0 w oB) (X := [(l, ol)]) rfl g.g.w (fun p hp => by rw [List.mem_singleton] at hp; subst hp; exact keep _ _ hol)
  have g' : GS ((C0 w oB).add [(l, ol)]) 12 (A.deeper (lawEnv (defIn (C0 w oB).K 141).pm 140 s.heap.objs.size)) [] [] (lawEnv (defIn (C0 w oB).K 141).pm 140 s.heap.objs.size) (lawS0 l) s₁ := ⟨⟨g.g.a, wX, g.g.r⟩, fun b hb => by
    show List.lookup b ((C0 w oB).K ++ [(l, ol)]) = none
    rw [List.lookup_append, show List.lookup b (C0 w oB).K = none from g.f b hb]
    have hne : b ≠ l := fun q => by have := new b hb; rw [q, hol] at this; cases this
    show List.lookup b [(l, ol)] = none
    rw [List.lookup_cons, show (b == l) = false from by simpa using hne]
    rfl, g.ap, g.nd⟩
  refine Ex.goOn (C := (C0 w oB).add [(l, ol)]) (law_st0 (topC (w := w) hB).up (hX _ List.mem_cons_self) hcl hdl hi (by omega) hz) g' fun s₂ ss₂' _ g₂' => ?_
  have ss₂ : SS (C0 w oB) (lawEnv (defIn (C0 w oB).K 141).pm 140 s.heap.objs.size) [] s₁ s₂ := ⟨ss₂'.ks, ss₂'.os, ss₂'.gens, ss₂'.there⟩
  have g₂ : GS (C0 w oB) 12 (A.deeper (lawEnv (defIn (C0 w oB).K 141).pm 140 s.heap.objs.size)) [] [] (lawEnv (defIn (C0 w oB).K 141).pm 140 s.heap.objs.size) (lawS3 l ns) s₂ := ⟨⟨g₂'.g.a, wd_add g₂'.g.w, g₂'.g.r⟩, fun b hb => (by
    have := g₂'.f b hb
    cases q : (C0 w oB).K.lookup b with
    | none => rfl
    | some o => rw [look_add q] at this; cases this), g₂'.ap, g₂'.nd⟩
  show wpAny (C0 w oB).M _ _ _ _ _
  have k₂ : SKT h₀ s s₂ := k₁.more ss₂ new
  have ti₂ : TI h₀ s₂.heap := (ti.keep keep).ss rfl g ss₂
  have dd : (A.deeper (lawEnv (defIn (C0 w oB).K 141).pm 140 s.heap.objs.size)).depth ≤ 600 := by show A.depth + 1 ≤ 600; omega
  have du : (A.deeper (lawEnv (defIn (C0 w oB).K 141).pm 140 s.heap.objs.size)).units ≤ 6000 := by show A.units + 3 ≤ 6000; omega
  refine law_wished (n := 8) hB hD g₂ rfl ti₂ (gl.skt k₂) (k₂.there hsm) (Nat.le_trans dd (by decide)) (Nat.le_trans du (by decide)) rl k₂ new fun s₃ k₃ ti₃ g₃ => ?_
  generalize hwd : orderOf (ranksOf ns) four = wd at *
  refine Ex.goOn (C := C0 w oB) (law_st4 (n := 10) (l := l) (ns := ns) (topC (w := w) hB) f) g₃ fun s₄ ss₄ _ g₄ => ?_
  have k₄ := k₃.more ss₄ new
  have ti₄ : TI h₀ s₄.heap := ti₃.ss rfl g₃ ss₄
  refine law_found (n := 8) hB hD g₄ rfl f.six f.len (by rw [f.four]; decide) ti₄ (gl.skt k₄) (k₄.there hsm) dd du k₄ new fun s₅ k₅ ti₅ g₅ => ?_
  refine Ex.goOn (C := C0 w oB) (law_st7 (n := 7) (l := l) (ns := ns) (topC (w := w) hB) f hw2) g₅ fun s₆ ss₆ _ g₆ => ?_
  have k₆ := k₅.more ss₆ new
  have ti₆ : TI h₀ s₆.heap := ti₅.ss rfl g₅ ss₆
  refine law_st9 (n := 5) hB hD (missOk hB) f g₆ ti₆ (gl.skt k₆) (k₆.there hsm) dd du k₆ fun s₇ k₇ ti₇ g₇ => ?_
  refine (law_st10 (n := 10) (l := l) (ns := ns) (topC (w := w) hB) f w4) _ s₇ _ g₇ (fun _ _ _ z => z.elim) fun d v s₈ hR ss₈ iv => ?_
  subst hR
  cases iv
  exact hq _ (k₇.more ss₈ new)
end
end Mine
end

section
set_option maxRecDepth 100000
set_option maxHeartbeats 0
set_option linter.unusedVariables false
set_option tactic.hygienic false
namespace Mine
open PySem PySem.Calls PySem.SeqAt PySem.W PyProof.Rows PySem.W.X
noncomputable def nmIn (K : Frag) : Value := match (obIn K mainGlobals).data with
  | .dict es _ => (nsFind es "__name__").getD .none
  | _ => .none
theorem oldK_of {s s' : Shared} (k : SKT s.heap s s') (a : TabIs s.heap 78 74 #[]) (b : TabIs s.heap 109 107 #[]) (c' : TabIs s.heap 140 138 #[]) : OldK s.heap s'.heap := by
  obtain ⟨T, tb, cond, k⟩ := k
  refine ⟨fun c o e => ?_, fun c o e => k.kp.there tb ⟨o, e⟩⟩
  by_cases hc : c ∈ T
  · rcases cond c hc with h3 | h3
    · simp only [List.mem_cons, List.not_mem_nil, or_false] at h3
      rcases h3 with rfl | rfl | rfl
      · obtain ⟨more, e'⟩ := k.kp.tab 74 hc _ a.tab.2
        rw [a.tab.2] at e; cases e
        exact .inr (.inl ⟨a.tab.isCodeTable, rfl, #[], more, rfl, e'⟩)
      · obtain ⟨more, e'⟩ := k.kp.tab 107 hc _ b.tab.2
        rw [b.tab.2] at e; cases e
        exact .inr (.inl ⟨b.tab.isCodeTable, rfl, #[], more, rfl, e'⟩)
      · obtain ⟨more, e'⟩ := k.kp.tab 138 hc _ c'.tab.2
        rw [c'.tab.2] at e; cases e
        exact .inr (.inl ⟨c'.tab.isCodeTable, rfl, #[], more, rfl, e'⟩)
    · rw [h3] at e; cases e
  · exact .inl (k.kp.keep c o e hc)
theorem glue {w : World} {p : Program} {loose : List Str} {mean : ExcName → Option Value} {mg mb : Str → Option Value} {s : Shared} {l : Addr} {vs : List Value} {ns : List Int} {Q : Value → Shared → Prop} (T : PyProof.Rows.Top p loose mean mg mb s.heap) (hp : importsNone p = true)
    (KX : (KK w.params).In s.heap) (KT : ∀ P ∈ [107, 74, 138], s.heap.get? P = some (tabObj #[])) (hl : s.heap.IsList l vs.toArray) (hi : IntsAre vs ns) (hz : ns.length ≤ 63)
    (hq : ∀ s', OldK s.heap s'.heap → s'.os = s.os → (∃ more, s'.gens = s.gens ++ more ∧ AllBare more) → Q (.bool true) s') : wpAny (model PySem.Challenge.pw_om0015_02 w) callerA (call (.ref 141) [.ref l]) Q NoE s := by
  obtain ⟨oB, esB, epB, eB, dB, kB, fB⟩ := T.b
  have hB : BOk oB := fun x v hx hv => look_of dB kB ((fB x).trans ((T.builtins x hx).trans hv))
  have hK : (C0 w oB).K.In s.heap := fun a o e => by
    have e' : ((KK w.params).lookup a).or (List.lookup a [(builtinsNs, oB)]) = some o := by rw [← List.lookup_append]; exact e
    cases q : (KK w.params).lookup a with
    | some o' => rw [q] at e'; cases e'; exact KX a o q
    | none =>
      rw [q] at e'
      have := mem_of_look (X := [(builtinsNs, oB)]) e'
      rw [List.mem_singleton] at this
      cases this; exact eB
  have h78 := codeHd_of_K (c := 78) (P := 74) KX (by kernel_rfl)
  have h109 := codeHd_of_K (c := 109) (P := 107) KX (by kernel_rfl)
  have h140 := codeHd_of_K (c := 140) (P := 138) KX (by kernel_rfl)
  have t78 : TabIs s.heap 78 74 #[] := ⟨h78.code (KT 74 (by simp)) trivial, h78.tab (KT 74 (by simp))⟩
  have tB : TabIs s.heap 109 107 #[] := ⟨h109.code (KT 107 (by simp)) trivial, h109.tab (KT 107 (by simp))⟩
  have tL : TabIs s.heap 140 138 #[] := ⟨h140.code (KT 138 (by simp)) trivial, h140.tab (KT 138 (by simp))⟩
  have ti : TI s.heap s.heap := ⟨fun b o e => ⟨o, e⟩, ⟨#[], t78, .inl rfl⟩, ⟨#[], tB, fun p hp => .inl rfl⟩, ⟨#[], tL, fun p hp => .inl rfl⟩⟩
  obtain ⟨bm, ob, b1, b2, b3, b4, b5, b6⟩ := T.bmain
  have gl : GlobK s.heap (nmIn (C0 w oB).K) bm := by
    obtain ⟨oG, es, ep, eG, dG, kG, fG⟩ := T.g
    have eK : s.heap.get? mainGlobals = some (obIn (C0 w oB).K mainGlobals) := hK mainGlobals _ (by kernel_rfl)
    have hn : nsLook "__name__" (obIn (C0 w oB).K mainGlobals) = pure (some (nmIn (C0 w oB).K)) := by kernel_rfl
    rw [eG] at eK
    rw [← Option.some.inj eK] at hn
    obtain ⟨c, dd, dt, sl⟩ := oG
    dsimp only at dG
    subst dG
    refine ⟨⟨es, ep, c, dd, sl, eG, hn, look_of rfl kG ((fG _).trans b1)⟩, ?_, by simpa using b2⟩
    obtain ⟨c, d, dt, sl⟩ := ob
    dsimp only at b4 b5 b6
    subst b4 b5 b6
    exact ⟨sl, b3⟩
  have hsm : ∃ o, s.heap.get? sysModules = some o := by
    obtain ⟨mm, ⟨o, _, _, e, _⟩, _⟩ := (T.seer hp).mods
    exact ⟨o, e⟩
  refine law_walk (w := w) (oB := oB) (h₀ := s.heap) hB ⟨_, _, dB⟩ hK ti gl hsm hl hi hz rfl (by decide) (by decide) fun s' k => ?_
  exact hq s' (oldK_of k t78 tB tL) (by obtain ⟨_, _, _, k⟩ := k; exact k.os) (by obtain ⟨_, _, _, k⟩ := k; exact k.gens)
end Mine
end

set_option maxRecDepth 100000
set_option maxHeartbeats 0
open PySem PySem.W PyProof.Rows PySem.W.X
theorem PySem.Challenge.cw_om0015_02_holds : PySem.Challenge.rw_om0015_02.Holds := by
  refine Mine.hd ?_
  k_fill
  intro w s₀ s₁ mg mb G Y fa o pm cd doc dV kV ho hd hcd hD hmg hg args vals as hpre hlay hrd hwl hlo
  have KX := km_in_of Y
  have KT := km_tabs_of Y
  have X := (Ground.X G).1
  have V := (Ground.X G).2
  refine Ground.open G ?_
  intro T B D TE TW
  wrow_args hpre hlay hrd hwl hlo
  all_goals (x_fa T KX hmg; (try all_lens))
  refine wpAny_mono (Mine.glue (Q := fun v s' => ∃ q : v = .bool true, OldK s₁.heap s'.heap ∧ s'.os = s₁.os ∧ (∃ more, s'.gens = s₁.gens ++ more ∧ AllBare more)) T rfl KX KT (by assumption) (by assumption) (by omega) fun s' k1 k2 k3 => ⟨rfl, k1, k2, k3⟩) (fun v s' hq => ?_) fun _ _ e => e.elim
  obtain ⟨rfl, k1, k2, more, k3, k4⟩ := hq
  refine ⟨.inl ⟨_, .bool true, [], rfl, fun _ => rfl, ReadsW.bool true, ?_, fun _ => ⟨List.nodup_nil, fun _ hm => (nomatch hm)⟩⟩, k1, k2, ?_⟩
  · first | rfl | wrow_post
  · rw [k3, hg]
    simpa using k4

