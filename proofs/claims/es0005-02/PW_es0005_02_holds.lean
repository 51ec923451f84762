import PyProof.Rows.All
import Wide.All
import OpenK.AllK
import Wide.FinOn
import Lean
import PySem.Challenge.RW_es0005_02
open PySem PySem.W PyProof.Rows PySem.Calls
set_option Elab.async false
set_option linter.unusedVariables false
set_option linter.unusedSimpArgs false
namespace Mine
set_option maxRecDepth 100000 in
set_option maxHeartbeats 8000000 in
open_top hd for PySem.Challenge.rw_es0005_02
end Mine
namespace Mine

/-- a value, its identity forgotten -/
inductive V where
  | none
  | bool (b : Bool)
  | int (i : Int)
  | str (x : Str)
  | ref (a : Addr)

inductive VR : V → Value → Prop
  | none : VR .none .none
  | bool (b : Bool) : VR (.bool b) (.bool b)
  | int (i : Int) (t : Tok) : VR (.int i) (.int i t)
  | str (x : Str) (t : Tok) : VR (.str x) (.str x t)
  | ref (a : Addr) : VR (.ref a) (.ref a)

inductive VRs : List V → List Value → Prop
  | nil : VRs [] []
  | cons {v rv vs rvs} : VR v rv → VRs vs rvs → VRs (v :: vs) (rv :: rvs)

theorem VRs.length : ∀ {vs : List V} {rs : List Value}, VRs vs rs → rs.length = vs.length
  | _, _, .nil => rfl
  | _, _, .cons _ h => by simp [h.length]
theorem VRs.get : ∀ {vs : List V} {rs : List Value}, VRs vs rs → ∀ {i : Nat} {v : V}, vs[i]? = some v → ∃ r, rs[i]? = some r ∧ VR v r
  | _, _, .nil, i, v, h => by simp at h
  | _, _, .cons h1 h2, 0, v, h => by simp at h; subst h; exact ⟨_, rfl, h1⟩
  | _, _, .cons h1 h2, i + 1, v, h => by
    simp only [List.getElem?_cons_succ] at h ⊢
    exact h2.get h
theorem VRs.get' : ∀ {vs : List V} {rs : List Value}, VRs vs rs → ∀ {i : Nat} {r : Value}, rs[i]? = some r → ∃ v, vs[i]? = some v ∧ VR v r
  | _, _, .nil, i, v, h => by simp at h
  | _, _, .cons h1 h2, 0, v, h => by simp at h; subst h; exact ⟨_, rfl, h1⟩
  | _, _, .cons h1 h2, i + 1, v, h => by
    simp only [List.getElem?_cons_succ] at h ⊢
    exact h2.get' h
theorem VRs.append : ∀ {vs ws : List V} {rs ts : List Value}, VRs vs rs → VRs ws ts → VRs (vs ++ ws) (rs ++ ts)
  | _, _, _, _, .nil, h => h
  | _, _, _, _, .cons h1 h2, h => .cons h1 (h2.append h)
theorem VRs.take : ∀ {vs : List V} {rs : List Value} (n : Nat), VRs vs rs → VRs (vs.take n) (rs.take n)
  | _, _, 0, _ => by simpa using VRs.nil
  | _, _, n + 1, .nil => by simpa using VRs.nil
  | _, _, n + 1, .cons h1 h2 => by simpa using VRs.cons h1 (h2.take n)
theorem VRs.drop : ∀ {vs : List V} {rs : List Value} (n : Nat), VRs vs rs → VRs (vs.drop n) (rs.drop n)
  | _, _, 0, h => by simpa using h
  | _, _, n + 1, .nil => by simpa using VRs.nil
  | _, _, n + 1, .cons h1 h2 => by simpa using h2.drop n
theorem VRs.set : ∀ {vs : List V} {rs : List Value} (n : Nat) {v : V} {r : Value}, VRs vs rs → VR v r → VRs (vs.set n v) (rs.set n r)
  | _, _, _, _, _, .nil, _ => by simpa using VRs.nil
  | _, _, 0, _, _, .cons h1 h2, h => by simpa using VRs.cons h h2
  | _, _, n + 1, _, _, .cons h1 h2, h => by simpa using VRs.cons h1 (h2.set n h)

inductive PRs : List (Str × V) → List (Str × Value) → Prop
  | nil : PRs [] []
  | cons {k v rv vs rvs} : VR v rv → PRs vs rvs → PRs ((k, v) :: vs) ((k, rv) :: rvs)

/-- the fields of an object -/
inductive ERs : List (Str × V) → List DictEntry → Prop
  | nil : ERs [] []
  | cons {k : Str} {t : Tok} {v : V} {rv : Value} {hs : Int} {vs : List (Str × V)} {es : List DictEntry} : VR v rv → ERs vs es → ERs ((k, v) :: vs) (⟨hs, .str k t, rv⟩ :: es)

def pget (es : List (Str × V)) (k : Str) : Option V :=
  match es with
  | [] => Option.none
  | (x, v) :: r => if x = k then some v else pget r k
def pput (es : List (Str × V)) (k : Str) (v : V) : List (Str × V) :=
  match es with
  | [] => [(k, v)]
  | (x, u) :: r => if x = k then (x, v) :: r else (x, u) :: pput r k v

abbrev BKey := Str × Int × Bool

/-- an abstract object -/
inductive MO where
  | list (xs : List V)
  | ro (xs : List V)
  | tup (xs : List V)
  | dict (es : List (Str × V))
  | inst (C : Addr) (fs : List (Str × V))
  | bots (es : List (BKey × V))
  | tab (c : Addr) (l k : Int)

abbrev AH := Addr → Option MO
def AH.set (H : AH) (a : Addr) (o : MO) : AH := fun x => if x = a then some o else H x
def AH.del (H : AH) (a : Addr) : AH := fun x => if x = a then Option.none else H x
@[simp] theorem AH.set_self (H : AH) (a : Addr) (o : MO) : H.set a o a = some o := by simp [AH.set]
theorem AH.set_ne (H : AH) {a b : Addr} (o : MO) (h : b ≠ a) : H.set a o b = H b := by simp [AH.set, h]
@[simp] theorem AH.del_self (H : AH) (a : Addr) : H.del a a = Option.none := by simp [AH.del]
theorem AH.del_ne (H : AH) {a b : Addr} (h : b ≠ a) : H.del a b = H b := by simp [AH.del, h]
theorem AH.set_none {H : AH} {a b : Addr} {o : MO} (h : H.set a o b = Option.none) : b ≠ a ∧ H b = Option.none := by
  unfold AH.set at h
  by_cases e : b = a
  · simp [e] at h
  · exact ⟨e, by simpa [e] using h⟩

/-- the built-ins that the text calls by name -/
def bList : List (Str × Value) := [("len", .builtin "len"), ("max", .builtin "max"), ("list", .type "list"), ("range", .type "range"), ("bool", .type "bool"), ("enumerate", .type "enumerate")]

/-- what holds still during the walk -/
structure Cx where
  prog : Program
  w : World
  h0 : Heap
  os : OsState
  K : Frag
  inK : K.In h0
  lim : h0.NoLimit
  mg : Str → Option Value
  mb : Str → Option Value
  codeOf : Scope → Option Addr
  gl : h0.Ns mainGlobals mg
  bl : h0.Ns builtinsNs mb
  bi : ∀ x v, (x, v) ∈ bList → mg x = none ∧ mb x = some v
  bf : ∀ (A : Around) (E : Value → Shared → Prop) (s : Shared) (Q : Addr → Shared → Prop), (∀ b o, h0.get? b = some o → s.heap.get? b = some o) → Q builtinsNs s → wpAny (model prog w) A (builtinsFor mainGlobals builtinsNs) Q E s

abbrev Own := Addr → Option Addr

def mixIs : Sum Str Int → Value → Bool
  | .inl x, .str y _ => y == x
  | .inr i, .int j _ => j == i
  | .inr i, .bool b => (if b then 1 else 0) == i
  | _, _ => false

def bkey (k : BKey) : List (Sum Str Int) := [.inl k.1, .inr k.2.1, .inr (if k.2.2 then 1 else 0)]
theorem bkey_inj {a b : BKey} (h : bkey a = bkey b) : a = b := by
  obtain ⟨a1, a2, a3⟩ := a
  obtain ⟨b1, b2, b3⟩ := b
  simp only [bkey, List.cons.injEq, Sum.inl.injEq, Sum.inr.injEq, and_true] at h
  obtain ⟨h1, h2, h3⟩ := h
  subst h1; subst h2
  cases a3 <;> cases b3 <;> simp_all

end Mine
namespace Mine
section
variable {prog : Program} {w : World} {A : Around} {E : Value → Shared → Prop} {s : Shared}

theorem eqBool_of_cmp {a b : Value} {k : Bool} {Q : Bool → Shared → Prop} (hk : a = b → k = true) (hf : ∀ x t, a ≠ .float x t)
    (h : ∀ Q' : Value → Shared → Prop, Q' (.bool k) s → wpAny (model prog w) A (compareOp .Eq a b) Q' E s) (q : Q k s) :
    wpAny (model prog w) A (eqBool a b) Q E s := by
  unfold eqBool
  try with_reducible refine wpAny_holding ?_
  by_cases hab : (a == b) = true
  · rw [if_pos hab]
    have e : a = b := eq_of_beq hab
    exact wpAny_bind (wpAny_rule (wpAny_pure (by rw [hk e] at q; exact q)))
  · rw [if_neg hab]
    have key : wpAny (model prog w) A (do truthOfDropped (← richCompare .Eq a b)) Q E s := wpAny_bind (h _ (wpAny_truthy_bool q))
    dsimp only
    split
    · rename_i e; cases e; exact absurd rfl (hf _ _)
    · exact key

theorem pyHash_bool {b : Bool} {Q : Int → Shared → Prop} (h : Q (hashInt (if b then 1 else 0)) { s with toks := s.toks + 1 }) :
    wpAny (model prog w) A (pyHash (.bool b)) Q E s := by
  have hT : s.TypeIs (.bool b) "bool" := rfl
  have he : rawHash (if b then 1 else 0) = (if b then 1 else 0) := by cases b <;> decide +kernel
  have hr := rawHash_range (if b then 1 else 0)
  unfold pyHash
  have hv : [Value.bool b].any Value.onHeap = false := rfl
  refine wpAny_bind ?_
  rw [cRoomFor, if_neg (by rw [hv]; exact Bool.false_ne_true)]; refine wpAny_pure ?_
  refine wpAny_bind (wpAny_specialOf hT F.slot_bool_hash.lookup ?_)
  show wpAny _ _ (if (some (Value.builtin "int.__hash__") == some Value.none) = true then _ else _) Q E s
  rw [if_neg (by rw [beq_builtin_none]; exact Bool.false_ne_true)]
  refine wpAny_bind (wpAny_specialOf hT F.slot_bool_hash.lookup ?_)
  show wpAny _ _ (callSpecialIfBoundUnlessNone? (.bool b) "__hash__" _ >>= _) Q E s
  refine wpAny_bind (wpAny_callSpecialIfBoundUnlessNone?_slot hT F.slot_bool_hash
    (wpAny_call_entry F.slot_bool_hash hT entry_int_hash
      (show wpAny _ _ (do ret (← mkInt (rawHash (if b then 1 else 0)))) _ _ s from wpAny_ret_mkInt ?_) (args_int_hash _)))
  show wpAny _ _ (if (decide (-(2 : Int) ^ 63 ≤ rawHash (if b then 1 else 0)) && decide (rawHash (if b then 1 else 0) < 2 ^ 63)) = true then _ else _) Q E _
  rw [if_pos (by rw [decide_eq_true hr.1, decide_eq_true hr.2]; rfl)]
  exact wpAny_pure h

theorem mix_shape {k : Sum Str Int} {v : Value} (h : mixIs k v = true) : (∃ x t, k = .inl x ∧ v = .str x t) ∨ (∃ i t, k = .inr i ∧ v = .int i t) ∨ (∃ b : Bool, k = .inr (if b then 1 else 0) ∧ v = .bool b) := by
  cases k with
  | inl x => cases v <;> simp [mixIs] at h; subst h; exact .inl ⟨_, _, rfl, rfl⟩
  | inr i =>
    cases v with
    | int j t => simp [mixIs] at h; subst h; exact .inr (.inl ⟨_, _, rfl, rfl⟩)
    | bool b => simp only [mixIs, beq_iff_eq] at h; subst h; exact .inr (.inr ⟨b, rfl, rfl⟩)
    | _ => simp [mixIs] at h

theorem beqd (x y : Int) : (x == y) = decide (x = y) := by by_cases h : x = y <;> simp [h]
theorem mix_eqBool {a b : Sum Str Int} {u v : Value} {Q : Bool → Shared → Prop} (hu : mixIs a u = true) (hv : mixIs b v = true) (h : Q (decide (a = b)) s) : wpAny (model prog w) A (eqBool u v) Q E s := by
  rcases mix_shape hu with ⟨x, t, rfl, rfl⟩ | ⟨x, t, rfl, rfl⟩ | ⟨x, rfl, rfl⟩ <;>
  rcases mix_shape hv with ⟨y, t', rfl, rfl⟩ | ⟨y, t', rfl, rfl⟩ | ⟨y, rfl, rfl⟩
  · exact wpAny_eqBool_str (by simpa using h)
  · exact eqBool_of_cmp (k := false) (by intro e; cases e) (by intro _ _ e; cases e) (fun Q' q => EqMixed.eq_str_int q) (by simpa using h)
  · exact eqBool_of_cmp (k := false) (by intro e; cases e) (by intro _ _ e; cases e) (fun Q' q => EqMixed.eq_str_bool q) (by simpa using h)
  · exact eqBool_of_cmp (k := false) (by intro e; cases e) (by intro _ _ e; cases e) (fun Q' q => EqMixed.eq_int_str q) (by simpa using h)
  · exact wpAny_eqBool_int (by rw [beqd]; simpa using h)
  · exact eqBool_of_cmp (k := x == (if y then 1 else 0)) (by intro e; cases e) (by intro _ _ e; cases e) (fun Q' q => EqBoolInt.eq_int_bool q) (by rw [beqd]; simpa using h)
  · exact eqBool_of_cmp (k := false) (by intro e; cases e) (by intro _ _ e; cases e) (fun Q' q => EqMixed.eq_bool_str q) (by simpa using h)
  · exact eqBool_of_cmp (k := (if x then 1 else 0) == y) (by intro e; cases e) (by intro _ _ e; cases e) (fun Q' q => EqBoolInt.eq_bool_int q) (by rw [beqd]; simpa using h)
  · exact eqBool_of_cmp (k := x == y) (by intro e; cases e; simp) (by intro _ _ e; cases e) (fun Q' q => eq_bool q) (by cases x <;> cases y <;> simpa using h)

def mixKind (prog : Program) (w : World) : KeyKind prog w (Sum Str Int) where
  is := mixIs
  hash := fun k => match k with | .inl x => hashStr w x | .inr i => hashInt i
  inj := fun v a b ha hb => by
    rcases mix_shape ha with ⟨x, t, rfl, rfl⟩ | ⟨x, t, rfl, rfl⟩ | ⟨x, rfl, rfl⟩ <;>
    rcases mix_shape hb with ⟨y, u, rfl, e⟩ | ⟨y, u, rfl, e⟩ | ⟨y, rfl, e⟩ <;> cases e <;> rfl
  byValue := fun k v h => by rcases mix_shape h with ⟨x, t, rfl, rfl⟩ | ⟨x, t, rfl, rfl⟩ | ⟨x, rfl, rfl⟩ <;> rfl
  pyHash := fun hv h => by
    rcases mix_shape hv with ⟨x, t, rfl, rfl⟩ | ⟨x, t, rfl, rfl⟩ | ⟨x, rfl, rfl⟩
    · exact wpAny_pyHash_str h
    · exact wpAny_pyHash_int h
    · exact pyHash_bool h
  eqBool := fun hu hv h => mix_eqBool hu hv h
  «strs» := fun k x t v h => by
    rcases mix_shape h with ⟨y, u, rfl, e⟩ | ⟨y, u, rfl, e⟩ | ⟨y, rfl, e⟩ <;> cases e
    cases v <;> rfl
end
end Mine
namespace Mine

inductive BRs (own : Own) (a : Addr) : List (BKey × V) → List (List (Sum Str Int) × Addr × Value) → Prop
  | nil : BRs own a [] []
  | cons {k ka v rv es rs} : VR v rv → own ka = some a → BRs own a es rs → BRs own a ((k, v) :: es) ((bkey k, ka, rv) :: rs)

theorem BRs.mem {own : Own} {a : Addr} : ∀ {es rs}, BRs own a es rs → ∀ x ∈ rs, own x.2.1 = some a
  | _, _, .cons h1 h2 h3, x, hx => by
    rcases List.mem_cons.mp hx with rfl | hx
    · exact h2
    · exact h3.mem x hx
theorem BRs.mono {own own' : Own} {a : Addr} (hh : ∀ b, own b = some a → own' b = some a) : ∀ {es rs}, BRs own a es rs → BRs own' a es rs
  | _, _, .nil => .nil
  | _, _, .cons h1 h2 h3 => .cons h1 (hh _ h2) (h3.mono hh)

def Holds (cx : Cx) (own : Own) (a : Addr) (h : Heap) : MO → Prop
  | .list xs => ∃ rs n, VRs xs rs ∧ h.get? a = some { cls := .type "list", data := .seq rs.toArray n }
  | .ro xs => ∃ rs, VRs xs rs ∧ h.IsList a rs.toArray
  | .tup xs => ∃ rs n, VRs xs rs ∧ h.get? a = some { cls := .type "tuple", data := .seq rs.toArray n }
  | .dict es => ∃ rs, PRs es rs ∧ h.DictOf (PySem.strKind cx.prog cx.w) a rs
  | .inst C fs => ∃ D es n, own D = some a ∧ h.get? a = some (instObj C D) ∧ h.get? D = some { cls := .type "dict", data := .dict (List.toArray es) n } ∧ ERs fs es
  | .bots es => ∃ rs, BRs own a es rs ∧ h.DictOfH (tupleKind (mixKind cx.prog cx.w)) a rs
  | .tab c l k => ∃ ps, h.get? a = some (tabObj ps) ∧ CodeHd cx.h0 c a ∧ (ps = #[] ∨ ∃ c', ps = #[rawInt l, rawInt k, .ref c'])

theorem Holds.live {cx : Cx} {own : Own} {a : Addr} {h : Heap} {o : MO} (x : Holds cx own a h o) : ∃ ob, h.get? a = some ob := by
  cases o with
  | list xs => obtain ⟨_, _, _, e⟩ := x; exact ⟨_, e⟩
  | ro xs => obtain ⟨_, _, o, e, _⟩ := x; exact ⟨_, e⟩
  | tup xs => obtain ⟨_, _, _, e⟩ := x; exact ⟨_, e⟩
  | dict es => obtain ⟨_, _, o, _, _, e, _⟩ := x; exact ⟨_, e⟩
  | inst C fs => obtain ⟨_, _, _, _, e, _⟩ := x; exact ⟨_, e⟩
  | bots es => obtain ⟨_, _, o, _, _, e, _⟩ := x; exact ⟨_, e⟩
  | tab c l k => obtain ⟨_, e, _⟩ := x; exact ⟨_, e⟩

theorem Holds.stable {cx : Cx} {own own' : Own} {a : Addr} {h h' : Heap} {o : MO}
    (hk : ∀ b ob, (b = a ∨ own b = some a) → h.get? b = some ob → h'.get? b = some ob) (ho : ∀ b, own b = some a → own' b = some a)
    (x : Holds cx own a h o) : Holds cx own' a h' o := by
  cases o with
  | list xs => obtain ⟨rs, n, v, e⟩ := x; exact ⟨rs, n, v, hk _ _ (.inl rfl) e⟩
  | ro xs => obtain ⟨rs, v, ob, e, r⟩ := x; exact ⟨rs, v, ob, hk _ _ (.inl rfl) e, r⟩
  | tup xs => obtain ⟨rs, n, v, e⟩ := x; exact ⟨rs, n, v, hk _ _ (.inl rfl) e⟩
  | dict es => obtain ⟨rs, v, ob, es', ep, e, r⟩ := x; exact ⟨rs, v, ob, es', ep, hk _ _ (.inl rfl) e, r⟩
  | inst C fs => obtain ⟨D, es, n, hD, e1, e2, r⟩ := x; exact ⟨D, es, n, ho _ hD, hk _ _ (.inl rfl) e1, hk _ _ (.inr hD) e2, r⟩
  | bots es =>
    obtain ⟨rs, v, ob, es', ep, e, e1, e2, e3, e4, e5⟩ := x
    refine ⟨rs, v.mono ho, ob, es', ep, hk _ _ (.inl rfl) e, e1, e2, e3, fun y hy => ?_, e5⟩
    obtain ⟨o', items, n, q, r⟩ := e4 y hy
    exact ⟨o', items, n, hk _ _ (.inr (v.mem y hy)) q, r⟩
  | tab c l k => obtain ⟨ps, e, r⟩ := x; exact ⟨ps, hk _ _ (.inl rfl) e, r⟩

structure GRel (cx : Cx) (own : Own) (H : AH) (s : Shared) : Prop where
  obj : ∀ a o, H a = some o → Holds cx own a s.heap o
  base : ∀ b o, cx.h0.get? b = some o → s.heap.get? b = some o
  new : ∀ a o, H a = some o → (∀ xs, o ≠ .ro xs) → cx.h0.get? a = none ∧ sysModules < a
  aux : ∀ D a, own D = some a → H D = none ∧ cx.h0.get? D = none ∧ ∃ o, s.heap.get? D = some o
  os : s.os = cx.os
  gens : AllBare s.gens

theorem GRel.lt {cx own H s} (g : GRel cx own H s) {a : Addr} {o : MO} (e : H a = some o) : a < s.heap.objs.size :=
  let ⟨_, h⟩ := (g.obj a o e).live; Heap.lt_size h
theorem GRel.fresh {cx own H s} (g : GRel cx own H s) : H s.heap.objs.size = none := by
  cases e : H s.heap.objs.size with
  | none => rfl
  | some o => exact absurd (g.lt e) (Nat.lt_irrefl _)
theorem GRel.freshOwn {cx own H s} (g : GRel cx own H s) : own s.heap.objs.size = none := by
  cases e : own s.heap.objs.size with
  | none => rfl
  | some o => obtain ⟨_, _, o', h⟩ := g.aux _ _ e; exact absurd (Heap.lt_size h) (Nat.lt_irrefl _)
theorem GRel.fresh0 {cx own H s} (g : GRel cx own H s) : cx.h0.get? s.heap.objs.size = none := by
  cases e : cx.h0.get? s.heap.objs.size with
  | none => rfl
  | some o => exact absurd (Heap.lt_size (g.base _ _ e)) (Nat.lt_irrefl _)
theorem GRel.hiSys {cx own H s} (g : GRel cx own H s) : sysModules < s.heap.objs.size := by
  obtain ⟨_, hn, _⟩ := cx.lim.keeps g.base
  exact Nat.lt_trans (by decide) hn.lt
theorem GRel.notSys {cx own H s} (g : GRel cx own H s) {a : Addr} {o : MO} (e : H a = some o) (hr : ∀ xs, o ≠ .ro xs) : (a == sysModules) = false := by
  have := (g.new a o e hr).2
  simp only [beq_eq_false_iff_ne]
  exact Nat.ne_of_gt this
theorem GRel.apart {cx own H s} (g : GRel cx own H s) {a b : Addr} {o o' : MO} (e : H a = some o) (hb : own b = some a) : H b = none := (g.aux _ _ hb).1

/-- only the counter of identities has moved -/
theorem GRel.toks {cx own H s} (g : GRel cx own H s) (n : Nat) : GRel cx own H { s with toks := n } := ⟨g.obj, g.base, g.new, g.aux, g.os, g.gens⟩

structure Ext (own : Own) (H : AH) (h : Heap) (own' : Own) (H' : AH) (h' : Heap) : Prop where
  all : ∀ a o, H a = none → own a = none → h.get? a = some o → H' a = none ∧ own' a = none ∧ h'.get? a = some o
  tab : ∀ (a c : Addr) (l k : Int) (ob : Obj), H a = some (.tab c l k) → h.get? a = some ob → H' a = some (.tab c l k) ∧ ∃ ob', h'.get? a = some ob'

theorem Ext.keep {own H h own' H' h'} (x : Ext own H h own' H' h') (a : Addr) (o : Obj) (e1 : H a = none) (e2 : own a = none) (e3 : h.get? a = some o) : h'.get? a = some o := (x.all a o e1 e2 e3).2.2
theorem Ext.refl (own : Own) (H : AH) (h : Heap) : Ext own H h own H h := ⟨fun _ _ e1 e2 e3 => ⟨e1, e2, e3⟩, fun _ _ _ _ ob e1 e2 => ⟨e1, ob, e2⟩⟩
theorem Ext.trans {own₁ H₁ h₁ own₂ H₂ h₂ own₃ H₃ h₃} (x : Ext own₁ H₁ h₁ own₂ H₂ h₂) (y : Ext own₂ H₂ h₂ own₃ H₃ h₃) : Ext own₁ H₁ h₁ own₃ H₃ h₃ :=
  ⟨fun a o e1 e2 e3 => let ⟨p, q, r⟩ := x.all a o e1 e2 e3; y.all a o p q r, fun a c l k ob e1 e2 => let ⟨p, o', q⟩ := x.tab a c l k ob e1 e2; y.tab a c l k o' p q⟩

/-- the heap grows by hidden objects and hidden objects of the frame's may turn -/
theorem GRel.hidden {cx own H} {s : Shared} {h' : Heap} {tk : Nat} (g : GRel cx own H s)
    (hk : ∀ a o, (H a ≠ none ∨ own a ≠ none ∨ cx.h0.get? a ≠ none) → s.heap.get? a = some o → h'.get? a = some o) : GRel cx own H { s with heap := h', toks := tk } :=
  ⟨fun a o e => (g.obj a o e).stable (fun b ob hb eb => hk b ob (by
      rcases hb with rfl | hb
      · exact .inl (by rw [e]; nofun)
      · exact .inr (.inl (by rw [hb]; nofun))) eb) (fun _ e => e),
   fun b o e => hk b o (.inr (.inr (by rw [e]; nofun))) (g.base b o e), g.new,
   fun D a e => let ⟨x, y, o, z⟩ := g.aux D a e; ⟨x, y, o, hk _ _ (.inr (.inl (by rw [e]; nofun))) z⟩, g.os, g.gens⟩

theorem GRel.grow {cx own H} {s : Shared} {h' : Heap} {tk : Nat} (g : GRel cx own H s) (hk : ∀ a o, s.heap.get? a = some o → h'.get? a = some o) : GRel cx own H { s with heap := h', toks := tk } :=
  g.hidden fun a o _ e => hk a o e
theorem Ext.grow {own H} {h h' : Heap} (hk : ∀ a o, h.get? a = some o → h'.get? a = some o) : Ext own H h own H h' :=
  ⟨fun a o e1 e2 e => ⟨e1, e2, hk a o e⟩, fun a _ _ _ ob e1 e2 => ⟨e1, ob, hk a ob e2⟩⟩

/-- a new object enters -/
theorem GRel.alloc {cx own H} {s : Shared} {ob : Obj} {o : MO} (g : GRel cx own H s) (hf : ob.isFreed = false) (ho : Holds cx own s.heap.objs.size (s.heap.push ob) o)
    {tk : Nat} : GRel cx own (H.set s.heap.objs.size o) { s with heap := s.heap.push ob, toks := tk } := by
  refine ⟨fun a o' e => ?_, fun b o' e => Heap.get?_push_of_some _ (g.base b o' e), fun a o' e hr => ?_, fun D a e => ?_, g.os, g.gens⟩
  · unfold AH.set at e
    by_cases ha : a = s.heap.objs.size
    · subst ha; simp at e; subst e; exact ho
    · rw [if_neg ha] at e
      exact (g.obj a o' e).stable (fun b ob' _ eb => Heap.get?_push_of_some _ eb) (fun _ e => e)
  · unfold AH.set at e
    by_cases ha : a = s.heap.objs.size
    · subst ha; exact ⟨g.fresh0, g.hiSys⟩
    · rw [if_neg ha] at e; exact g.new a o' e hr
  · obtain ⟨x, y, o', z⟩ := g.aux D a e
    refine ⟨?_, y, o', Heap.get?_push_of_some _ z⟩
    rw [AH.set_ne]
    · exact x
    · exact Nat.ne_of_lt (Heap.lt_size z)
theorem Ext.alloc {own H} {h : Heap} {ob : Obj} {o : MO} : Ext own H h own (H.set h.objs.size o) (h.push ob) :=
  ⟨fun a o' e1 e2 e => ⟨by rw [AH.set_ne _ _ (Nat.ne_of_lt (Heap.lt_size e))]; exact e1, e2, Heap.get?_push_of_some _ e⟩, fun a _ _ _ ob e1 e2 => ⟨by rw [AH.set_ne _ _ (Nat.ne_of_lt (Heap.lt_size e2))]; exact e1, ob, Heap.get?_push_of_some _ e2⟩⟩

/-- an object of ours turns -/
theorem GRel.upd {cx own H} {s : Shared} {h' : Heap} {a : Addr} {o o' : MO} {tk : Nat} (g : GRel cx own H s) (e : H a = some o) (hr : ∀ xs, o ≠ .ro xs) (hs : Heap.SameBut a s.heap h')
    (ho : Holds cx own a h' o') : GRel cx own (H.set a o') { s with heap := h', toks := tk } := by
  have na : ∀ b ob, b ≠ a → s.heap.get? b = some ob → h'.get? b = some ob := fun b ob hb eb => (hs.2 b hb).trans eb
  have h0 := (g.new a o e hr).1
  refine ⟨fun b o₂ eb => ?_, fun b ob eb => na b ob (by rintro rfl; rw [h0] at eb; cases eb) (g.base b ob eb), fun b o₂ eb hr' => ?_, fun D b eD => ?_, g.os, g.gens⟩
  · by_cases hb : b = a
    · subst hb; rw [AH.set_self] at eb; cases eb; exact ho
    · rw [AH.set_ne _ _ hb] at eb
      refine (g.obj b o₂ eb).stable (fun c ob hc ec => na c ob ?_ ec) (fun _ e => e)
      rcases hc with rfl | hc
      · exact hb
      · rintro rfl
        have := (g.aux _ _ hc).1
        rw [e] at this; cases this
  · by_cases hb : b = a
    · subst hb; exact g.new _ o e hr
    · rw [AH.set_ne _ _ hb] at eb; exact g.new b o₂ eb hr'
  · obtain ⟨x, y, ob, z⟩ := g.aux D b eD
    have hD : D ≠ a := by rintro rfl; rw [e] at x; cases x
    exact ⟨by rw [AH.set_ne _ _ hD]; exact x, y, ob, na _ _ hD z⟩
theorem Ext.upd {own H} {h h' : Heap} {a : Addr} {o o' : MO} (e : H a = some o) (hs : Heap.SameBut a h h') (nt : ∀ (c : Addr) (l k : Int), o ≠ .tab c l k := by intro _ _ _; nofun) : Ext own H h own (H.set a o') h' :=
  ⟨fun b ob eb e2 ec => by
    have : b ≠ a := by rintro rfl; rw [e] at eb; cases eb
    exact ⟨by rw [AH.set_ne _ _ this]; exact eb, e2, (hs.2 b this).trans ec⟩, fun b c l k ob eb ec => by
    have : b ≠ a := by rintro rfl; rw [e] at eb; exact nt c l k (Option.some.inj eb)
    exact ⟨by rw [AH.set_ne _ _ this]; exact eb, ob, (hs.2 b this).trans ec⟩⟩

/-! frames -/
abbrev Loc := List (Option V)

structure Frm where
  env : Env
  nm : List Str
  fo : List Addr
  wr : List Addr

def LookN (env : Env) (x : Str) (h : Heap) (rv : Value) : Prop :=
  (env.kindOf x = some .local ∧ ∃ m, h.Ns env.locals m ∧ m x = some rv) ∨
  ((env.kindOf x = some .cell ∨ (env.kindOf x = some .free ∧ (x == ("__classdict__" : Str)) = false)) ∧ ∃ c o, env.cells.lookup x = some c ∧ h.get? c = some o ∧ o.data = .cell (some rv))

structure Frm.Ok (cx : Cx) (f : Frm) (sc0 : Scope) : Prop where
  sc : f.env.scope = sc0
  fn : f.env.scope.kind = .function
  gl : f.env.globals = mainGlobals
  bl : f.env.builtins = builtinsNs
  lfo : f.env.locals ∈ f.fo
  lwr : f.env.locals ∈ f.wr
  cfo : ∀ x c, f.env.cells.lookup x = some c → c ∈ f.fo ∧ c ≠ f.env.locals
  cwr : ∀ x c, f.env.kindOf x = some .cell → f.env.cells.lookup x = some c → c ∈ f.wr
  cex : ∀ x, f.env.kindOf x = some .cell → ∃ c, f.env.cells.lookup x = some c
  inj : ∀ x y c, f.env.cells.lookup x = some c → f.env.cells.lookup y = some c → x = y
  wf : ∀ a ∈ f.wr, a ∈ f.fo
  nd : f.nm.Nodup
  cd : ∀ c, cx.codeOf sc0 = some c → f.env.code = .ref c

structure FRel (cx : Cx) (own : Own) (H : AH) (f : Frm) (ρ : Loc) (h : Heap) : Prop where
  vars : ∀ (i : Nat) x v, f.nm[i]? = some x → ρ[i]? = some (some v) → ∃ rv, VR v rv ∧ LookN f.env x h rv
  ns : ∃ m, h.Ns f.env.locals m
  cell : ∀ x c, f.env.kindOf x = some .cell → f.env.cells.lookup x = some c → ∃ o v, h.get? c = some o ∧ o.data = .cell v
  mine : ∀ a ∈ f.fo, (∃ o, h.get? a = some o) ∧ H a = none ∧ own a = none
  wr0 : ∀ a ∈ f.wr, cx.h0.get? a = none

theorem LookN.stable {env : Env} {x : Str} {h h' : Heap} {rv : Value} (hk : ∀ a o, (a = env.locals ∨ env.cells.lookup x = some a) → h.get? a = some o → h'.get? a = some o) (l : LookN env x h rv) : LookN env x h' rv := by
  rcases l with ⟨k, m, ⟨o, es, ep, e, r⟩, hm⟩ | ⟨k, c, o, hc, e, d⟩
  · exact .inl ⟨k, m, ⟨o, es, ep, hk _ _ (.inl rfl) e, r⟩, hm⟩
  · exact .inr ⟨k, c, o, hc, hk _ _ (.inr hc) e, d⟩

theorem FRel.stable {cx : Cx} {own H own' H'} {f : Frm} {sc : Scope} {ρ : Loc} {h h' : Heap} (ok : f.Ok cx sc) (F : FRel cx own H f ρ h) (hk : ∀ a o, a ∈ f.fo → h.get? a = some o → h'.get? a = some o)
    (hH : ∀ a ∈ f.fo, H' a = none ∧ own' a = none) : FRel cx own' H' f ρ h' := by
  refine ⟨fun i x v hx hv => ?_, ?_, fun x c hx hc => ?_, fun a ha => ?_, F.wr0⟩
  · obtain ⟨rv, r, l⟩ := F.vars i x v hx hv
    refine ⟨rv, r, l.stable fun a o ha e => hk a o ?_ e⟩
    rcases ha with rfl | ha
    · exact ok.lfo
    · exact (ok.cfo _ _ ha).1
  · obtain ⟨m, o, es, ep, e, r⟩ := F.ns
    exact ⟨m, o, es, ep, hk _ _ ok.lfo e, r⟩
  · obtain ⟨o, v, e, d⟩ := F.cell x c hx hc
    exact ⟨o, v, hk _ _ (ok.cfo _ _ hc).1 e, d⟩
  · obtain ⟨⟨o, e⟩, _, _⟩ := F.mine a ha
    exact ⟨⟨o, hk _ _ ha e⟩, hH a ha⟩

theorem FRel.ext {cx : Cx} {own H own' H'} {f : Frm} {sc : Scope} {ρ : Loc} {h h' : Heap} (ok : f.Ok cx sc) (F : FRel cx own H f ρ h) (x : Ext own H h own' H' h') : FRel cx own' H' f ρ h' :=
  F.stable ok (fun a o ha e => let ⟨_, p, q⟩ := F.mine a ha; x.keep a o p q e) fun a ha =>
    let ⟨⟨_, e⟩, p, q⟩ := F.mine a ha; let ⟨r, u, _⟩ := x.all a _ p q e; ⟨r, u⟩

/-! what stands around a piece -/
structure AOk (d : Nat) (A : Around) : Prop where
  han : A.handled = none
  dep : A.depth + d < recursionLimit
  un : A.units + 10 * d + 20 < cLine

abbrev NoE : Value → Shared → Prop := fun _ _ => False

def Post (cx : Cx) (own : Own) (H : AH) (h : Heap) (Q : V → AH → Prop) (rv : Value) (s' : Shared) : Prop :=
  ∃ v own' H', VR v rv ∧ GRel cx own' H' s' ∧ Ext own H h own' H' s'.heap ∧ Q v H'

abbrev TE := Loc → AH → (V → AH → Prop) → Prop

/-- T tells what e comes to -/
def EDen (cx : Cx) (sc : Scope) (nm : List Str) (d : Nat) (e : Expr) (T : TE) : Prop :=
  ∀ (A : Around) (f : Frm) (s : Shared) (own : Own) (H : AH) (ρ : Loc) (Q : V → AH → Prop),
    AOk d A → f.Ok cx sc → f.nm = nm → GRel cx own H s → FRel cx own H f ρ s.heap → T ρ H Q →
    wpAny (model cx.prog cx.w) A (eval e f.env) (Post cx own H s.heap Q) NoE s

theorem Post.trans {cx own H h own' H'} {h' : Heap} {Q : V → AH → Prop} {rv s'} (x : Ext own H h own' H' h') (p : Post cx own' H' h' Q rv s') : Post cx own H h Q rv s' :=
  let ⟨v, o2, H2, a, b, c, d⟩ := p; ⟨v, o2, H2, a, b, x.trans c, d⟩
theorem Post.here {cx own H} {s : Shared} {Q : V → AH → Prop} {v rv} (g : GRel cx own H s) (hv : VR v rv) (q : Q v H) : Post cx own H s.heap Q rv s :=
  ⟨v, own, H, hv, g, .refl .., q⟩

end Mine
namespace Mine

abbrev BinP := V → V → AH → (V → AH → Prop) → Prop

section
variable {cx : Cx} {sc : Scope} {nm : List Str} {d : Nat}

/-- the way of every composed piece: what came, then the rest -/
theorem wp_then {A : Around} {s : Shared} {own H} {t : Sem Value} {Q : V → AH → Prop} {R : Value → Shared → Prop}
    (h : wpAny (model cx.prog cx.w) A t (Post cx own H s.heap Q) NoE s)
    (k : ∀ v rv s' own' H', VR v rv → GRel cx own' H' s' → Ext own H s.heap own' H' s'.heap → Q v H' → R rv s') : wpAny (model cx.prog cx.w) A t R NoE s :=
  wpAny_mono h (fun rv s' ⟨v, own', H', a, b, c, q⟩ => k v rv s' own' H' a b c q) fun _ _ e => e
theorem post_trans {A : Around} {s s' : Shared} {own H own' H'} {t : Sem Value} {Q : V → AH → Prop} (x : Ext own H s.heap own' H' s'.heap)
    (h : wpAny (model cx.prog cx.w) A t (Post cx own' H' s'.heap Q) NoE s') : wpAny (model cx.prog cx.w) A t (Post cx own H s.heap Q) NoE s' :=
  wpAny_mono h (fun _ _ p => p.trans x) fun _ _ e => e

/-! atoms -/
def tVar (i : Nat) : TE := fun ρ H Q => ∃ v, ρ[i]? = some (some v) ∧ Q v H
def tK (v : V) : TE := fun _ H Q => Q v H

theorem den_var {i : Nat} {x : Str} {p : Pos} (hx : nm[i]? = some x) (hd : (x == ("__debug__" : Str)) = false := by decide) : EDen cx sc nm d (.Name x p) (tVar i) := by
  intro A f s own H ρ Q a ok hn g F ⟨v, hv, q⟩
  obtain ⟨rv, r, l⟩ := F.vars i x v (hn ▸ hx) hv
  refine wpAny_Name ?_ hd
  rcases l with ⟨k, m, hm, hmx⟩ | ⟨k, c, o, hc, e, dt⟩
  · exact wpAny_loadName_local ok.fn k hm hmx (.here g r q)
  · rcases k with k | ⟨k, hcd⟩
    · exact wpAny_loadName_cell ok.fn k hc ⟨o, e, dt⟩ (.here g r q)
    · exact wpAny_loadName_free ok.fn k hc ⟨o, e, dt⟩ (.here g r q) hcd

theorem den_int {i : Int} {k : Nat} {p : Pos} : EDen cx sc nm d (.Constant (.int i) k p) (tK (.int i)) := by
  intro A f s own H ρ Q a ok hn g F q
  exact wpAny_Constant_int ⟨_, own, H, .int _ _, g.toks _, .refl .., q⟩
theorem den_str {x : Str} {k : Nat} {p : Pos} : EDen cx sc nm d (.Constant (.str x) k p) (tK (.str x)) := by
  intro A f s own H ρ Q a ok hn g F q
  exact Constant_str ⟨_, own, H, .str _ _, g.toks _, .refl .., q⟩
theorem den_bool {b : Bool} {k : Nat} {p : Pos} : EDen cx sc nm d (.Constant (.bool b) k p) (tK (.bool b)) := by
  intro A f s own H ρ Q a ok hn g F q
  exact Constant_bool (.here g (.bool _) q)
theorem den_none {k : Nat} {p : Pos} : EDen cx sc nm d (.Constant .none k p) (tK .none) := by
  intro A f s own H ρ Q a ok hn g F q
  exact Constant_none (.here g .none q)

/-! operators of two -/
def BOp (cx : Cx) (d : Nat) (op : Value → Value → Sem Value) (P : BinP) : Prop :=
  ∀ (A : Around) (s : Shared) (own : Own) (H : AH) (v1 v2 : V) (r1 r2 : Value) (Q : V → AH → Prop), AOk d A → GRel cx own H s → VR v1 r1 → VR v2 r2 → P v1 v2 H Q →
    wpAny (model cx.prog cx.w) A (op r1 r2) (Post cx own H s.heap Q) NoE s

def tBin (P : BinP) (T1 T2 : TE) : TE := fun ρ H Q => T1 ρ H fun v1 H1 => T2 ρ H1 fun v2 H2 => P v1 v2 H2 Q

theorem den_bin {op : Operator} {l r : Expr} {p : Pos} {P : BinP} {T1 T2 : TE} (hop : BOp cx d (binaryOp op) P) (D1 : EDen cx sc nm d l T1) (D2 : EDen cx sc nm d r T2) :
    EDen cx sc nm d (.BinOp l op r p) (tBin P T1 T2) := by
  intro A f s own H ρ Q a ok hn g F t
  refine wpAny_BinOp (wp_then (D1 A f s own H ρ _ a ok hn g F t) fun v1 r1 s1 own1 H1 e1 g1 x1 t1 => ?_)
  refine wp_then (D2 A f s1 own1 H1 ρ _ a ok hn g1 (F.ext ok x1) t1) fun v2 r2 s2 own2 H2 e2 g2 x2 t2 => ?_
  exact post_trans (x1.trans x2) (hop A s2 own2 H2 v1 v2 r1 r2 Q a g2 e1 e2 t2)

theorem den_cmp {op : CmpOp} {l r : Expr} {p : Pos} {P : BinP} {T1 T2 : TE} (hop : BOp cx d (compareOp op) P) (D1 : EDen cx sc nm d l T1) (D2 : EDen cx sc nm d r T2)
    (hb : behindInMarks op r = false := by rfl) : EDen cx sc nm d (.Compare l [op] [r] p) (tBin P T1 T2) := by
  intro A f s own H ρ Q a ok hn g F t
  refine wpAny_Compare1 (wp_then (D1 A f s own H ρ _ a ok hn g F t) fun v1 r1 s1 own1 H1 e1 g1 x1 t1 => ?_) hb
  refine wp_then (D2 A f s1 own1 H1 ρ _ a ok hn g1 (F.ext ok x1) t1) fun v2 r2 s2 own2 H2 e2 g2 x2 t2 => ?_
  exact post_trans (x1.trans x2) (hop A s2 own2 H2 v1 v2 r1 r2 Q a g2 e1 e2 t2)

/-! conditions -/
abbrev TB := Loc → AH → (Bool → AH → Prop) → Prop
def PostB (cx : Cx) (own : Own) (H : AH) (h : Heap) (Q : Bool → AH → Prop) (b : Bool) (s' : Shared) : Prop :=
  ∃ own' H', GRel cx own' H' s' ∧ Ext own H h own' H' s'.heap ∧ Q b H'
def BDen (cx : Cx) (sc : Scope) (nm : List Str) (d : Nat) (e : Expr) (T : TB) : Prop :=
  ∀ (A : Around) (f : Frm) (s : Shared) (own : Own) (H : AH) (ρ : Loc) (Q : Bool → AH → Prop),
    AOk d A → f.Ok cx sc → f.nm = nm → GRel cx own H s → FRel cx own H f ρ s.heap → T ρ H Q →
    wpAny (model cx.prog cx.w) A (isTrue e f.env (eval e f.env)) (PostB cx own H s.heap Q) NoE s

theorem wp_thenB {A : Around} {s : Shared} {own H} {t : Sem Bool} {Q : Bool → AH → Prop} {R : Bool → Shared → Prop}
    (h : wpAny (model cx.prog cx.w) A t (PostB cx own H s.heap Q) NoE s)
    (k : ∀ b s' own' H', GRel cx own' H' s' → Ext own H s.heap own' H' s'.heap → Q b H' → R b s') : wpAny (model cx.prog cx.w) A t R NoE s :=
  wpAny_mono h (fun b s' ⟨own', H', a, c, q⟩ => k b s' own' H' a c q) fun _ _ e => e
theorem PostB.trans {own H h own' H'} {h' : Heap} {Q : Bool → AH → Prop} {b s'} (x : Ext own H h own' H' h') (p : PostB cx own' H' h' Q b s') : PostB cx own H h Q b s' :=
  let ⟨o2, H2, b, c, d⟩ := p; ⟨o2, H2, b, x.trans c, d⟩
theorem post_transB {A : Around} {s s' : Shared} {own H own' H'} {t : Sem Bool} {Q : Bool → AH → Prop} (x : Ext own H s.heap own' H' s'.heap)
    (h : wpAny (model cx.prog cx.w) A t (PostB cx own' H' s'.heap Q) NoE s') : wpAny (model cx.prog cx.w) A t (PostB cx own H s.heap Q) NoE s' :=
  wpAny_mono h (fun _ _ p => p.trans x) fun _ _ e => e

/-- what a value's truth is -/
def tTruth (v : V) (H : AH) (Q : Bool → AH → Prop) : Prop :=
  match v with
  | .none => Q false H
  | .bool b => Q b H
  | .int i => Q (i != 0) H
  | .str x => x.length < 2 ^ 62 ∧ Q ((x.length : Int) != 0) H
  | .ref a => ∃ xs, (H a = some (.list xs) ∨ H a = some (.ro xs)) ∧ xs.length < 2 ^ 62 ∧ Q (decide (0 < xs.length)) H

theorem truth_of {A : Around} {s : Shared} {own : Own} {H : AH} {v : V} {rv : Value} {Q : Bool → AH → Prop} (g : GRel cx own H s) (r : VR v rv) (t : tTruth v H Q) :
    wpAny (model cx.prog cx.w) A (truthy rv) (PostB cx own H s.heap Q) NoE s := by
  cases r with
  | none => exact truthy_none ⟨own, H, g, .refl .., t⟩
  | bool b => exact wpAny_truthy_bool ⟨own, H, g, .refl .., t⟩
  | int i k => exact truthy_int ⟨own, H, g, .refl .., t⟩
  | str x k =>
    obtain ⟨hl, t⟩ := t
    exact P.truthy_str (by omega) ⟨own, H, g.toks _, .refl .., t⟩
  | ref b =>
    obtain ⟨xs, hx, hl, t⟩ := t
    have key : ∃ rs, VRs xs rs ∧ s.heap.IsList b rs.toArray := by
      rcases hx with hx | hx
      · obtain ⟨rs, n, e, i⟩ := g.obj _ _ hx; exact ⟨rs, e, _, i, rfl, n, rfl⟩
      · obtain ⟨rs, e, i⟩ := g.obj _ _ hx; exact ⟨rs, e, i⟩
    obtain ⟨rs, e, i⟩ := key
    have hlen := e.length
    refine wpAny_truthy_list i (by simp only [List.size_toArray]; omega) ?_
    have e2 : (!rs.toArray.isEmpty) = decide (0 < xs.length) := by
      cases e <;> simp
    rw [e2]
    exact ⟨own, H, g.toks _, .refl .., t⟩

def tTest (T : TE) : TB := fun ρ H Q => T ρ H fun v H1 => tTruth v H1 Q
theorem bden_plain {e : Expr} {T : TE} (D : EDen cx sc nm d e T) (he : ∀ env whole, isTrue e env whole = (do let v ← whole; standAt e.pos; holding [v] (truthy v)) := by intros; rfl) :
    BDen cx sc nm d e (tTest T) := by
  intro A f s own H ρ Q a ok hn g F t
  refine isTrue_plain (wp_then (D A f s own H ρ _ a ok hn g F t) fun v rv s1 own1 H1 e1 g1 x1 t1 => ?_) (he _ _)
  exact post_transB x1 (truth_of g1 e1 t1)
def tNotB (T : TB) : TB := fun ρ H Q => T ρ H fun b H1 => Q (!b) H1
theorem bden_not {x : Expr} {p : Pos} {T : TB} (D : BDen cx sc nm d x T) : BDen cx sc nm d (.UnaryOp .Not x p) (tNotB T) := by
  intro A f s own H ρ Q a ok hn g F t
  exact isTrue_not (wp_thenB (D A f s own H ρ _ a ok hn g F t) fun b s1 own1 H1 g1 x1 t1 => ⟨own1, H1, g1, x1, t1⟩)

abbrev CmpP := V → V → AH → (Bool → AH → Prop) → Prop
/-- a comparison that gives a bool -/
def COp (cx : Cx) (d : Nat) (op : CmpOp) (P : CmpP) : Prop :=
  ∀ (A : Around) (s : Shared) (own : Own) (H : AH) (v1 v2 : V) (r1 r2 : Value) (Q : Bool → AH → Prop), AOk d A → GRel cx own H s → VR v1 r1 → VR v2 r2 → P v1 v2 H Q →
    wpAny (model cx.prog cx.w) A (compareOp op r1 r2) (fun rv s' => ∃ b, rv = .bool b ∧ PostB cx own H s.heap Q b s') NoE s

def tCmpE (P : CmpP) (T1 T2 : TE) : TE := fun ρ H Q => T1 ρ H fun v1 H1 => T2 ρ H1 fun v2 H2 => P v1 v2 H2 fun b H3 => Q (.bool b) H3
def tCmp (P : CmpP) (T1 T2 : TE) : TB := fun ρ H Q => T1 ρ H fun v1 H1 => T2 ρ H1 fun v2 H2 => P v1 v2 H2 Q

theorem den_compare {op : CmpOp} {l r : Expr} {p : Pos} {P : CmpP} {T1 T2 : TE} (hop : COp cx d op P) (D1 : EDen cx sc nm d l T1) (D2 : EDen cx sc nm d r T2)
    (hb : behindInMarks op r = false := by rfl) : EDen cx sc nm d (.Compare l [op] [r] p) (tCmpE P T1 T2) := by
  intro A f s own H ρ Q a ok hn g F t
  refine wpAny_Compare1 (wp_then (D1 A f s own H ρ _ a ok hn g F t) fun v1 r1 s1 own1 H1 e1 g1 x1 t1 => ?_) hb
  refine wp_then (D2 A f s1 own1 H1 ρ _ a ok hn g1 (F.ext ok x1) t1) fun v2 r2 s2 own2 H2 e2 g2 x2 t2 => ?_
  refine wpAny_mono (hop A s2 own2 H2 v1 v2 r1 r2 _ a g2 e1 e2 t2) (fun rv s3 ⟨b, hb, own3, H3, g3, x3, q⟩ => ?_) fun _ _ e => e
  subst hb
  exact ⟨_, own3, H3, .bool b, g3, (x1.trans x2).trans x3, q⟩
theorem bden_compare {op : CmpOp} {l r : Expr} {p : Pos} {P : CmpP} {T1 T2 : TE} (hop : COp cx d op P) (D1 : EDen cx sc nm d l T1) (D2 : EDen cx sc nm d r T2)
    (hb : behindInMarks op r = false := by rfl) : BDen cx sc nm d (.Compare l [op] [r] p) (tCmp P T1 T2) := by
  intro A f s own H ρ Q a ok hn g F t
  refine wpAny_isTrue_Compare1 (wp_then (D1 A f s own H ρ _ a ok hn g F t) fun v1 r1 s1 own1 H1 e1 g1 x1 t1 => ?_) hb
  refine wp_then (D2 A f s1 own1 H1 ρ _ a ok hn g1 (F.ext ok x1) t1) fun v2 r2 s2 own2 H2 e2 g2 x2 t2 => ?_
  refine wpAny_mono (hop A s2 own2 H2 v1 v2 r1 r2 _ a g2 e1 e2 t2) (fun rv s3 ⟨b, hb, own3, H3, g3, x3, q⟩ => ?_) fun _ _ e => e
  subst hb
  exact wpAny_truthy_bool ⟨own3, H3, g3, (x1.trans x2).trans x3, q⟩

/-! and, or in a test -/
def tAndB : List TB → TB
  | [] => fun _ H Q => Q true H
  | T :: r => fun ρ H Q => T ρ H fun b H1 => if b = true then tAndB r ρ H1 Q else Q false H1
def tOrB : List TB → TB
  | [] => fun _ H Q => Q false H
  | T :: r => fun ρ H Q => T ρ H fun b H1 => if b = true then Q true H1 else tOrB r ρ H1 Q

theorem bden_and_nil {p : Pos} : BDen cx sc nm d (.BoolOp .And [] p) (tAndB []) := by
  intro A f s own H ρ Q a ok hn g F t
  exact isTrue_and_nil ⟨own, H, g, .refl .., t⟩
theorem bden_or_nil {p : Pos} : BDen cx sc nm d (.BoolOp .Or [] p) (tOrB []) := by
  intro A f s own H ρ Q a ok hn g F t
  exact isTrue_or_nil ⟨own, H, g, .refl .., t⟩
theorem bden_and {x : Expr} {rest : List Expr} {p : Pos} {T : TB} {Ts : List TB} (D : BDen cx sc nm d x T) (D2 : BDen cx sc nm d (.BoolOp .And rest p) (tAndB Ts)) :
    BDen cx sc nm d (.BoolOp .And (x :: rest) p) (tAndB (T :: Ts)) := by
  intro A f s own H ρ Q a ok hn g F t
  refine isTrue_and (wp_thenB (D A f s own H ρ _ a ok hn g F t) fun b s1 own1 H1 g1 x1 t1 => ?_)
  cases b with
  | false => exact ⟨own1, H1, g1, x1, by simpa using t1⟩
  | true => exact post_transB x1 (D2 A f s1 own1 H1 ρ Q a ok hn g1 (F.ext ok x1) (by simpa using t1))
theorem bden_or {x : Expr} {rest : List Expr} {p : Pos} {T : TB} {Ts : List TB} (D : BDen cx sc nm d x T) (D2 : BDen cx sc nm d (.BoolOp .Or rest p) (tOrB Ts)) :
    BDen cx sc nm d (.BoolOp .Or (x :: rest) p) (tOrB (T :: Ts)) := by
  intro A f s own H ρ Q a ok hn g F t
  refine isTrue_or (wp_thenB (D A f s own H ρ _ a ok hn g F t) fun b s1 own1 H1 g1 x1 t1 => ?_)
  cases b with
  | true => exact ⟨own1, H1, g1, x1, by simpa using t1⟩
  | false => exact post_transB x1 (D2 A f s1 own1 H1 ρ Q a ok hn g1 (F.ext ok x1) (by simpa using t1))

/-! and, or as a value -/
def tAndE : TE → List TE → TE
  | T, [] => T
  | T, T' :: r => fun ρ H Q => T ρ H fun v H1 => tTruth v H1 fun b H2 => if b = true then tAndE T' r ρ H2 Q else Q v H2
def tOrE : TE → List TE → TE
  | T, [] => T
  | T, T' :: r => fun ρ H Q => T ρ H fun v H1 => tTruth v H1 fun b H2 => if b = true then Q v H2 else tOrE T' r ρ H2 Q
theorem den_and1 {op : BoolOp} {e : Expr} {p : Pos} {T : TE} (D : EDen cx sc nm d e T) : EDen cx sc nm d (.BoolOp op [e] p) T := by
  intro A f s own H ρ Q a ok hn g F t
  exact BoolOp_one (D A f s own H ρ Q a ok hn g F t)
theorem den_and {e e' : Expr} {rest : List Expr} {p : Pos} {T T' : TE} {Ts : List TE} (D : EDen cx sc nm d e T) (D2 : EDen cx sc nm d (.BoolOp .And (e' :: rest) p) (tAndE T' Ts)) :
    EDen cx sc nm d (.BoolOp .And (e :: e' :: rest) p) (tAndE T (T' :: Ts)) := by
  intro A f s own H ρ Q a ok hn g F t
  refine BoolOp_and (wp_then (D A f s own H ρ _ a ok hn g F t) fun v rv s1 own1 H1 e1 g1 x1 t1 => wp_thenB (truth_of g1 e1 t1) fun b s2 own2 H2 g2 x2 t2 => ?_)
  cases b with
  | false => exact ⟨v, own2, H2, e1, g2, x1.trans x2, by simpa using t2⟩
  | true => exact post_trans (x1.trans x2) (D2 A f s2 own2 H2 ρ Q a ok hn g2 (F.ext ok (x1.trans x2)) (by simpa using t2))
theorem den_or {e e' : Expr} {rest : List Expr} {p : Pos} {T T' : TE} {Ts : List TE} (D : EDen cx sc nm d e T) (D2 : EDen cx sc nm d (.BoolOp .Or (e' :: rest) p) (tOrE T' Ts)) :
    EDen cx sc nm d (.BoolOp .Or (e :: e' :: rest) p) (tOrE T (T' :: Ts)) := by
  intro A f s own H ρ Q a ok hn g F t
  refine BoolOp_or (wp_then (D A f s own H ρ _ a ok hn g F t) fun v rv s1 own1 H1 e1 g1 x1 t1 => wp_thenB (truth_of g1 e1 t1) fun b s2 own2 H2 g2 x2 t2 => ?_)
  cases b with
  | true => exact ⟨v, own2, H2, e1, g2, x1.trans x2, by simpa using t2⟩
  | false => exact post_trans (x1.trans x2) (D2 A f s2 own2 H2 ρ Q a ok hn g2 (F.ext ok (x1.trans x2)) (by simpa using t2))

/-! not as a value; a conditional expression -/
def tNotE (T : TE) : TE := fun ρ H Q => T ρ H fun v H1 => tTruth v H1 fun b H2 => Q (.bool (!b)) H2
theorem den_not {x : Expr} {p : Pos} {T : TE} (D : EDen cx sc nm d x T) : EDen cx sc nm d (.UnaryOp .Not x p) (tNotE T) := by
  intro A f s own H ρ Q a ok hn g F t
  refine UnaryOp_ (wp_then (D A f s own H ρ _ a ok hn g F t) fun v rv s1 own1 H1 e1 g1 x1 t1 => not_of (wp_thenB (truth_of g1 e1 t1) fun b s2 own2 H2 g2 x2 t2 => ?_))
  exact ⟨_, own2, H2, .bool _, g2, x1.trans x2, t2⟩
def tNeg (T : TE) : TE := fun ρ H Q => T ρ H fun v H1 => match v with | .int i => Q (.int (-i)) H1 | _ => False
theorem den_neg {x : Expr} {p : Pos} {T : TE} (D : EDen cx sc nm d x T) : EDen cx sc nm d (.UnaryOp .USub x p) (tNeg T) := by
  intro A f s own H ρ Q a ok hn g F t
  refine UnaryOp_ (wp_then (D A f s own H ρ _ a ok hn g F t) fun v rv s1 own1 H1 e1 g1 x1 t1 => ?_)
  cases e1 with
  | int i k => exact neg_int ⟨_, own1, H1, .int _ _, g1.toks _, x1, t1⟩
  | _ => exact t1.elim
def tIf (C : TB) (T1 T2 : TE) : TE := fun ρ H Q => C ρ H fun b H1 => if b = true then T1 ρ H1 Q else T2 ρ H1 Q
theorem den_ifexp {c x y : Expr} {p : Pos} {C : TB} {T1 T2 : TE} (DC : BDen cx sc nm d c C) (D1 : EDen cx sc nm d x T1) (D2 : EDen cx sc nm d y T2) : EDen cx sc nm d (.IfExp c x y p) (tIf C T1 T2) := by
  intro A f s own H ρ Q a ok hn g F t
  refine IfExp_ (wp_thenB (DC A f s own H ρ _ a ok hn g F t) fun b s1 own1 H1 g1 x1 t1 => ?_)
  cases b with
  | true => exact post_trans x1 (D1 A f s1 own1 H1 ρ Q a ok hn g1 (F.ext ok x1) (by simpa using t1))
  | false => exact post_trans x1 (D2 A f s1 own1 H1 ρ Q a ok hn g1 (F.ext ok x1) (by simpa using t1))
end
end Mine
namespace Mine

section
variable {cx : Cx} {sc : Scope} {nm : List Str} {d : Nat}

def pAddI : BinP := fun v1 v2 H Q => match v1, v2 with | .int a, .int b => Q (.int (a + b)) H | _, _ => False
def pSubI : BinP := fun v1 v2 H Q => match v1, v2 with | .int a, .int b => Q (.int (a - b)) H | _, _ => False
def pModI : BinP := fun v1 v2 H Q => match v1, v2 with | .int a, .int b => b ≠ 0 ∧ Q (.int (a.fmod b)) H | _, _ => False
def pDivI : BinP := fun v1 v2 H Q => match v1, v2 with | .int a, .int b => b ≠ 0 ∧ b.natAbs < 2 ^ 62 ∧ Q (.int (a.fdiv b)) H | _, _ => False
def pAndI : BinP := fun v1 v2 H Q => match v1, v2 with | .int a, .int b => Q (.int (Builtin.bitAnd a b)) H | _, _ => False
def pAddS : BinP := fun v1 v2 H Q => match v1, v2 with | .str x, .str y => x.length + y.length ≤ 2 ^ 24 ∧ Q (.str (x ++ y)) H | _, _ => False
def pAddL : BinP := fun v1 v2 H Q => match v1, v2 with
  | .ref a, .ref b => ∃ xs ys, H a = some (.list xs) ∧ H b = some (.list ys) ∧ xs.length + ys.length ≤ 2 ^ 24 ∧ ∀ c, H c = none → Q (.ref c) (H.set c (.list (xs ++ ys)))
  | _, _ => False

theorem op_addI : BOp cx d (binaryOp .Add) pAddI := by
  intro A s own H v1 v2 r1 r2 Q a g e1 e2 t
  cases e1 <;> cases e2 <;> first | exact t.elim | exact add_int ⟨_, own, H, .int _ _, g.toks _, .refl .., t⟩
theorem op_subI : BOp cx d (binaryOp .Sub) pSubI := by
  intro A s own H v1 v2 r1 r2 Q a g e1 e2 t
  cases e1 <;> cases e2 <;> first | exact t.elim | exact sub_int ⟨_, own, H, .int _ _, g.toks _, .refl .., t⟩
theorem op_modI : BOp cx d (binaryOp .Mod) pModI := by
  intro A s own H v1 v2 r1 r2 Q a g e1 e2 t
  cases e1 <;> cases e2 <;> first | exact t.elim | exact mod_int t.1 ⟨_, own, H, .int _ _, g.toks _, .refl .., t.2⟩
theorem noPy {a b : Int} (h : b.natAbs < 2 ^ 62) : Builtin.divisionGoesByPylong a b = false := by
  unfold Builtin.divisionGoesByPylong
  have : ¬ ((if (b == 0) = true then 0 else b.natAbs.log2 / 30 + 1) > 300) := by
    split
    · omega
    · have h2 : b.natAbs.log2 ≤ 62 := by
        by_cases hb : b.natAbs = 0
        · rw [hb]; decide
        · have := (Nat.log2_lt hb (k := 63)).mpr (by omega)
          omega
      omega
  simp only [Bool.and_eq_false_iff, decide_eq_false_iff_not]
  exact .inl this
theorem op_divI : BOp cx d (binaryOp .FloorDiv) pDivI := by
  intro A s own H v1 v2 r1 r2 Q a g e1 e2 t
  cases e1 <;> cases e2 <;> first | exact t.elim | exact floordiv_int t.1 ⟨_, own, H, .int _ _, g.toks _, .refl .., t.2.2⟩ (.inl (noPy t.2.1))
theorem op_andI : BOp cx d (binaryOp .BitAnd) pAndI := by
  intro A s own H v1 v2 r1 r2 Q a g e1 e2 t
  cases e1 <;> cases e2 <;> first | exact t.elim | exact and_int ⟨_, own, H, .int _ _, g.toks _, .refl .., t⟩
theorem op_addS : BOp cx d (binaryOp .Add) pAddS := by
  intro A s own H v1 v2 r1 r2 Q a g e1 e2 t
  cases e1 <;> cases e2 <;> first | exact t.elim | exact PyProof.Rows.add_str (fun t' tk => ⟨_, own, H, .str _ _, g.toks _, .refl .., t.2⟩) (by rw [sizeLine_eq]; have := t.1; omega)

theorem size_of {xs : List V} {rs : List Value} (h : VRs xs rs) : rs.toArray.size = xs.length := by simp [h.length]

theorem GRel.list {own H} {s : Shared} (g : GRel cx own H s) {a : Addr} {xs : List V} (e : H a = some (.list xs)) : ∃ rs n, VRs xs rs ∧ IsL s.heap a rs.toArray n := g.obj a _ e
theorem GRel.tup {own H} {s : Shared} (g : GRel cx own H s) {a : Addr} {xs : List V} (e : H a = some (.tup xs)) : ∃ rs n, VRs xs rs ∧ s.heap.get? a = some { cls := .type "tuple", data := .seq rs.toArray n } := g.obj a _ e
theorem GRel.dict {own H} {s : Shared} (g : GRel cx own H s) {a : Addr} {es} (e : H a = some (.dict es)) : ∃ rs, PRs es rs ∧ s.heap.DictOf (PySem.strKind cx.prog cx.w) a rs := g.obj a _ e
theorem GRel.anyList {own H} {s : Shared} (g : GRel cx own H s) {a : Addr} {xs : List V} (e : H a = some (.list xs) ∨ H a = some (.ro xs)) : ∃ rs, VRs xs rs ∧ s.heap.IsList a rs.toArray := by
  rcases e with e | e
  · obtain ⟨rs, n, h1, h2⟩ := g.obj a _ e
    exact ⟨rs, h1, _, h2, rfl, n, rfl⟩
  · exact g.obj a _ e

/-- a list made anew -/
theorem made_list {own H} {s : Shared} (g : GRel cx own H s) {xs : List V} {rs : List Value} (h : VRs xs rs) {Q : V → AH → Prop} (q : ∀ c, H c = none → Q (.ref c) (H.set c (.list xs))) (arr : Array Value)
    (e : arr = rs.toArray) {tk : Nat} : Post cx own H s.heap Q (.ref s.heap.objs.size) { s with heap := s.heap.push { cls := .type "list", data := .seq arr }, toks := tk } :=
  ⟨_, own, _, .ref _, g.alloc (o := .list xs) rfl ⟨rs, 0, h, by subst e; exact Heap.get?_push_size _ rfl⟩, .alloc, q _ g.fresh⟩

theorem op_addL : BOp cx d (binaryOp .Add) pAddL := by
  intro A s own H v1 v2 r1 r2 Q a g e1 e2 t
  cases e1 <;> cases e2 <;> first | exact t.elim | skip
  rename_i l b
  obtain ⟨xs, ys, h1, h2, hl, q⟩ := t
  obtain ⟨rs, n, v1, i1⟩ := g.list h1
  obtain ⟨ts, m, v2, i2⟩ := g.list h2
  refine P.add_list i1 i2 (made_list g (v1.append v2) q _ (by simp)) ?_
  rw [size_of v1, size_of v2, sizeLine_eq]; omega

/-! comparisons -/
def cBool (b : Bool) : V → V → Prop := fun _ _ => True
def pLt : CmpP := fun v1 v2 H Q => match v1, v2 with | .int a, .int b => Q (decide (a < b)) H | _, _ => False
def pLe : CmpP := fun v1 v2 H Q => match v1, v2 with | .int a, .int b => Q (decide (a ≤ b)) H | _, _ => False
def pGt : CmpP := fun v1 v2 H Q => match v1, v2 with | .int a, .int b => Q (decide (b < a)) H | _, _ => False
def pGe : CmpP := fun v1 v2 H Q => match v1, v2 with | .int a, .int b => Q (decide (b ≤ a)) H | _, _ => False
def pEqI : CmpP := fun v1 v2 H Q => match v1, v2 with | .int a, .int b => Q (a == b) H | _, _ => False
def pNeI : CmpP := fun v1 v2 H Q => match v1, v2 with | .int a, .int b => Q (a != b) H | _, _ => False
def pEqS : CmpP := fun v1 v2 H Q => match v1, v2 with | .str a, .str b => Q (a == b) H | _, _ => False
def pNeS : CmpP := fun v1 v2 H Q => match v1, v2 with | .str a, .str b => Q (a != b) H | _, _ => False
def strIn (y x : Str) : Bool := !(Builtin.Str.occurrences x y 0 x.length 1).isEmpty
def pInS : CmpP := fun v1 v2 H Q => match v1, v2 with | .str y, .str x => Q (strIn y x) H | _, _ => False
def pNotInS : CmpP := fun v1 v2 H Q => match v1, v2 with | .str y, .str x => Q (!strIn y x) H | _, _ => False
def isNone : V → Bool
  | .none => true
  | .bool _ | .int _ | .str _ | .ref _ => false
def pIsNone : CmpP := fun v1 v2 H Q => match v2 with | .none => Q (isNone v1) H | _ => False
def pIsNotNone : CmpP := fun v1 v2 H Q => match v2 with | .none => Q (!isNone v1) H | _ => False

theorem cmp_here {own H} {s : Shared} (g : GRel cx own H s) {Q : Bool → AH → Prop} {b : Bool} (q : Q b H) : ∃ b', Value.bool b = .bool b' ∧ PostB cx own H s.heap Q b' s := ⟨b, rfl, own, H, g, .refl .., q⟩
theorem op_lt : COp cx d .Lt pLt := by
  intro A s own H v1 v2 r1 r2 Q a g e1 e2 t
  cases e1 <;> cases e2 <;> first | exact t.elim | exact lt_int (cmp_here g t)
theorem op_le : COp cx d .LtE pLe := by
  intro A s own H v1 v2 r1 r2 Q a g e1 e2 t
  cases e1 <;> cases e2 <;> first | exact t.elim | exact PyProof.Rows.le_int (cmp_here g t)
theorem op_gt : COp cx d .Gt pGt := by
  intro A s own H v1 v2 r1 r2 Q a g e1 e2 t
  cases e1 <;> cases e2 <;> first | exact t.elim | exact PyProof.Rows.gt_int (cmp_here g t)
theorem op_ge : COp cx d .GtE pGe := by
  intro A s own H v1 v2 r1 r2 Q a g e1 e2 t
  cases e1 <;> cases e2 <;> first | exact t.elim | exact PyProof.Rows.ge_int (cmp_here g t)
theorem op_eqI : COp cx d .Eq pEqI := by
  intro A s own H v1 v2 r1 r2 Q a g e1 e2 t
  cases e1 <;> cases e2 <;> first | exact t.elim | exact PyProof.Rows.eq_int (cmp_here g t)
theorem op_neI : COp cx d .NotEq pNeI := by
  intro A s own H v1 v2 r1 r2 Q a g e1 e2 t
  cases e1 <;> cases e2 <;> first | exact t.elim | exact PyProof.Rows.ne_int (cmp_here g t)
theorem op_eqS : COp cx d .Eq pEqS := by
  intro A s own H v1 v2 r1 r2 Q a g e1 e2 t
  cases e1 <;> cases e2 <;> first | exact t.elim | exact PyProof.Rows.eq_str (cmp_here g t)
theorem op_neS : COp cx d .NotEq pNeS := by
  intro A s own H v1 v2 r1 r2 Q a g e1 e2 t
  cases e1 <;> cases e2 <;> first | exact t.elim | exact PyProof.Rows.ne_str (cmp_here g t)
theorem op_inS : COp cx d .In pInS := by
  intro A s own H v1 v2 r1 r2 Q a g e1 e2 t
  cases e1 <;> cases e2 <;> first | exact t.elim | exact PyProof.Rows.in_str (cmp_here g t)
theorem op_notInS : COp cx d .NotIn pNotInS := by
  intro A s own H v1 v2 r1 r2 Q a g e1 e2 t
  cases e1 <;> cases e2 <;> first | exact t.elim | exact PyProof.Rows.notIn_str (cmp_here g t)
theorem op_isNone : COp cx d .Is pIsNone := by
  intro A s own H v1 v2 r1 r2 Q a g e1 e2 t
  cases e2 <;> first | exact t.elim | skip
  refine is_none_gen ?_
  cases e1 <;> exact cmp_here g t
theorem op_isNotNone : COp cx d .IsNot pIsNotNone := by
  intro A s own H v1 v2 r1 r2 Q a g e1 e2 t
  cases e2 <;> first | exact t.elim | skip
  refine isnot_none_gen ?_
  cases e1 <;> exact cmp_here g t

/-- a str among written strvs -/
def strvs (l : List Str) : List V := l.map .str
theorem strs_rel : ∀ {l : List Str} {rs : List Value}, VRs (strvs l) rs → ∀ r ∈ rs, ∃ y t, r = .str y t
  | [], _, .nil, r, h => by simp at h
  | x :: l, _, .cons h1 h2, r, h => by
    rcases List.mem_cons.mp h with rfl | h
    · cases h1; exact ⟨_, _, rfl⟩
    · exact strs_rel h2 r h
def strVal : Value → Str
  | .str y _ => y
  | _ => Str.empty
theorem strs_any {x : Str} : ∀ {l : List Str} {rs : List Value}, VRs (strvs l) rs → rs.any (fun r => (strVal r).cps.toList == x.cps.toList) = l.any (fun y => y == x)
  | [], _, .nil => rfl
  | y :: l, _, .cons h1 h2 => by
    cases h1
    simp only [List.any_cons, strVal]
    have hb : (y.cps.toList == x.cps.toList) = (y == x) := by
      by_cases e : y = x
      · subst e; simp
      · have h1 : ¬ (y.cps.toList = x.cps.toList) := fun h => e (by cases y; cases x; simp only [Str.mk.injEq]; exact Array.toList_inj.mp h)
        have h2 : (y.cps.toList == x.cps.toList) = false := by simpa using h1
        have h3 : (y == x) = false := by simpa using e
        rw [h2, h3]
    rw [hb]
    exact congrArg _ (strs_any h2)
def pNotInT : CmpP := fun v1 v2 H Q => match v1, v2 with
  | .str x, .ref a => ∃ l, H a = some (.tup (strvs l)) ∧ Q (!l.any (fun y => y == x)) H
  | _, _ => False
theorem op_notInT : COp cx d .NotIn pNotInT := by
  intro A s own H v1 v2 r1 r2 Q a g e1 e2 t
  cases e1 <;> cases e2 <;> first | exact t.elim | skip
  obtain ⟨l, hl, q⟩ := t
  obtain ⟨rs, n, v, i⟩ := g.tup hl
  rename_i x k b
  refine SeqRoads2.notIn_tuple (fun r => (strVal r).cps.toList == x.cps.toList) (fun y hy => ?_) i ?_
  · obtain ⟨z, u, rfl⟩ := strs_rel v y (by simpa using hy)
    exact SeqRoads2.EqGives.str z x u k
  · rw [show rs.toArray.any (fun r => (strVal r).cps.toList == x.cps.toList) = l.any (fun y => y == x) from by simpa using strs_any v]
    exact cmp_here g q
/-- a key in a dict -/
def pInD : CmpP := fun v1 v2 H Q => match v1, v2 with
  | .str x, .ref a => ∃ es, H a = some (.dict es) ∧ Q (pget es x).isSome H
  | _, _ => False
def pNotInD : CmpP := fun v1 v2 H Q => match v1, v2 with
  | .str x, .ref a => ∃ es, H a = some (.dict es) ∧ Q (!(pget es x).isSome) H
  | _, _ => False
theorem PRs.value {es : List (Str × V)} {rs : List (Str × Value)} (h : PRs es rs) (k : Str) :
    (∀ v, pget es k = some v → ∃ r, valueAt rs k = some r ∧ VR v r) ∧ (pget es k = none → valueAt rs k = none) := by
  induction h with
  | nil => exact ⟨fun v e => by simp [pget] at e, fun _ => rfl⟩
  | @cons x v rv vs rvs h1 h2 ih =>
    by_cases hx : x = k
    · subst hx
      simp only [pget, if_true]
      exact ⟨fun u e => by cases e; exact ⟨rv, by simp [valueAt], h1⟩, fun e => by simp at e⟩
    · have e2 : valueAt ((x, rv) :: rvs) k = valueAt rvs k := by simp [valueAt, hx]
      simp only [pget, if_neg hx, e2]
      exact ih
theorem op_inD : COp cx d .In pInD := by
  intro A s own H v1 v2 r1 r2 Q a g e1 e2 t
  cases e1 <;> cases e2 <;> first | exact t.elim | skip
  obtain ⟨es, he, q⟩ := t
  rename_i x k b
  have hs := g.notSys he (by intro _; nofun)
  obtain ⟨rs, pr, i⟩ := g.dict he
  refine wpAny_in_of (k := x) (strKind_is cx.prog cx.w x k) hs i.mapOf ?_
  have e : (valueAt rs x).isSome = (pget es x).isSome := by
    cases hp : pget es x with
    | none => rw [(pr.value x).2 hp]; rfl
    | some v => obtain ⟨r, h, _⟩ := (pr.value x).1 v hp; rw [h]; rfl
  rw [e]
  exact ⟨_, rfl, own, H, g.toks _, .refl .., q⟩
theorem op_notInD : COp cx d .NotIn pNotInD := by
  intro A s own H v1 v2 r1 r2 Q a g e1 e2 t
  cases e1 <;> cases e2 <;> first | exact t.elim | skip
  obtain ⟨es, he, q⟩ := t
  rename_i x k b
  have hs := g.notSys he (by intro _; nofun)
  obtain ⟨rs, pr, i⟩ := g.dict he
  refine wpAny_notIn_of (k := x) (strKind_is cx.prog cx.w x k) hs i.mapOf ?_
  have e : (valueAt rs x).isSome = (pget es x).isSome := by
    cases hp : pget es x with
    | none => rw [(pr.value x).2 hp]; rfl
    | some v => obtain ⟨r, h, _⟩ := (pr.value x).1 v hp; rw [h]; rfl
  rw [e]
  exact ⟨_, rfl, own, H, g.toks _, .refl .., q⟩
end
end Mine
namespace Mine

def getV {α : Type} (xs : List α) (i : Int) : Option α :=
  if 0 ≤ i then xs[i.toNat]? else if 0 ≤ i + xs.length then xs[(i + xs.length).toNat]? else Option.none
def sliceV {α : Type} (xs : List α) (lo hi : Option Int) : List α :=
  (xs.drop (lo.elim 0 (clipAt xs.length))).take (hi.elim xs.length (clipAt xs.length) - lo.elim 0 (clipAt xs.length))

theorem getV_idx {α : Type} {xs : List α} {i : Int} {x : α} (h : getV xs i = some x) : ∃ k, seqIndex? i xs.length = some k ∧ xs[k]? = some x := by
  unfold getV at h
  by_cases h0 : 0 ≤ i
  · rw [if_pos h0] at h
    have hl : i.toNat < xs.length := (List.getElem?_eq_some_iff.mp h).1
    exact ⟨i.toNat, StrLaws.seqIndex_nonneg h0 (by omega), h⟩
  · rw [if_neg h0] at h
    by_cases h1 : 0 ≤ i + xs.length
    · rw [if_pos h1] at h
      exact ⟨_, StrLaws.seqIndex_neg (by omega) (by omega), h⟩
    · rw [if_neg h1] at h; cases h

section
variable {cx : Cx} {sc : Scope} {nm : List Str} {d : Nat}

/-- reading an item -/
def pItem : BinP := fun v1 v2 H Q => match v1, v2 with
  | .ref a, .int i => -(2 ^ 62) < i ∧ i < 2 ^ 62 ∧ ∃ xs x, (H a = some (.list xs) ∨ H a = some (.tup xs)) ∧ getV xs i = some x ∧ Q x H
  | .str s, .int i => -(2 ^ 62) < i ∧ i < 2 ^ 62 ∧ ∃ c, getV s.cps.toList i = some c ∧ Q (.str ⟨#[c]⟩) H
  | .ref a, .str k => ∃ es v, H a = some (.dict es) ∧ pget es k = some v ∧ Q v H
  | _, _ => False

theorem item_of {A : Around} {s : Shared} {own : Own} {H : AH} {v1 v2 : V} {r1 r2 : Value} {Q : V → AH → Prop} (g : GRel cx own H s) (e1 : VR v1 r1) (e2 : VR v2 r2) (t : pItem v1 v2 H Q) :
    ∃ T id, s.TypeIs r1 T ∧ typeLookup (.type T) "__getitem__" = pure (some (.builtin id)) ∧ wpAny (model cx.prog cx.w) A (getItem r1 r2) (Post cx own H s.heap Q) NoE s := by
  cases e1 with
  | ref a =>
    cases e2 with
    | int i k =>
      obtain ⟨h1, h2, xs, x, hx, hg, q⟩ := t
      rcases hx with hx | hx
      · obtain ⟨rs, n, v, i1⟩ := g.list hx
        refine ⟨_, _, i1.isList.typeIs, slot_list_getitem.lookup, ?_⟩
        unfold getV at hg
        by_cases h0 : 0 ≤ i
        · rw [if_pos h0] at hg
          obtain ⟨r, hr, hv⟩ := v.get hg
          exact wpAny_getItem_list i1.isList h0 (by omega) (by simpa using hr) (.here g hv q)
        · rw [if_neg h0] at hg
          by_cases h3 : 0 ≤ i + xs.length
          · rw [if_pos h3] at hg
            obtain ⟨r, hr, hv⟩ := v.get hg
            have hsz := size_of v
            exact wpAny_getItem_list_neg i1.isList (by omega) (by omega) (by omega) (by rw [hsz]; simpa using hr) (.here g hv q)
          · rw [if_neg h3] at hg; cases hg
      · obtain ⟨rs, n, v, i1⟩ := g.tup hx
        obtain ⟨j, hj, hjx⟩ := getV_idx hg
        obtain ⟨r, hr, hv⟩ := v.get hjx
        refine ⟨_, _, ⟨_, i1, rfl⟩, slot_tuple_getitem.lookup, P.getItem_tuple i1 (by omega) (by omega) (k := j) (by rw [size_of v]; exact hj) (by simpa using hr) (.here g hv q)⟩
    | str x k =>
      obtain ⟨es, v, he, hp, q⟩ := t
      obtain ⟨rs, pr, i1⟩ := g.dict he
      obtain ⟨r, hr, hv⟩ := (pr.value x).1 v hp
      exact ⟨_, _, i1.typeIs, slot_dict_getitem.lookup, wpAny_getItem_of (k := x) (strKind_is cx.prog cx.w x k) i1.mapOf hr ⟨v, own, H, hv, g.toks _, .refl .., q⟩⟩
    | _ => exact t.elim
  | str x u =>
    cases e2 with
    | int i k =>
      obtain ⟨h1, h2, c, hg, q⟩ := t
      obtain ⟨j, hj, hjx⟩ := getV_idx hg
      refine ⟨"str", _, rfl, F.slot_str_getitem.lookup, PyProof.Rows.getItem_str (c := c) ?_ ?_ ⟨_, own, H, .str _ _, g.toks _, .refl .., q⟩⟩
      · have a : ¬ i < -(2 ^ 63 : Int) := by omega
        have b : ¬ i ≥ 2 ^ 63 := by omega
        rw [decide_eq_false a, decide_eq_false b]; rfl
      · have : x.length = x.cps.toList.length := by simp [Str.length]
        rw [this, hj]
        simpa using hjx
    | _ => exact t.elim
  | _ => exact t.elim

theorem den_item {value slice : Expr} {p : Pos} {T1 T2 : TE} (D1 : EDen cx sc nm d value T1) (D2 : EDen cx sc nm d slice T2)
    (hs : ∀ o i, subscripted slice false o i = operate [o, i] (getItem o i) := by intros; with_unfolding_all rfl) : EDen cx sc nm d (.Subscript value slice p) (tBin pItem T1 T2) := by
  intro A f s own H ρ Q a ok hn g F t
  refine Subscript_ (wp_then (D1 A f s own H ρ _ a ok hn g F t) fun v1 r1 s1 own1 H1 e1 g1 x1 t1 => ?_)
  refine wp_then (D2 A f s1 own1 H1 ρ _ a ok hn g1 (F.ext ok x1) t1) fun v2 r2 s2 own2 H2 e2 g2 x2 t2 => ?_
  obtain ⟨T, id, hT, hl, h⟩ := item_of (A := A) g2 e1 e2 t2
  exact tail_any hT hl (post_trans (x1.trans x2) h) (hs _ _)

/-! slices -/
def tPart (o : Option TE) (ρ : Loc) (H : AH) (Q : Option Int → AH → Prop) : Prop :=
  match o with
  | none => Q none H
  | some T => T ρ H fun v H1 => match v with | .int i => Q (some i) H1 | _ => False
def tSlice (Tv : TE) (lo hi : Option TE) : TE := fun ρ H Q => Tv ρ H fun v H1 => tPart lo ρ H1 fun l H2 => tPart hi ρ H2 fun u H3 => match v with
  | .str x => x.length ≤ 2 ^ 24 ∧ Q (.str (Txt.slice x l u)) H3
  | .ref a => ∃ xs, (H3 a = some (.list xs) ∨ H3 a = some (.ro xs)) ∧ xs.length ≤ 2 ^ 24 ∧ ∀ c, H3 c = none → Q (.ref c) (H3.set c (.list (sliceV xs l u)))
  | _ => False

inductive ODen (cx : Cx) (sc : Scope) (nm : List Str) (d : Nat) : Option Expr → Option TE → Prop
  | none : ODen cx sc nm d none none
  | some {e T} : EDen cx sc nm d e T → ODen cx sc nm d (some e) (some T)

theorem part_of {o : Option Expr} {T : Option TE} (D : ODen cx sc nm d o T) {A : Around} {f : Frm} {s : Shared} {own : Own} {H : AH} {ρ : Loc} {Q : Option Int → AH → Prop} {R : Value → Shared → Prop}
    (a : AOk d A) (ok : f.Ok cx sc) (hn : f.nm = nm) (g : GRel cx own H s) (F : FRel cx own H f ρ s.heap) (t : tPart T ρ H Q)
    (k : ∀ (u : Option (Int × Tok)) s' own' H', GRel cx own' H' s' → Ext own H s.heap own' H' s'.heap → Q (u.map (·.1)) H' → R (partValue u) s') :
    wpAny (model cx.prog cx.w) A (evalPart o f.env) R NoE s := by
  cases D with
  | none => exact wpAny_pure (k none s own H g (.refl ..) t)
  | some D =>
    refine wp_then (D A f s own H ρ _ a ok hn g F t) fun v rv s1 own1 H1 e1 g1 x1 t1 => ?_
    cases e1 with
    | int i u => exact k (some (i, u)) s1 own1 H1 g1 x1 t1
    | _ => exact t1.elim

theorem isPart_of (u : Option (Int × Tok)) : IsPart (partValue u) (u.map (·.1)) := by
  cases u with
  | none => exact .none
  | some p => exact .int _ _

theorem VRs.slice {xs : List V} {rs : List Value} (h : VRs xs rs) (lo hi : Option Int) : VRs (sliceV xs lo hi) (slicePick rs.toArray lo hi none).toList := by
  rw [slicePick_plain, size_of h]
  exact (h.drop _).take _

theorem den_slice {value : Expr} {lo hi : Option Expr} {p q : Pos} {Tv : TE} {Tl Th : Option TE} (D : EDen cx sc nm d value Tv) (Dl : ODen cx sc nm d lo Tl) (Dh : ODen cx sc nm d hi Th) :
    EDen cx sc nm d (.Subscript value (.Slice lo hi none p) q) (tSlice Tv Tl Th) := by
  intro A f s own H ρ Q a ok hn g F t
  refine Subscript_ (wp_then (D A f s own H ρ _ a ok hn g F t) fun v r s1 own1 H1 e1 g1 x1 t1 => wpAny_Slice ?_)
  have F1 := F.ext ok x1
  refine part_of Dl a ok hn g1 F1 t1 fun l s2 own2 H2 g2 x2 t2 => ?_
  refine part_of Dh a ok hn g2 (F1.ext ok x2) t2 fun u s3 own3 H3 g3 x3 t3 => wpAny_pure ?_
  have x := (x1.trans x2).trans x3
  have gg : GRel cx own3 H3 { s3 with heap := s3.heap.push { cls := .type "slice", data := .fields #[partValue l, partValue u, .none] } } := g3.grow fun a o e => Heap.get?_push_of_some _ e
  have xx : Ext own3 H3 s3.heap own3 H3 (s3.heap.push { cls := .type "slice", data := .fields #[partValue l, partValue u, .none] }) := .grow fun a o e => Heap.get?_push_of_some _ e
  cases e1 with
  | str y k =>
    obtain ⟨hl, q⟩ := t3
    refine tail_any (T := "str") (typeIs_str _ _ _) PySem.F.slot_str_getitem.lookup ?_ (by with_unfolding_all rfl)
    refine wpAny_getItem_str_slice (l := l) (u := u) (st := none) ⟨_, Heap.get?_push_size _ rfl, rfl, rfl⟩ rfl ?_
    have hsz : (Txt.slice y (l.map (·.1)) (u.map (·.1))).length ≤ sizeLine := Nat.le_trans (Txt.slice_le _ _ _) (by rw [sizeLine_eq]; omega)
    exact post_val_or_str ⟨hsz, fun t' k' => ⟨_, own3, H3, .str _ _, gg.toks _, x.trans xx, q⟩⟩
  | ref b =>
    obtain ⟨xs, hx, hl, q⟩ := t3
    obtain ⟨rs, v, i1⟩ := gg.anyList hx
    refine tail_any i1.typeIs slot_list_getitem.lookup ?_ (by with_unfolding_all rfl)
    refine post_trans (x.trans xx) (wpAny_getItem_list_slice i1 (Heap.IsSliceOf.new ..) (isPart_of l) (isPart_of u) .none (by simp) ?_ (by rw [size_of v, sizeLine_eq]; omega))
    exact made_list gg (v.slice _ _) q _ (by simp)
  | _ => exact t3.elim
end
end Mine
namespace Mine

section
variable {cx : Cx} {sc : Scope} {nm : List Str} {d : Nat}

abbrev UnP := V → AH → (V → AH → Prop) → Prop
/-- a built-in method without arguments -/
def MOp0 (cx : Cx) (d : Nat) (name : Str) (P : UnP) : Prop :=
  ∀ (A : Around) (p : Pos) (s : Shared) (own : Own) (H : AH) (v : V) (r : Value) (Q : V → AH → Prop), AOk d A → GRel cx own H s → VR v r → P v H Q →
    MethodOnS cx.prog cx.w A NoE name r p [] (Post cx own H s.heap Q) s
def tMeth0 (P : UnP) (T : TE) : TE := fun ρ H Q => T ρ H fun v H1 => P v H1 Q
theorem den_meth0 {o : Expr} {name : Str} {ap p : Pos} {P : UnP} {T : TE} (hop : MOp0 cx d name P) (D : EDen cx sc nm d o T)
    (hbase : ∀ env, attributeBase o name env (eval o env) = eval o env := by intro _; with_unfolding_all rfl) (hline : (ap.endLine == p.line) = true := by decide) :
    EDen cx sc nm d (.Call (.Attribute o name ap) [] [] p) (tMeth0 P T) := by
  intro A f s own H ρ Q a ok hn g F t
  refine Call_method0 (hbase _) hline (wp_then (D A f s own H ρ _ a ok hn g F t) fun v rv s1 own1 H1 e1 g1 x1 t1 => ?_)
  obtain ⟨T, id, h1, h2, h3, h4, h5, h6⟩ := hop A p s1 own1 H1 v rv Q a g1 e1 t1
  exact ⟨T, id, h1, h2, h3, h4, h5, post_trans x1 h6⟩

/-- a built-in method of one argument -/
def MOp1 (cx : Cx) (d : Nat) (name : Str) (P0 : V → AH → Prop) (P : BinP) : Prop :=
  ∀ (A : Around) (p : Pos) (s : Shared) (own : Own) (H : AH) (v : V) (r : Value) (x : Sem Value) (Q : V → AH → Prop), AOk d A → GRel cx own H s → VR v r → P0 v H →
    wpAny (model cx.prog cx.w) A x (fun r2 s2 => ∃ v2 own2 H2, VR v2 r2 ∧ GRel cx own2 H2 s2 ∧ Ext own H s.heap own2 H2 s2.heap ∧ P v v2 H2 Q) NoE s →
    MethodOnS cx.prog cx.w A NoE name r p [(false, x)] (Post cx own H s.heap Q) s
def tMeth1 (P0 : V → AH → Prop) (P : BinP) (T Ta : TE) : TE := fun ρ H Q => T ρ H fun v H1 => P0 v H1 ∧ Ta ρ H1 fun v2 H2 => P v v2 H2 Q
theorem den_meth1 {o e : Expr} {name : Str} {ap p : Pos} {P0 : V → AH → Prop} {P : BinP} {T Ta : TE} (hop : MOp1 cx d name P0 P) (D : EDen cx sc nm d o T) (Da : EDen cx sc nm d e Ta)
    (hbase : ∀ env, attributeBase o name env (eval o env) = eval o env := by intro _; with_unfolding_all rfl) (hs : ∀ env, starEach [e] env = [(false, eval e env)] := by intro _; rfl)
    (hline : (ap.endLine == p.line) = true := by decide) :
    EDen cx sc nm d (.Call (.Attribute o name ap) [e] [] p) (tMeth1 P0 P T Ta) := by
  intro A f s own H ρ Q a ok hn g F t
  refine Call_method1 (hbase _) (hs _) hline (wp_then (D A f s own H ρ _ a ok hn g F t) fun v rv s1 own1 H1 e1 g1 x1 t1 => ?_)
  obtain ⟨T, id, h1, h2, h3, h4, h5, h6⟩ := hop A p s1 own1 H1 v rv (eval e f.env) Q a g1 e1 t1.1
    (wp_then (Da A f s1 own1 H1 ρ _ a ok hn g1 (F.ext ok x1) t1.2) fun v2 r2 s2 own2 H2 e2 g2 x2 t2 => ⟨v2, own2, H2, e2, g2, x2, t2⟩)
  exact ⟨T, id, h1, h2, h3, h4, h5, post_trans x1 h6⟩

def isL (v : V) (H : AH) : Prop := match v with | .ref a => ∃ xs, H a = some (.list xs) | _ => False
def isS (v : V) (H : AH) : Prop := match v with | .str _ => True | _ => False

/-! str's -/
def pIsalnum : UnP := fun v H Q => match v with | .str x => Q (.bool (Txt.isalnum x)) H | _ => False
def pIsspace : UnP := fun v H Q => match v with | .str x => Q (.bool (Txt.isspace x)) H | _ => False
theorem m_isalnum : MOp0 cx d "isalnum" pIsalnum := by
  intro A p s own H v r Q a g e t
  cases e with
  | str x k => exact SB.isalnum (.here g (.bool _) t)
  | _ => exact t.elim
theorem m_isspace : MOp0 cx d "isspace" pIsspace := by
  intro A p s own H v r Q a g e t
  cases e with
  | str x k => exact SB.isspace (.here g (.bool _) t)
  | _ => exact t.elim
def pEndswith : BinP := fun v1 v2 H Q => match v1, v2 with | .str x, .str y => Q (.bool (Txt.endswith x y)) H | _, _ => False
theorem m_endswith : MOp1 cx d "endswith" isS pEndswith := by
  intro A p s own H v r x Q a g e h0 h
  cases e with
  | str y k =>
    refine SB.endswith (wpAny_mono h (fun r2 s2 ⟨v2, own2, H2, e2, g2, x2, t⟩ => ?_) fun _ _ e => e)
    cases e2 with
    | str z k => exact ⟨z, k, rfl, _, own2, H2, .bool _, g2, x2, t⟩
    | _ => exact t.elim
  | _ => exact h0.elim
def pJoin : BinP := fun v1 v2 H Q => match v1, v2 with
  | .str x, .ref a => ∃ l, H a = some (.list (strvs l)) ∧ (l.map (·.length)).sum + l.length * x.length ≤ 2 ^ 24 ∧ Q (.str (Str.join x l)) H
  | _, _ => False
theorem strvs_values : ∀ {l : List Str} {rs : List Value}, VRs (strvs l) rs → ∃ l' : List (Str × Tok), rs = strValues l' ∧ l'.map (·.1) = l
  | [], _, .nil => ⟨[], rfl, rfl⟩
  | x :: l, _, .cons h1 h2 => by
    obtain ⟨l', e1, e2⟩ := strvs_values h2
    cases h1
    exact ⟨(x, _) :: l', by rw [e1]; rfl, by rw [← e2]; rfl⟩
theorem joinOk_of {x : Str} {l : List Str} (h : (l.map (·.length)).sum + l.length * x.length ≤ 2 ^ 24) : JoinOk x l = true := by
  unfold JoinOk
  rw [StrLaws.joinTotal]
  have : ¬ (l.map (·.length)).sum + l.length * x.length > 2 ^ 24 := by omega
  simp [Builtin.Str.tooLong, sizeLine]
  omega
theorem m_join : MOp1 cx d "join" isS pJoin := by
  intro A p s own H v r x Q a g e h0 h
  cases e with
  | str y k =>
    refine SB.join (wpAny_mono h (fun r2 s2 ⟨v2, own2, H2, e2, g2, x2, t⟩ => ?_) fun _ _ e => e)
    cases e2 with
    | ref b =>
      obtain ⟨l, hl, hz, q⟩ := t
      obtain ⟨rs, n, vr, i⟩ := g2.list hl
      obtain ⟨l', rfl, e3⟩ := strvs_values vr
      refine ⟨b, l', rfl, i.isList, l, e3, joinOk_of hz, fun t' k => ⟨_, own2, H2, .str _ _, g2.toks _, x2, ?_⟩⟩
      rw [show Txt.join y l = Str.join y l from StrLaws.glued_eq_join y l]; exact q
    | _ => exact t.elim
  | _ => exact h0.elim

/-! list's -/
theorem upd_list {own H} {s : Shared} (g : GRel cx own H s) {a : Addr} {xs : List V} (e : H a = some (.list xs)) {rs : List Value} {n : Nat} (i : IsL s.heap a rs.toArray n) {f : Array Value → Array Value} {ys : List V} {ts : List Value}
    (hf : f rs.toArray = ts.toArray) (hy : VRs ys ts) {Q : V → AH → Prop} {v : V} {r : Value} (hv : VR v r) (q : Q v (H.set a (.list ys))) {tk : Nat} :
    Post cx own H s.heap Q r { s with heap := s.heap.update a (Obj.mapSeq f), toks := tk } := by
  have i2 := i.update f
  rw [hf] at i2
  exact ⟨v, own, _, hv, g.upd (o' := .list ys) e (by intro _; nofun) (Heap.SameBut.update ..) ⟨ts, _, hy, i2⟩, .upd e (Heap.SameBut.update ..), q⟩

def pAppend : BinP := fun v1 v2 H Q => match v1 with
  | .ref a => ∃ xs, H a = some (.list xs) ∧ xs.length < 2 ^ 24 ∧ Q .none (H.set a (.list (xs ++ [v2])))
  | _ => False
theorem list_self {own H} {s : Shared} (g : GRel cx own H s) {a : Addr} {xs : List V} (e : H a = some (.list xs)) : s.TypeIs (.ref a) "list" ∧ ∀ b, Value.ref a = .ref b → ∃ ob, s.heap.get? b = some ob ∧ ob.dict = none := by
  obtain ⟨rs, n, v, i⟩ := g.list e
  exact ⟨i.isList.typeIs, fun b hb => by cases hb; exact ⟨_, i, rfl⟩⟩
theorem m_append : MOp1 cx d "append" isL pAppend := by
  intro A p s own H v r x Q a g e h0 h
  cases e with
  | ref b =>
    obtain ⟨xs, hx⟩ := h0
    obtain ⟨hT, hd⟩ := list_self g hx
    refine ⟨"list", _, F.plainAttrs_list, F.slot_list_append, F.type_list_append, hT, hd, P.append_list (wpAny_mono h (fun r2 s2 ⟨v2, own2, H2, e2, g2, x2, t⟩ => ?_) fun _ _ e => e)⟩
    obtain ⟨ys, hy, hl, q⟩ := t
    obtain ⟨rs, n, vr, i⟩ := g2.list hy
    refine ⟨rs.toArray, n, by rw [size_of vr, sizeLine_eq]; omega, i, ?_⟩
    exact (upd_list g2 hy i (ts := rs ++ [r2]) (by simp) (vr.append (.cons e2 .nil)) .none q).trans x2
  | _ => exact h0.elim
def pClear : UnP := fun v H Q => match v with | .ref a => ∃ xs, H a = some (.list xs) ∧ xs.length ≤ 2 ^ 24 ∧ Q .none (H.set a (.list [])) | _ => False
theorem m_clear : MOp0 cx d "clear" pClear := by
  intro A p s own H v r Q a g e t
  cases e with
  | ref b =>
    obtain ⟨xs, hx, hl, q⟩ := t
    obtain ⟨hT, hd⟩ := list_self g hx
    obtain ⟨rs, n, vr, i⟩ := g.list hx
    exact ⟨"list", _, F.plainAttrs_list, F.slot_list_clear, F.type_list_clear, hT, hd, P.clear_list i (upd_list g hx i (ts := []) (by simp) .nil .none q) (by rw [size_of vr, sizeLine_eq]; omega)⟩
  | _ => exact t.elim
def pPop : UnP := fun v H Q => match v with | .ref a => ∃ xs y, H a = some (.list (xs ++ [y])) ∧ xs.length < 2 ^ 24 ∧ Q y (H.set a (.list xs)) | _ => False
theorem m_pop : MOp0 cx d "pop" pPop := by
  intro A p s own H v r Q a g e t
  cases e with
  | ref b =>
    obtain ⟨xs, y, hx, hl, q⟩ := t
    obtain ⟨hT, hd⟩ := list_self g hx
    obtain ⟨rs, n, vr, i⟩ := g.list hx
    have hlen := vr.length
    simp only [List.length_append, List.length_cons, List.length_nil] at hlen
    obtain ⟨ry, hr, hv⟩ := vr.get (i := xs.length) (v := y) (by simp)
    have vt := vr.take xs.length
    rw [List.take_left] at vt
    refine ⟨"list", _, F.plainAttrs_list, F.slot_list_pop, F.type_list_pop, hT, hd, P.pop_list (y := ry) i ?_ (upd_list g hx i (ts := rs.take xs.length) ?_ vt hv q) ?_⟩
    · simp only [List.size_toArray, hlen]; simpa using hr
    · simp only [List.size_toArray, hlen, List.eraseIdxIfInBounds_toArray]
      congr 1
      have : xs.length + 1 - 1 = xs.length := by omega
      rw [this, List.eraseIdx_eq_take_drop_succ, List.drop_of_length_le (by omega), List.append_nil]
    · simp only [List.size_toArray, hlen, sizeLine_eq]; omega
  | _ => exact t.elim
end
end Mine
namespace Mine

section
variable {cx : Cx} {sc : Scope} {nm : List Str} {d : Nat}

/-- a hidden object of ours enters -/
theorem GRel.enter {own H} {s : Shared} {h' : Heap} {c : Addr} {o : MO} {tk : Nat} (g : GRel cx own H s) (hc : H c = none) (ho : own c = none) (h0 : cx.h0.get? c = none ∧ sysModules < c) (hs : Heap.SameBut c s.heap h')
    (hh : Holds cx own c h' o) : GRel cx own (H.set c o) { s with heap := h', toks := tk } := by
  have na : ∀ b ob, b ≠ c → s.heap.get? b = some ob → h'.get? b = some ob := fun b ob hb eb => (hs.2 b hb).trans eb
  refine ⟨fun b o₂ eb => ?_, fun b ob eb => na b ob (by rintro rfl; rw [h0.1] at eb; cases eb) (g.base b ob eb), fun b o₂ eb hr' => ?_, fun D b eD => ?_, g.os, g.gens⟩
  · by_cases hb : b = c
    · subst hb; rw [AH.set_self] at eb; cases eb; exact hh
    · rw [AH.set_ne _ _ hb] at eb
      refine (g.obj b o₂ eb).stable (fun e ob he ee => na e ob ?_ ee) (fun _ e => e)
      rcases he with rfl | he
      · exact hb
      · rintro rfl; rw [ho] at he; cases he
  · by_cases hb : b = c
    · subst hb; exact h0
    · rw [AH.set_ne _ _ hb] at eb; exact g.new b o₂ eb hr'
  · obtain ⟨x, y, ob, z⟩ := g.aux D b eD
    have hD : D ≠ c := by rintro rfl; rw [ho] at eD; cases eD
    exact ⟨by rw [AH.set_ne _ _ hD]; exact x, y, ob, na _ _ hD z⟩
theorem Ext.enter {own H own' H'} {h h₁ h' : Heap} {ob : Obj} {o : MO} (x : Ext own H (h.push ob) own' H' h₁) (hs : Heap.SameBut h.objs.size h₁ h') : Ext own H h own' (H'.set h.objs.size o) h' :=
  ⟨fun a o' e1 e2 e3 => by
    have l := Nat.ne_of_lt (Heap.lt_size e3)
    obtain ⟨p, q, r⟩ := x.all a o' e1 e2 (Heap.get?_push_of_some _ e3)
    exact ⟨by rw [AH.set_ne _ _ l]; exact p, q, (hs.2 a l).trans r⟩, fun a c l k ob e1 e2 => by
    have l := Nat.ne_of_lt (Heap.lt_size e2)
    obtain ⟨p, o', r⟩ := x.tab a c _ k ob e1 (Heap.get?_push_of_some _ e2)
    exact ⟨by rw [AH.set_ne _ _ l]; exact p, o', (hs.2 a l).trans r⟩⟩

/-! several pieces one behind the other -/
def tAll : List TE → Loc → AH → (List V → AH → Prop) → Prop
  | [], _, H, Q => Q [] H
  | T :: r, ρ, H, Q => T ρ H fun v H1 => tAll r ρ H1 fun vs H2 => Q (v :: vs) H2

inductive LDen (cx : Cx) (sc : Scope) (nm : List Str) (d : Nat) : List Expr → List TE → Prop
  | nil : LDen cx sc nm d [] []
  | cons {e T es Ts} : EDen cx sc nm d e T → (∀ env rest, starEach (e :: rest) env = (false, eval e env) :: starEach rest env) → LDen cx sc nm d es Ts → LDen cx sc nm d (e :: es) (T :: Ts)
theorem lden_cons {e : Expr} {T : TE} {es Ts} (D : EDen cx sc nm d e T) (L : LDen cx sc nm d es Ts) (hs : ∀ env rest, starEach (e :: rest) env = (false, eval e env) :: starEach rest env := by intros; rfl) : LDen cx sc nm d (e :: es) (T :: Ts) := .cons D hs L

theorem spliced_of : ∀ {es : List Expr} {Ts : List TE}, LDen cx sc nm d es Ts → ∀ {A : Around} {f : Frm} {p : Pos} {s : Shared} {own : Own} {H : AH} {ρ : Loc} {Q : List V → AH → Prop} {R : List Value → Shared → Prop},
    AOk d A → f.Ok cx sc → f.nm = nm → GRel cx own H s → FRel cx own H f ρ s.heap → tAll Ts ρ H Q →
    (∀ vs rs s' own' H', VRs vs rs → GRel cx own' H' s' → Ext own H s.heap own' H' s'.heap → Q vs H' → R rs s') →
    wpAny (model cx.prog cx.w) A (spliced (backTo p (starEach es f.env))) R NoE s
  | _, _, .nil, A, f, p, s, own, H, ρ, Q, R, a, ok, hn, g, F, t, k => args_nil (k [] [] s own H .nil g (.refl ..) t)
  | _, _, .cons (e := e) D hs L, A, f, p, s, own, H, ρ, Q, R, a, ok, hn, g, F, t, k => by
    refine args_cons (wp_then (D A f s own H ρ _ a ok hn g F t) fun v rv s1 own1 H1 e1 g1 x1 t1 => ?_) (hs _ _)
    exact spliced_of L a ok hn g1 (F.ext ok x1) t1 fun vs rs s2 own2 H2 e2 g2 x2 t2 => k _ _ s2 own2 H2 (.cons e1 e2) g2 (x1.trans x2) t2

/-! displays -/
def tTuple (Ts : List TE) : TE := fun ρ H Q => tAll Ts ρ H fun vs H1 => vs.length ≤ 2 ^ 24 ∧ ∀ c, H1 c = none → Q (.ref c) (H1.set c (.tup vs))
theorem den_tuple {es : List Expr} {k : Nat} {p : Pos} {Ts : List TE} (L : LDen cx sc nm d es Ts) : EDen cx sc nm d (.Tuple es k p) (tTuple Ts) := by
  intro A f s own H ρ Q a ok hn g F t
  refine Tuple_ (spliced_of L a ok hn g F t fun vs rs s1 own1 H1 e1 g1 x1 t1 => ?_)
  have hl := e1.length
  refine wpAny_newObj_type ?_ (by show rs.toArray.size ≤ sizeLine; rw [size_of e1, sizeLine_eq]; exact t1.1)
  exact ⟨_, own1, _, .ref _, g1.alloc (o := .tup vs) rfl ⟨rs, 0, e1, Heap.get?_push_size _ rfl⟩, x1.trans .alloc, t1.2 _ g1.fresh⟩
def tList (Ts : List TE) : TE := fun ρ H Q => tAll Ts ρ H fun vs H1 => vs.length ≤ 2 ^ 24 ∧ ∀ c, H1 c = none → Q (.ref c) (H1.set c (.list vs))
theorem den_list {es : List Expr} {p : Pos} {Ts : List TE} (L : LDen cx sc nm d es Ts) : EDen cx sc nm d (.List es p) (tList Ts) := by
  intro A f s own H ρ Q a ok hn g F t
  refine List_ (spliced_of L a ok hn g F t fun vs rs s1 own1 H1 e1 g1 x1 t1 => ?_)
  have hl := e1.length
  refine wpAny_newObj_type ?_ (by show rs.toArray.size ≤ sizeLine; rw [size_of e1, sizeLine_eq]; exact t1.1)
  exact (made_list g1 e1 t1.2 _ rfl).trans x1

/-- a dict of two written keys -/
def tDict2 (k1 : Str) (T1 : TE) (k2 : Str) (T2 : TE) : TE := fun ρ H Q => T1 ρ H fun v1 H1 => T2 ρ H1 fun v2 H2 => ∀ c, H2 c = none → Q (.ref c) (H2.set c (.dict [(k1, v1), (k2, v2)]))
theorem den_dict2 {k1 k2 : Str} {i1 i2 : Nat} {p1 p2 p : Pos} {e1 e2 : Expr} {T1 T2 : TE} (hne : (k1 == k2) = false) (D1 : EDen cx sc nm d e1 T1) (D2 : EDen cx sc nm d e2 T2) :
    EDen cx sc nm d (.Dict [some (.Constant (.str k1) i1 p1), some (.Constant (.str k2) i2 p2)] [e1, e2] p) (tDict2 k1 T1 k2 T2) := by
  intro A f s own H ρ Q a ok hn g F t
  refine wpAny_Dict_pairs (knd := PySem.strKind cx.prog cx.w) (pairs := [(eval (.Constant (.str k1) i1 p1) f.env, do let x ← eval e1 f.env; standAt p; pure x), (eval (.Constant (.str k2) i2 p2) f.env, do let x ← eval e2 f.env; standAt p; pure x)]) rfl (by simp) (by simp) ?_
  have g0 : GRel cx own H { s with heap := s.heap.push { cls := .type "dict", data := .dict #[] } } := g.grow fun a o e => Heap.get?_push_of_some _ e
  have x0 : Ext own H s.heap own H (s.heap.push { cls := .type "dict", data := .dict #[] }) := .grow fun a o e => Heap.get?_push_of_some _ e
  refine evalPairs_cons (Constant_str (wpAny_bind ?_))
  have F0 : FRel cx own H f ρ (s.heap.push { cls := .type "dict", data := .dict #[] }) := F.ext ok x0
  refine wp_then (D1 A f _ own H ρ _ a ok hn (g0.toks _) F0 t) fun v1 r1 s1 own1 H1 u1 g1 x1 t1 => wpAny_bind (wpAny_standAt (wpAny_pure ?_))
  refine evalPairs_cons (Constant_str (wpAny_bind ?_))
  refine wp_then (D2 A f _ own1 H1 ρ _ a ok hn (g1.toks _) (F0.ext ok x1) t1) fun v2 r2 s2 own2 H2 u2 g2 x2 t2 => wpAny_bind (wpAny_standAt (wpAny_pure ?_))
  refine evalPairs_nil ?_
  have x12 : Ext own H (s.heap.push { cls := .type "dict", data := .dict #[] }) own2 H2 s2.heap := x1.trans x2
  have l : s.heap.objs.size < (s.heap.push { cls := .type "dict", data := .dict #[] }).objs.size := by rw [Heap.size_push]; omega
  have hc : H2 s.heap.objs.size = none := (x12.all _ _ g.fresh g.freshOwn (Heap.get?_push_size _ rfl)).1
  have hco : own2 s.heap.objs.size = none := (x12.all _ _ g.fresh g.freshOwn (Heap.get?_push_size _ rfl)).2.1
  have hget : s2.heap.get? s.heap.objs.size = some { cls := .type "dict", data := .dict #[] } := x12.keep _ _ g.fresh g.freshOwn (Heap.get?_push_size _ rfl)
  refine ⟨[(k1, r1), (k2, r2)], ⟨strKind_is _ _ _ _, rfl, strKind_is _ _ _ _, rfl, trivial⟩, ⟨_, #[], 0, hget, ⟨rfl, rfl, rfl⟩, rfl, fun _ he => by simp at he, .nil, List.nodup_nil⟩, fun h' hd hs => ?_⟩
  have hk : k1 ≠ k2 := by simpa using hne
  have hm : merged ([] : List (Str × Value)) [(k1, r1), (k2, r2)] = [(k1, r1), (k2, r2)] := by simp [merged, stored, hk]
  rw [hm] at hd
  exact ⟨_, own2, _, .ref _, g2.enter (o := .dict [(k1, v1), (k2, v2)]) hc hco ⟨g.fresh0, g.hiSys⟩ hs ⟨_, .cons u1 (.cons u2 .nil), hd⟩, x12.enter hs, t2 _ hc⟩

/-- an empty dict, to be keyed by tuples -/
def tBots : TE := fun _ H Q => ∀ c, H c = none → Q (.ref c) (H.set c (.bots []))
theorem den_bots {p : Pos} : EDen cx sc nm d (.Dict [] [] p) tBots := by
  intro A f s own H ρ Q a ok hn g F t
  rw [eval_Dict_empty]
  refine wpAny_bind (wpAny_standAt (wpAny_newObj_type ?_ (by show (#[] : Array DictEntry).size ≤ sizeLine + 1; simp)))
  exact ⟨_, own, _, .ref _, g.alloc (o := .bots []) rfl ⟨[], .nil, Heap.DictOfH.new _⟩, .alloc, t _ g.fresh⟩

/-! dict.get with a default -/
def isD (v : V) (H : AH) : Prop := match v with | .ref a => ∃ es, H a = some (.dict es) | _ => False
def tDictGet2 (T Tk Td : TE) : TE := fun ρ H Q => T ρ H fun v H1 => isD v H1 ∧ Tk ρ H1 fun k H2 => Td ρ H2 fun dv H3 => match v, k with
  | .ref a, .str x => ∃ es, H3 a = some (.dict es) ∧ Q ((pget es x).getD dv) H3
  | _, _ => False
theorem den_dictget2 {o e1 e2 : Expr} {ap p : Pos} {T Tk Td : TE} (D : EDen cx sc nm d o T) (D1 : EDen cx sc nm d e1 Tk) (D2 : EDen cx sc nm d e2 Td)
    (hbase : ∀ env, attributeBase o "get" env (eval o env) = eval o env := by intro _; with_unfolding_all rfl) (hs : ∀ env, starEach [e1, e2] env = [(false, eval e1 env), (false, eval e2 env)] := by intro _; rfl)
    (hline : (ap.endLine == p.line) = true := by decide) :
    EDen cx sc nm d (.Call (.Attribute o "get" ap) [e1, e2] [] p) (tDictGet2 T Tk Td) := by
  intro A f s own H ρ Q a ok hn g F t
  refine Call_method2 (hbase _) (hs _) hline (wp_then (D A f s own H ρ _ a ok hn g F t) fun v rv s1 own1 H1 u1 g1 x1 t1 => ?_)
  obtain ⟨t0, t1⟩ := t1
  cases u1 with
  | ref b =>
    obtain ⟨es, he⟩ := t0
    have hsys := g1.notSys he (by intro _; nofun)
    obtain ⟨rs, pr, i⟩ := g1.dict he
    have hob : ∃ ob, s1.heap.get? b = some ob ∧ ob.dict = none := by obtain ⟨o, _, _, ho, hx, _⟩ := i; exact ⟨o, ho, hx.2.1⟩
    have F1 := F.ext ok x1
    refine ⟨"dict", _, PySem.F.plainAttrs_dict, PySem.F.slot_dict_get, PySem.F.type_dict_get, i.typeIs, (fun c hc => by cases hc; exact hob),
      wpAny_dict_get2 (knd := PySem.strKind cx.prog cx.w) hsys ?_⟩
    refine wp_then (D1 A f s1 own1 H1 ρ _ a ok hn g1 F1 t1) fun kv r2 s2 own2 H2 u2 g2 x2 t2 => ?_
    refine wp_then (D2 A f s2 own2 H2 ρ _ a ok hn g2 (F1.ext ok x2) t2) fun dv r3 s3 own3 H3 u3 g3 x3 t3 => ?_
    cases u2 with
    | str x k =>
      obtain ⟨es', he', q⟩ := t3
      obtain ⟨rs', pr', i'⟩ := g3.dict he'
      refine ⟨x, valueAt rs', strKind_is _ _ _ _, i'.mapOf, ?_⟩
      have hv : ∃ r, (valueAt rs' x).getD r3 = r ∧ VR ((pget es' x).getD dv) r := by
        cases hp : pget es' x with
        | none => rw [(pr'.value x).2 hp]; exact ⟨r3, rfl, u3⟩
        | some v => obtain ⟨r, hr, hv⟩ := (pr'.value x).1 v hp; rw [hr]; exact ⟨r, rfl, hv⟩
      obtain ⟨r, e, hv⟩ := hv
      rw [e]
      exact ⟨_, own3, H3, hv, g3.toks _, (x1.trans x2).trans x3, q⟩
    | _ => exact t3.elim
  | _ => exact t0.elim
end
end Mine
namespace Mine

inductive Fl where
  | next | brk | cont
  | ret (v : V)

inductive FlR : Fl → Flow → Prop
  | next : FlR .next .next
  | brk : FlR .brk .brk
  | cont : FlR .cont .cont
  | ret {v r} : VR v r → FlR (.ret v) (.ret r)

abbrev TS := Loc → AH → (Fl → Loc → AH → Prop) → Prop

structure ExtW (wr : List Addr) (own : Own) (H : AH) (h : Heap) (own' : Own) (H' : AH) (h' : Heap) : Prop where
  all : ∀ a o, H a = none → own a = none → h.get? a = some o → H' a = none ∧ own' a = none ∧ ∃ o', h'.get? a = some o' ∧ (a ∉ wr → o' = o)
  tab : ∀ (a c : Addr) (l k : Int) (ob : Obj), H a = some (.tab c l k) → h.get? a = some ob → H' a = some (.tab c l k) ∧ ∃ ob', h'.get? a = some ob'

theorem Ext.toW {wr own H h own' H' h'} (x : Ext own H h own' H' h') : ExtW wr own H h own' H' h' := ⟨fun a o e1 e2 e3 => let ⟨p, q, r⟩ := x.all a o e1 e2 e3; ⟨p, q, o, r, fun _ => rfl⟩, x.tab⟩
theorem ExtW.refl (wr : List Addr) (own : Own) (H : AH) (h : Heap) : ExtW wr own H h own H h := (Ext.refl own H h).toW
theorem ExtW.trans {wr own₁ H₁ h₁ own₂ H₂ h₂ own₃ H₃ h₃} (x : ExtW wr own₁ H₁ h₁ own₂ H₂ h₂) (y : ExtW wr own₂ H₂ h₂ own₃ H₃ h₃) : ExtW wr own₁ H₁ h₁ own₃ H₃ h₃ :=
  ⟨fun a o e1 e2 e3 => let ⟨p, q, o1, r, k⟩ := x.all a o e1 e2 e3; let ⟨p', q', o2, r', k'⟩ := y.all a o1 p q r; ⟨p', q', o2, r', fun h => (k' h).trans (k h)⟩, fun a c l k ob e1 e2 => let ⟨p, o', q⟩ := x.tab a c l k ob e1 e2; y.tab a c l k o' p q⟩
/-- what is new is no one's loss -/
theorem ExtW.toExt {wr own H h own' H' h'} (x : ExtW wr own H h own' H' h') (hw : ∀ a ∈ wr, h.objs.size ≤ a) : Ext own H h own' H' h' :=
  ⟨fun a o e1 e2 e3 => let ⟨p, q, o1, r, k⟩ := x.all a o e1 e2 e3; ⟨p, q, by rw [r, k fun m => absurd (Heap.lt_size e3) (Nat.not_lt.mpr (hw a m))]⟩, x.tab⟩

section
variable {cx : Cx} {sc : Scope} {nm : List Str} {d : Nat}

def PostS (cx : Cx) (f : Frm) (own : Own) (H : AH) (h : Heap) (Q : Fl → Loc → AH → Prop) (fl : Flow) (s' : Shared) : Prop :=
  ∃ fl' ρ' own' H', FlR fl' fl ∧ GRel cx own' H' s' ∧ ExtW f.wr own H h own' H' s'.heap ∧ FRel cx own' H' f ρ' s'.heap ∧ Q fl' ρ' H'

def S1Den (cx : Cx) (sc : Scope) (nm : List Str) (d : Nat) (st : Stmt) (T : TS) : Prop :=
  ∀ (A : Around) (f : Frm) (s : Shared) (own : Own) (H : AH) (ρ : Loc) (Q : Fl → Loc → AH → Prop),
    AOk d A → f.Ok cx sc → f.nm = nm → GRel cx own H s → FRel cx own H f ρ s.heap → T ρ H Q →
    wpAny (model cx.prog cx.w) A (exec st f.env) (PostS cx f own H s.heap Q) NoE s
def SDen (cx : Cx) (sc : Scope) (nm : List Str) (d : Nat) (ss : List Stmt) (T : TS) : Prop :=
  ∀ (A : Around) (f : Frm) (s : Shared) (own : Own) (H : AH) (ρ : Loc) (Q : Fl → Loc → AH → Prop),
    AOk d A → f.Ok cx sc → f.nm = nm → GRel cx own H s → FRel cx own H f ρ s.heap → T ρ H Q →
    wpAny (model cx.prog cx.w) A (execs ss f.env) (PostS cx f own H s.heap Q) NoE s

theorem PostS.trans {f own H h own' H'} {h' : Heap} {Q : Fl → Loc → AH → Prop} {fl s'} (x : ExtW f.wr own H h own' H' h') (p : PostS cx f own' H' h' Q fl s') : PostS cx f own H h Q fl s' :=
  let ⟨a, b, o2, H2, c, e, y, F, q⟩ := p; ⟨a, b, o2, H2, c, e, x.trans y, F, q⟩
theorem post_transS {A : Around} {f : Frm} {s s' : Shared} {own H own' H'} {t : Sem Flow} {Q : Fl → Loc → AH → Prop} (x : ExtW f.wr own H s.heap own' H' s'.heap)
    (h : wpAny (model cx.prog cx.w) A t (PostS cx f own' H' s'.heap Q) NoE s') : wpAny (model cx.prog cx.w) A t (PostS cx f own H s.heap Q) NoE s' :=
  wpAny_mono h (fun _ _ p => p.trans x) fun _ _ e => e

def tNil : TS := fun ρ H Q => Q .next ρ H
def tSeq (T1 T2 : TS) : TS := fun ρ H Q => T1 ρ H fun fl ρ1 H1 => match fl with
  | .next => T2 ρ1 H1 Q
  | .brk => Q .brk ρ1 H1
  | .cont => Q .cont ρ1 H1
  | .ret v => Q (.ret v) ρ1 H1
theorem sden_nil : SDen cx sc nm d [] tNil := by
  intro A f s own H ρ Q a ok hn g F t
  exact wpAny_execs_nil ⟨.next, ρ, own, H, .next, g, .refl .., F, t⟩
theorem sden_cons {st : Stmt} {ss : List Stmt} {T1 T2 : TS} (D1 : S1Den cx sc nm d st T1) (D2 : SDen cx sc nm d ss T2) : SDen cx sc nm d (st :: ss) (tSeq T1 T2) := by
  intro A f s own H ρ Q a ok hn g F t
  refine wpAny_execs_cons (wpAny_mono (D1 A f s own H ρ _ a ok hn g F t) (fun fl s1 p => ?_) fun _ _ e => e)
  obtain ⟨fl', ρ1, own1, H1, r, g1, x1, F1, t1⟩ := p
  cases r with
  | next => exact post_transS x1 (D2 A f s1 own1 H1 ρ1 Q a ok hn g1 F1 t1)
  | brk => exact ⟨.brk, ρ1, own1, H1, .brk, g1, x1, F1, t1⟩
  | cont => exact ⟨.cont, ρ1, own1, H1, .cont, g1, x1, F1, t1⟩
  | ret hv => exact ⟨.ret _, ρ1, own1, H1, .ret hv, g1, x1, F1, t1⟩
/-- a block of one statement -/
theorem sden_one {st : Stmt} {T1 : TS} (D1 : S1Den cx sc nm d st T1) : SDen cx sc nm d [st] (tSeq T1 tNil) := sden_cons D1 sden_nil

/-! storing a name -/
theorem LookN.fun {env : Env} {x : Str} {h : Heap} {r1 r2 : Value} (a : LookN env x h r1) (b : LookN env x h r2) : True := trivial

theorem store_of' {A : Around} {f : Frm} {s : Shared} {own : Own} {H : AH} {ρ : Loc} {i : Nat} {x : Str} {v : V} {rv : Value} {R : Unit → Shared → Prop} (ok : f.Ok cx sc) (hx : f.nm[i]? = some x)
    (hk : sc.names.lookup x = some .local ∨ sc.names.lookup x = some .cell) (g : GRel cx own H s) (F : FRel cx own H f ρ s.heap) (hv : VR v rv)
    (k : ∀ s', GRel cx own H s' → ExtW f.wr own H s.heap own H s'.heap → FRel cx own H f (ρ.set i (some v)) s'.heap → (sc.names.lookup x = some .local → ∀ a o, a ≠ f.env.locals → s.heap.get? a = some o → s'.heap.get? a = some o) → R () s') :
    wpAny (model cx.prog cx.w) A (storeName f.env x rv) R NoE s := by
  have hkind : ∀ y, f.env.kindOf y = sc.names.lookup y := fun y => by unfold Env.kindOf; rw [ok.sc]
  have apart : ∀ {j : Nat} {y : Str} {u : V}, f.nm[j]? = some y → (ρ.set i (some v))[j]? = some (some u) → (j = i ∧ y = x ∧ u = v) ∨ (y ≠ x ∧ ρ[j]? = some (some u)) := by
    intro j y u hy hu
    by_cases hj : j = i
    · subst hj
      rw [hx] at hy; cases hy
      by_cases hl : j < ρ.length
      · rw [List.getElem?_set_self hl] at hu
        simp only [Option.some.injEq] at hu
        exact .inl ⟨rfl, rfl, hu.symm⟩
      · rw [List.getElem?_eq_none (by rw [List.length_set]; omega)] at hu; cases hu
    · rw [List.getElem?_set_ne (by omega)] at hu
      refine .inr ⟨fun e => hj ?_, hu⟩
      subst e
      exact (List.getElem?_inj (List.getElem?_eq_some_iff.mp hy).1 ok.nd).mp (hy.trans hx.symm)
  have gen : ∀ {h' : Heap} {c : Addr} {tk : Nat}, c ∈ f.wr → Heap.SameBut c s.heap h' → (∃ o, h'.get? c = some o) → LookN f.env x h' rv → (∃ m, h'.Ns f.env.locals m) →
      (∀ y e, f.env.kindOf y = some .cell → f.env.cells.lookup y = some e → e = c → ∃ o u, h'.get? e = some o ∧ o.data = .cell u) →
      (∀ y r, y ≠ x → LookN f.env y s.heap r → LookN f.env y h' r) → (sc.names.lookup x = some .local → c = f.env.locals) → R () { s with heap := h', toks := tk } := by
    intro h' c tk hc hs hex hl hns hcell hoth hloc
    have hcf := ok.wf c hc
    obtain ⟨_, hcH, hcO⟩ := F.mine c hcf
    have hc0 := F.wr0 c hc
    refine k _ (g.hidden fun a o ha e => ?_) ⟨fun a o e1 e2 e => ⟨e1, e2, ?_⟩, fun a _ _ _ ob e1 e2 => ⟨e1, ob, (hs.2 a (by rintro rfl; rw [hcH] at e1; cases e1)).trans e2⟩⟩ ⟨fun j y u hy hu => ?_, hns, fun y e he hel => ?_, fun a ha => ?_, F.wr0⟩ (fun hk a o ha e => (hs.2 a (by rw [hloc hk]; exact ha)).trans e)
    · have : a ≠ c := by
        rintro rfl
        rcases ha with ha | ha | ha
        · exact ha hcH
        · exact ha hcO
        · exact ha hc0
      exact (hs.2 a this).trans e
    · by_cases hac : a = c
      · subst hac
        obtain ⟨o', e'⟩ := hex
        exact ⟨o', e', fun h => absurd hc h⟩
      · exact ⟨o, (hs.2 a hac).trans e, fun _ => rfl⟩
    · rcases apart hy hu with ⟨rfl, rfl, rfl⟩ | ⟨hne, hu⟩
      · exact ⟨rv, hv, hl⟩
      · obtain ⟨r, a, b⟩ := F.vars j y u hy hu
        exact ⟨r, a, hoth y r hne b⟩
    · by_cases hec : e = c
      · exact hcell y e he hel hec
      · obtain ⟨o, u, a, b⟩ := F.cell y e he hel
        exact ⟨o, u, (hs.2 e hec).trans a, b⟩
    · obtain ⟨⟨o, e⟩, a1, a2⟩ := F.mine a ha
      refine ⟨?_, a1, a2⟩
      by_cases hac : a = c
      · subst hac; exact hex
      · exact ⟨o, (hs.2 a hac).trans e⟩
  rcases hk with hk | hk
  · obtain ⟨m, hm⟩ := F.ns
    refine wpAny_storeName_local (by rw [hkind]; exact hk) hm (fun h' hn hs => ?_) (by rw [ok.fn]; rfl)
    have ex : ∃ o, h'.get? f.env.locals = some o := by obtain ⟨o, _, _, e, _⟩ := hn; exact ⟨o, e⟩
    refine gen ok.lwr hs ex (.inl ⟨by rw [hkind]; exact hk, _, hn, by simp⟩) ⟨_, hn⟩ (fun y e _ hel hec => ?_) (fun y r hne l => ?_) fun _ => rfl
    · exact absurd hec (ok.cfo y e hel).2
    · rcases l with ⟨k1, m2, hm2, e2⟩ | ⟨k1, c, o, hc, e, dt⟩
      · refine .inl ⟨k1, _, hn, ?_⟩
        rw [if_neg hne]
        obtain ⟨o1, es1, ep1, a1, b1, _, c1⟩ := hm
        obtain ⟨o2, es2, ep2, a2, b2, _, c2⟩ := hm2
        rw [a1] at a2; cases a2
        rw [b1] at b2; cases b2
        rw [← e2, ← c2 y, c1 y]
      · exact .inr ⟨k1, c, o, hc, (hs.2 c (ok.cfo y c hc).2).trans e, dt⟩
  · obtain ⟨c, hc⟩ := ok.cex x (by rw [hkind]; exact hk)
    obtain ⟨o, v₀, e, dt⟩ := F.cell x c (by rw [hkind]; exact hk) hc
    refine wpAny_storeName_cell ok.fn (by rw [hkind]; exact hk) hc ⟨o, e, dt⟩ fun h' hn hs => ?_
    obtain ⟨o', e', d'⟩ := id hn
    have hcw := ok.cwr x c (by rw [hkind]; exact hk) hc
    have hne : f.env.locals ≠ c := fun e => (ok.cfo x c hc).2 e.symm
    refine gen (tk := s.toks) hcw hs ⟨o', e'⟩ (.inr ⟨.inl (by rw [hkind]; exact hk), c, o', hc, e', d'⟩) ?_ (fun y e2 _ _ he => by subst he; exact ⟨o', _, e', d'⟩) (fun y r hxy l => ?_) fun h => by rw [hk] at h; cases h
    · obtain ⟨m, hm⟩ := F.ns
      exact ⟨m, hm.sameBut hs hne⟩
    · rcases l with ⟨k1, m2, hm2, e2⟩ | ⟨k1, c2, o2, hc2, e2, dt2⟩
      · exact .inl ⟨k1, m2, hm2.sameBut hs hne, e2⟩
      · have : c2 ≠ c := by rintro rfl; exact hxy (ok.inj y x c2 hc2 hc)
        exact .inr ⟨k1, c2, o2, hc2, (hs.2 c2 this).trans e2, dt2⟩

theorem store_of {A : Around} {f : Frm} {s : Shared} {own : Own} {H : AH} {ρ : Loc} {i : Nat} {x : Str} {v : V} {rv : Value} {R : Unit → Shared → Prop} (ok : f.Ok cx sc) (hx : f.nm[i]? = some x)
    (hk : sc.names.lookup x = some .local ∨ sc.names.lookup x = some .cell) (g : GRel cx own H s) (F : FRel cx own H f ρ s.heap) (hv : VR v rv)
    (k : ∀ s', GRel cx own H s' → ExtW f.wr own H s.heap own H s'.heap → FRel cx own H f (ρ.set i (some v)) s'.heap → R () s') :
    wpAny (model cx.prog cx.w) A (storeName f.env x rv) R NoE s := store_of' ok hx hk g F hv fun s' a b c _ => k s' a b c

def tSet (i : Nat) (T : TE) : TS := fun ρ H Q => T ρ H fun v H1 => Q .next (ρ.set i (some v)) H1
theorem sden_assign {i : Nat} {x : Str} {e : Expr} {p p' : Pos} {T : TE} (hx : nm[i]? = some x) (hk : sc.names.lookup x = some .local ∨ sc.names.lookup x = some .cell) (D : EDen cx sc nm d e T)
    (hs : ∀ env, swapsWith e (some (.Name x p')) p.line env = pure false := by intro _; rfl) : S1Den cx sc nm d (.Assign [.Name x p'] e p) (tSet i T) := by
  intro A f s own H ρ Q a ok hn g F t
  refine wpAny_Assign_Name (wp_then (D A f s own H ρ _ a ok hn g F t) fun v rv s1 own1 H1 e1 g1 x1 t1 => ?_) (hs _)
  have F1 := F.ext ok x1
  exact store_of ok (hn ▸ hx) hk g1 F1 e1 fun s2 g2 x2 F2 => ⟨.next, _, own1, H1, .next, g2, x1.toW.trans x2, F2, t1⟩

def tRet (T : TE) : TS := fun ρ H Q => T ρ H fun v H1 => Q (.ret v) ρ H1
theorem sden_ret {e : Expr} {p : Pos} {T : TE} (D : EDen cx sc nm d e T) : S1Den cx sc nm d (.Return (some e) p) (tRet T) := by
  intro A f s own H ρ Q a ok hn g F t
  refine wpAny_Return_some (wp_then (D A f s own H ρ _ a ok hn g F t) fun v rv s1 own1 H1 e1 g1 x1 t1 => ?_)
  exact ⟨.ret v, ρ, own1, H1, .ret e1, g1, x1.toW, F.ext ok x1, t1⟩
def tRet0 : TS := fun ρ H Q => Q (.ret .none) ρ H
theorem sden_ret0 {p : Pos} : S1Den cx sc nm d (.Return none p) tRet0 := by
  intro A f s own H ρ Q a ok hn g F t
  exact wpAny_Return_none ⟨.ret .none, ρ, own, H, .ret .none, g, .refl .., F, t⟩
def tCont : TS := fun ρ H Q => Q .cont ρ H
def tBrk : TS := fun ρ H Q => Q .brk ρ H
theorem sden_cont {p : Pos} : S1Den cx sc nm d (.Continue p) tCont := by
  intro A f s own H ρ Q a ok hn g F t
  exact fun _ _ _ => ⟨.cont, ρ, own, H, .cont, g, .refl .., F, t⟩
theorem sden_brk {p : Pos} : S1Den cx sc nm d (.Break p) tBrk := by
  intro A f s own H ρ Q a ok hn g F t
  exact fun _ _ _ => ⟨.brk, ρ, own, H, .brk, g, .refl .., F, t⟩
theorem sden_pass {p : Pos} : S1Den cx sc nm d (.Pass p) tNil := by
  intro A f s own H ρ Q a ok hn g F t
  exact wpAny_Pass ⟨.next, ρ, own, H, .next, g, .refl .., F, t⟩

def tIfS (C : TB) (T1 T2 : TS) : TS := fun ρ H Q => C ρ H fun b H1 => if b = true then T1 ρ H1 Q else T2 ρ H1 Q
theorem sden_if {c : Expr} {b1 b2 : List Stmt} {p : Pos} {C : TB} {T1 T2 : TS} (DC : BDen cx sc nm d c C) (D1 : SDen cx sc nm d b1 T1) (D2 : SDen cx sc nm d b2 T2) : S1Den cx sc nm d (.If c b1 b2 p) (tIfS C T1 T2) := by
  intro A f s own H ρ Q a ok hn g F t
  refine wpAny_If (wp_thenB (DC A f s own H ρ _ a ok hn g F t) fun b s1 own1 H1 g1 x1 t1 => ?_)
  cases b with
  | true => exact post_transS x1.toW (D1 A f s1 own1 H1 ρ Q a ok hn g1 (F.ext ok x1) (by simpa using t1))
  | false => exact post_transS x1.toW (D2 A f s1 own1 H1 ρ Q a ok hn g1 (F.ext ok x1) (by simpa using t1))

/-- an expression for what it does: it hands back None -/
def tExpr (T : TE) : TS := fun ρ H Q => T ρ H fun v H1 => (match v with | .none => True | _ => False) ∧ Q .next ρ H1
theorem sden_expr {e : Expr} {p : Pos} {T : TE} (D : EDen cx sc nm d e T) (hi : ∀ env : Env, env.scope.kind = .function → interactive env = false := by intro env h; unfold interactive; rw [h]; rfl)
    (hs : ∀ env, swapsWith e none p.line env = pure false := by intro _; rfl) : S1Den cx sc nm d (.Expr e p) (tExpr T) := by
  intro A f s own H ρ Q a ok hn g F t
  refine wpAny_Expr (wp_then (D A f s own H ρ _ a ok hn g F t) fun v rv s1 own1 H1 e1 g1 x1 t1 => ?_) (hi _ ok.fn) (hs _)
  cases e1 with
  | none => exact ⟨.next, ρ, own1, H1, .next, g1, x1.toW, F.ext ok x1, t1.2⟩
  | _ => exact t1.1.elim

/-! while -/
def tWhile (C : TB) (B : TS) : TS := fun ρ H Q => ∃ (I : Nat → Loc → AH → Prop) (n : Nat), I n ρ H ∧ ∀ n ρ H, I n ρ H → C ρ H fun b H1 =>
  if b = true then B ρ H1 fun fl ρ2 H2 => match fl with
    | .next | .cont => ∃ m, m < n ∧ I m ρ2 H2
    | .brk => Q .next ρ2 H2
    | .ret v => Q (.ret v) ρ2 H2
  else Q .next ρ H1
theorem sden_while {c : Expr} {b : List Stmt} {p : Pos} {C : TB} {B : TS} (DC : BDen cx sc nm d c C) (DB : SDen cx sc nm d b B) : S1Den cx sc nm d (.While c b [] p) (tWhile C B) := by
  intro A f s own H ρ Q a ok hn g F t
  obtain ⟨I, n, h0, hI⟩ := t
  refine wpAny_While (codeAny_whileLoop (fun n s' => ∃ own' H' ρ', GRel cx own' H' s' ∧ ExtW f.wr own H s.heap own' H' s'.heap ∧ FRel cx own' H' f ρ' s'.heap ∧ I n ρ' H') ?_ n ⟨own, H, ρ, g, .refl .., F, h0⟩)
  rintro n s1 ⟨own1, H1, ρ1, g1, x1, F1, h1⟩
  refine wpAny_mono (wp_thenB (DC A f s1 own1 H1 ρ1 _ a ok hn g1 F1 (hI n ρ1 H1 h1)) (R := fun b s2 => if b = true then _ else _) fun b s2 own2 H2 g2 x2 t2 => ?_) (fun _ _ h => h) fun _ _ e => e.elim
  cases b with
  | true =>
    simp only [if_true] at t2 ⊢
    refine wpAny_mono (DB A f s2 own2 H2 ρ1 _ a ok hn g2 (F1.ext ok x2) t2) (fun fl s3 p => ?_) fun _ _ e => e.elim
    obtain ⟨fl', ρ3, own3, H3, r, g3, x3, F3, t3⟩ := p
    have x := (x1.trans x2.toW).trans x3
    cases r with
    | next => obtain ⟨m, hm, hI'⟩ := t3; exact ⟨m, hm, own3, H3, ρ3, g3, x, F3, hI'⟩
    | cont => obtain ⟨m, hm, hI'⟩ := t3; exact ⟨m, hm, own3, H3, ρ3, g3, x, F3, hI'⟩
    | brk => exact ⟨.next, ρ3, own3, H3, .next, g3, x, F3, t3⟩
    | ret hv => exact ⟨.ret _, ρ3, own3, H3, .ret hv, g3, x, F3, t3⟩
  | false =>
    simp only [Bool.false_eq_true, if_false] at t2 ⊢
    exact wpAny_execs_nil ⟨.next, ρ1, own2, H2, .next, g2, x1.trans x2.toW, F1.ext ok x2, t2⟩
end
end Mine
namespace Mine

theorem AOk.le {d d' : Nat} {A : Around} (a : AOk d' A) (h : d ≤ d') : AOk d A := ⟨a.han, by have := a.dep; omega, by have := a.un; omega⟩
theorem AOk.deeper {d : Nat} {A : Around} {env : Env} (a : AOk (d + 1) A) : AOk d (A.deeper env) := by
  refine ⟨a.han, ?_, ?_⟩
  · have := a.dep; show A.depth + 1 + d < _; omega
  · have := a.un; show A.units + 3 + 10 * d + 20 < _; omega
theorem GRel.inK {cx own H s} (g : GRel cx own H s) : cx.K.In s.heap := cx.inK.keeps g.base

abbrev FnP := List V → AH → (V → AH → Prop) → Prop
/-- a function's law -/
def CallOK (cx : Cx) (d : Nat) (fv : Value) (P : FnP) : Prop :=
  ∀ (A : Around) (s : Shared) (own : Own) (H : AH) (vs : List V) (rs : List Value) (Q : V → AH → Prop), AOk d A → GRel cx own H s → VRs vs rs → P vs H Q →
    wpAny (model cx.prog cx.w) A (call fv rs []) (Post cx own H s.heap Q) NoE s
def CallC (cx : Cx) (d : Nat) (fv : Value) (P : FnP) : Prop :=
  ∀ (A : Around) (s : Shared) (own : Own) (H : AH) (vs : List V) (rs : List Value) (Q : V → AH → Prop) (R : Result → Shared → Prop), AOk d A → GRel cx own H s → VRs vs rs → P vs H Q →
    (∀ v s', Post cx own H s.heap Q v s' → R (.ok (.ret v)) s') → codeAny (model cx.prog cx.w) A (.call fv ⟨rs, []⟩) R s
theorem CallC.ok {cx d fv P} (C : CallC cx d fv P) : CallOK cx d fv P := fun A s own H vs rs Q a g e p => wpAny_call (C A s own H vs rs Q _ a g e p fun _ _ h => h)
theorem CallC.le {cx d d' fv P} (C : CallC cx d fv P) (h : d ≤ d') : CallC cx d' fv P := fun A s own H vs rs Q R a => C A s own H vs rs Q R (a.le h)
theorem CallOK.le {cx d d' fv P} (C : CallOK cx d fv P) (h : d ≤ d') : CallOK cx d' fv P := fun A s own H vs rs Q a => C A s own H vs rs Q (a.le h)
theorem CallOK.weaken {cx d fv} {P P' : FnP} (C : CallOK cx d fv P) (h : ∀ vs H Q, P' vs H Q → P vs H Q) : CallOK cx d fv P' := fun A s own H vs rs Q a g e p => C A s own H vs rs Q a g e (h _ _ _ p)

def retQ (Q : V → AH → Prop) (fl : Fl) (_ : Loc) (H : AH) : Prop := match fl with
  | .ret v => Q v H
  | .next => Q .none H
  | .brk => False
  | .cont => False

theorem cellsFrom_mem : ∀ (names : List (Str × NameKind)) (n : Nat) (acc : List (Str × Addr)) (x : Str), ((x, NameKind.cell) ∈ names ∨ ∃ c, (x, c) ∈ acc) → ∃ c, (x, c) ∈ cellsFrom n names acc
  | [], n, acc, x, h => by rcases h with h | h; · simp at h
                           · exact h
  | (k, kd) :: r, n, acc, x, h => by
    unfold cellsFrom
    split
    · rename_i hk
      refine cellsFrom_mem r _ _ x ?_
      rcases h with h | ⟨c, h⟩
      · rcases List.mem_cons.mp h with e | h
        · cases e; exact .inr ⟨n, List.mem_cons_self⟩
        · exact .inl h
      · exact .inr ⟨c, List.mem_cons_of_mem _ h⟩
    · rename_i hk
      refine cellsFrom_mem r _ _ x ?_
      rcases h with h | h
      · rcases List.mem_cons.mp h with e | h
        · cases e; simp at hk
        · exact .inl h
      · exact .inr h
theorem lookup_of_mem {α : Type} : ∀ {l : List (Str × α)} {x : Str} {c : α}, (x, c) ∈ l → ∃ c', l.lookup x = some c'
  | (k, v) :: r, x, c, h => by
    rw [List.lookup_cons]
    cases hb : x == k with
    | true => exact ⟨v, rfl⟩
    | false =>
      rcases List.mem_cons.mp h with e | h
      · cases e; simp at hb
      · exact lookup_of_mem h
theorem cells_of_kind {names : List (Str × NameKind)} {n : Nat} {x : Str} (h : names.lookup x = some .cell) : ∃ c, (cellsFrom n names []).lookup x = some c := by
  obtain ⟨c, hc⟩ := cellsFrom_mem names n [] x (.inl (mem_of_lookup h))
  exact lookup_of_mem hc

theorem bindL_not {ko : Str → Option NameKind} : ∀ {l : List (Str × Value)} {m : Str → Option Value} {x : Str}, (∀ y ∈ l, y.1 ≠ x) → bindL ko l m x = m x
  | [], m, x, _ => rfl
  | (n, v) :: r, m, x, h => by
    unfold bindL
    rw [bindL_not fun y hy => h y (List.mem_cons_of_mem _ hy)]
    have : ¬ x = n := fun e => h (n, v) List.mem_cons_self e.symm
    split
    · simp [this]
    · rfl
theorem bindC_not {ko : Str → Option NameKind} : ∀ {l : List (Str × Value)} {m : Str → Option Value} {x : Str}, (∀ y ∈ l, y.1 ≠ x) → bindC ko l m x = m x
  | [], m, x, _ => rfl
  | (n, v) :: r, m, x, h => by
    unfold bindC
    rw [bindC_not fun y hy => h y (List.mem_cons_of_mem _ hy)]
    have : ¬ x = n := fun e => h (n, v) List.mem_cons_self e.symm
    split
    · rfl
    · simp [this]
theorem zip_ne {x : Str} : ∀ {xs : List Str} {rs : List Value}, x ∉ xs → ∀ y ∈ xs.zip rs, y.1 ≠ x
  | [], rs, _, y, hy => by simp at hy
  | n :: xs, [], _, y, hy => by simp at hy
  | n :: xs, r :: rs, h, y, hy => by
    simp only [List.zip_cons_cons, List.mem_cons] at hy
    rcases hy with rfl | hy
    · exact fun e => h (by simp [← e])
    · exact zip_ne (fun q => h (List.mem_cons_of_mem _ q)) y hy
theorem bindL_at {ko : Str → Option NameKind} : ∀ {xs : List Str} {rs : List Value} {m : Str → Option Value} {i : Nat} {x : Str} {r : Value}, xs.Nodup → xs[i]? = some x → rs[i]? = some r → ko x = some .local → bindL ko (xs.zip rs) m x = some r
  | [], rs, m, i, x, r, _, h, _, _ => by simp at h
  | n :: xs, [], m, i, x, r, _, _, h, _ => by simp at h
  | n :: xs, r0 :: rs, m, 0, x, r, hd, h1, h2, hk => by
    simp only [List.getElem?_cons_zero, Option.some.injEq] at h1 h2
    subst h1; subst h2
    simp only [List.zip_cons_cons, bindL]
    rw [bindL_not (zip_ne (List.nodup_cons.mp hd).1)]
    simp [hk]
  | n :: xs, r0 :: rs, m, i + 1, x, r, hd, h1, h2, hk => by
    simp only [List.getElem?_cons_succ] at h1 h2
    simp only [List.zip_cons_cons, bindL]
    exact bindL_at (List.nodup_cons.mp hd).2 h1 h2 hk
theorem bindC_at {ko : Str → Option NameKind} : ∀ {xs : List Str} {rs : List Value} {m : Str → Option Value} {i : Nat} {x : Str} {r : Value}, xs.Nodup → xs[i]? = some x → rs[i]? = some r → ko x ≠ some .local → bindC ko (xs.zip rs) m x = some r
  | [], rs, m, i, x, r, _, h, _, _ => by simp at h
  | n :: xs, [], m, i, x, r, _, _, h, _ => by simp at h
  | n :: xs, r0 :: rs, m, 0, x, r, hd, h1, h2, hk => by
    simp only [List.getElem?_cons_zero, Option.some.injEq] at h1 h2
    subst h1; subst h2
    simp only [List.zip_cons_cons, bindC]
    rw [bindC_not (zip_ne (List.nodup_cons.mp hd).1)]
    simp [hk]
  | n :: xs, r0 :: rs, m, i + 1, x, r, hd, h1, h2, hk => by
    simp only [List.getElem?_cons_succ] at h1 h2
    simp only [List.zip_cons_cons, bindC]
    exact bindC_at (List.nodup_cons.mp hd).2 h1 h2 hk

section
variable {cx : Cx} {d : Nat}

theorem callOK_of {f : Addr} {nm : List Str} {n : Nat} {k : Nat} {oc : Value} {od : Option Addr} {osl : Array (Option Value)} {fd : FuncData} {sc : Scope} {body : List Stmt} {T : TS} {P : FnP}
    (ho : cx.K.lookup f = some ⟨oc, od, .func fd, osl⟩) (hsc : fd.scope = sc) (hb : fd.body = .stmts body) (hcd : codeIn cx.K fd.code fd.qualname = true) (hcl : fd.closure = []) (hg : fd.globals = mainGlobals)
    (hbl : fd.builtins = builtinsNs) (hbind : ∀ (s : Shared) (rs : List Value), cx.K.In s.heap → rs.length = n → BindsTo s fd ⟨rs, []⟩ ((nm.take n).zip rs))
    (hkind : ∀ x ∈ nm.take n, sc.names.lookup x = some .local ∨ sc.names.lookup x = some .cell) (hnd : nm.Nodup)
    (hP : ∀ vs H Q, P vs H Q → vs.length = n ∧ T (vs.map some ++ List.replicate k none) H (retQ Q)) (D : SDen cx sc nm d body T)
    (hcn : ((cellsFrom 0 fd.scope.names []).map (·.1)).Nodup) (hcode : ∀ c, cx.codeOf sc = some c → fd.code = .ref c) (hco : fd.scope.isCoroutine = false) (hgen : fd.scope.isGenerator = false) (hk : fd.scope.kind = .function) : CallC cx (d + 1) (.ref f) P := by
  intro A s own H vs rs Q R a g e p kk
  obtain ⟨hlen, t⟩ := hP _ _ _ p
  have X := g.inK
  have hrl := e.length
  subst hsc
  refine (codeAny_call_function (o := ⟨oc, od, .func fd, osl⟩) (fd := fd) (body := body) (by have := a.dep; omega) (X _ _ ho) rfl hco hgen hb (codeRec_of X hcd) ?_)
  refine hbind s rs X (by omega) _ _ _ _ ?_
  rw [hcl]
  have hnn : (nm.take n).Nodup := hnd.sublist (List.take_sublist _ _)
  have zmem : ∀ x ∈ (nm.take n).zip rs, x.1 ∈ nm.take n := fun x hx => (List.of_mem_zip hx).1
  refine wpAny_newFunctionEnv_cells hk (fun x hx => ?_) fun env he s' x => ?_
  · rcases hkind _ (zmem x hx) with h | h
    · exact .inl h
    · obtain ⟨c, hc⟩ := cells_of_kind (n := s.heap.objs.size + 1) h
      exact .inr ⟨h, by rw [hc]; rfl⟩
  have heq : ∀ y, env.kindOf y = fd.scope.names.lookup y := fun y => by subst he; rfl
  have hL : env.locals = s.heap.objs.size := by subst he; rfl
  have hcs : env.cells = cellsFrom (s.heap.objs.size + 1) fd.scope.names [] := by subst he; rfl
  refine ⟨(cx.lim.keeps g.base).keeps x.toInCall.keep, codeAny_func ?_⟩
  obtain ⟨h₁, tk, rfl, hk₁⟩ := x.done
  let F : Frm := ⟨env, nm, env.locals :: env.cells.map (·.2), env.locals :: env.cells.map (·.2)⟩
  have cmem : ∀ {y c}, env.cells.lookup y = some c → c ∈ env.cells.map (·.2) := fun h => List.mem_map.mpr ⟨_, mem_of_lookup h, rfl⟩
  have hge : ∀ b ∈ F.fo, s.heap.objs.size ≤ b := by
    intro b hb
    rcases List.mem_cons.mp hb with rfl | hb
    · exact Nat.le_of_eq hL.symm
    · obtain ⟨y, hy, rfl⟩ := List.mem_map.mp hb
      exact Nat.le_of_lt (hL ▸ x.above y.1 y.2 hy)
  have dead : ∀ b, s.heap.objs.size ≤ b → H b = none ∧ own b = none ∧ cx.h0.get? b = none := by
    intro b hb
    refine ⟨?_, ?_, ?_⟩
    · cases q : H b with
      | none => rfl
      | some o => exact absurd (g.lt q) (Nat.not_lt.mpr hb)
    · cases q : own b with
      | none => rfl
      | some o => obtain ⟨_, _, _, z⟩ := g.aux _ _ q; exact absurd (Heap.lt_size z) (Nat.not_lt.mpr hb)
    · cases q : cx.h0.get? b with
      | none => rfl
      | some o => exact absurd (Heap.lt_size (g.base _ _ q)) (Nat.not_lt.mpr hb)
  have ok : F.Ok cx fd.scope := by
    refine ⟨by subst he; rfl, by subst he; exact hk, by subst he; exact hg, by subst he; exact hbl, List.mem_cons_self, List.mem_cons_self, fun y c hc => ⟨List.mem_cons_of_mem _ (cmem hc), ?_⟩, fun y c _ hc => List.mem_cons_of_mem _ (cmem hc), fun y hy => ?_, fun y z c hy hz => ?_, fun b hb => hb, hnd, fun c hc => by subst he; exact hcode c hc⟩
    · exact fun q => absurd (x.above y c (mem_of_lookup hc)) (by rw [q]; exact Nat.lt_irrefl _)
    · rw [show F.env = env from rfl, hcs]
      exact cells_of_kind (by rw [← heq y]; exact hy)
    · exact name_of_addr x.apart (mem_of_lookup hy) (mem_of_lookup hz)
  have g1 : GRel cx own H { s with heap := h₁, toks := tk } := g.grow hk₁
  have FR : FRel cx own H F (vs.map some ++ List.replicate k none) h₁ := by
    refine ⟨fun i y v hy hv => ?_, ⟨_, x.toInCall.ns⟩, fun y c _ hc => ?_, fun b hb => ?_, fun b hb => (dead b (hge b hb)).2.2⟩
    · have hil : i < vs.length := by
        apply Nat.lt_of_not_le
        intro hge
        rw [List.getElem?_append_right (by simpa using hge), List.getElem?_replicate] at hv
        split at hv <;> simp at hv
      have hi : i < n := by omega
      have hv' : vs[i]? = some v := by
        rw [List.getElem?_append_left (by simpa using hil), List.getElem?_map] at hv
        cases q : vs[i]? with
        | none => rw [q] at hv; cases hv
        | some u => rw [q] at hv; simp only [Option.map_some, Option.some.injEq] at hv; rw [hv]
      obtain ⟨r, hr, hvr⟩ := e.get hv'
      have hy' : (nm.take n)[i]? = some y := by rw [List.getElem?_take]; simp [hi]; exact hy
      refine ⟨r, hvr, ?_⟩
      rcases hkind y (List.mem_of_getElem? hy') with hl | hl
      · have hkk : env.kindOf y = some .local := by rw [heq]; exact hl
        exact .inl ⟨hkk, _, x.toInCall.ns, bindL_at hnn hy' hr hkk⟩
      · have hkk : env.kindOf y = some .cell := by rw [heq]; exact hl
        obtain ⟨c, hc⟩ := cells_of_kind (n := s.heap.objs.size + 1) hl
        rw [← hcs] at hc
        obtain ⟨o, e1, e2⟩ := x.cell y c hc
        rw [bindC_at hnn hy' hr (by rw [hkk]; decide)] at e2
        exact .inr ⟨.inl hkk, c, o, hc, e1, e2⟩
    · obtain ⟨o, e1, e2⟩ := x.cell y c hc
      exact ⟨o, _, e1, e2⟩
    · refine ⟨?_, (dead b (hge b hb)).1, (dead b (hge b hb)).2.1⟩
      rcases List.mem_cons.mp hb with rfl | hb
      · obtain ⟨o, _, _, e2, _⟩ := x.toInCall.ns
        exact ⟨o, e2⟩
      · obtain ⟨y, hy, rfl⟩ := List.mem_map.mp hb
        have hl : env.cells.lookup y.1 = some y.2 := lookup_of_mem_nodup (by rw [hcs]; exact cellsFrom_names fd.scope.names 0 (s.heap.objs.size + 1) [] [] rfl ▸ hcn) hy
        obtain ⟨o, e2, _⟩ := x.cell y.1 y.2 hl
        exact ⟨o, e2⟩
  refine wpAny_mono (D _ F _ own H _ _ a.deeper ok rfl g1 FR t) (fun fl s2 p2 => ?_) fun _ _ e => e.elim
  obtain ⟨fl', ρ', own', H', r, g2, x2, F2, q⟩ := p2
  have x3 : ExtW F.wr own H s.heap own' H' s2.heap := ((Ext.grow hk₁).toW (wr := F.wr)).trans x2
  have x4 := x3.toExt hge
  cases r with
  | next => exact kk _ _ ⟨.none, own', H', .none, g2, x4, q⟩
  | brk => exact q.elim
  | cont => exact q.elim
  | ret hv => exact kk _ _ ⟨_, own', H', hv, g2, x4, q⟩
end
end Mine
namespace Mine

section
variable {cx : Cx} {sc : Scope} {nm : List Str} {d : Nat}

theorem EDen.le {d'} {e : Expr} {T : TE} (D : EDen cx sc nm d e T) (h : d ≤ d') : EDen cx sc nm d' e T := fun A f s own H ρ Q a => D A f s own H ρ Q (a.le h)

theorem starEach_nil (env : Env) : starEach [] env = [] := by rfl
theorem LDen.plain : ∀ {es : List Expr} {Ts : List TE}, LDen cx sc nm d es Ts → ∀ (p : Pos) (env : Env), (backTo p (starEach es env)).any (·.1) = false
  | _, _, .nil, p, env => by rw [starEach_nil]; rfl
  | _, _, .cons (e := e) (es := es) D hs L, p, env => by
    rw [hs]
    have := L.plain p env
    show (false || (backTo p (starEach es env)).any (·.1)) = false
    rw [this]; rfl

/-- what may be called plainly -/
def CW (cx : Cx) (fv : Value) : Prop := ∀ (A : Around) (p : Pos) (trees : List (Bool × Sem Value)) (first : List Value) (Q : Value → Shared → Prop) (s : Shared), trees.any (·.1) = false →
  wpAny (model cx.prog cx.w) A (evalArgs fv true trees []) (fun a s₁ => cx.K.In s₁.heap ∧ wpAny (model cx.prog cx.w) A (call fv (first ++ a.pos) a.kw) Q NoE s₁) NoE s → wpAny (model cx.prog cx.w) A (callWith p fv first trees []) Q NoE s
theorem CW.K {f : Value} (hk : keepIn cx.K f = true) : CW cx f := fun A p trees first Q s hp h => callWith_of (by rw [hp]; rfl) (keeps_K hk) h
theorem CW.builtin {id : String} : CW cx (.builtin id) := fun A p trees first Q s hp h => callWith_builtin hp (wpAny_mono h (fun _ _ x => x.2) fun _ _ e => e)
theorem CW.type {T : String} : CW cx (.type T) := fun A p trees first Q s hp h => PyProof.Rows.callWith_type hp (wpAny_mono h (fun _ _ x => x.2) fun _ _ e => e)

theorem evalArgs_of {es : List Expr} {Ts : List TE} (L : LDen cx sc nm d es Ts) {A : Around} {f : Frm} {p : Pos} {fv : Value} {s : Shared} {own : Own} {H : AH} {ρ : Loc} {Q : List V → AH → Prop} {R : Args → Shared → Prop}
    (a : AOk d A) (ok : f.Ok cx sc) (hn : f.nm = nm) (g : GRel cx own H s) (F : FRel cx own H f ρ s.heap) (t : tAll Ts ρ H Q)
    (k : ∀ vs rs s' own' H', VRs vs rs → GRel cx own' H' s' → Ext own H s.heap own' H' s'.heap → Q vs H' → R ⟨rs, []⟩ s') :
    wpAny (model cx.prog cx.w) A (evalArgs fv true (backTo p (starEach es f.env)) []) R NoE s := by
  have base := spliced_of (p := p) L a ok hn g F t (R := fun rs s' => R ⟨rs, []⟩ s') k
  cases L with
  | nil =>
    rw [starEach_nil] at base ⊢
    exact PyProof.Rows.evalArgs_nil3 (k [] [] s own H .nil g (.refl ..) t)
  | cons D hs L =>
    rw [hs] at base ⊢
    exact evalArgs_plain base

/-! names that are not locals -/
theorem kindOf_eq {f : Frm} (ok : f.Ok cx sc) (y : Str) : f.env.kindOf y = sc.names.lookup y := by unfold Env.kindOf; rw [ok.sc]
theorem loadGlobal_K {A : Around} {f : Frm} {s : Shared} {own H} {x : Str} {v : Value} {Q : Value → Shared → Prop} (ok : f.Ok cx sc) (g : GRel cx own H s) (hn : nsIn cx.K mainGlobals x = some (some v)) (q : Q v s) :
    wpAny (model cx.prog cx.w) A (loadGlobal f.env x) Q NoE s := by
  unfold loadGlobal
  rw [ok.gl]
  refine wpAny_bind ((looks_nsIn g.inK hn).here ?_)
  exact wpAny_pure q
theorem den_gname {x : Str} {p : Pos} {v : V} {r : Value} (hn : nsIn cx.K mainGlobals x = some (some r)) (hv : VR v r) (hx : sc.names.lookup x = some .globalImplicit) (hd : (x == ("__debug__" : Str)) = false := by decide) :
    EDen cx sc nm d (.Name x p) (tK v) := by
  intro A f s own H ρ Q a ok hn' g F q
  exact Name_function_global ok.fn (by rw [kindOf_eq ok]; exact hx) (loadGlobal_K ok g hn (.here g hv q)) hd

/-- a call of a def -/
def tCall (P : FnP) (Ts : List TE) : TE := fun ρ H Q => tAll Ts ρ H fun vs H1 => P vs H1 Q
theorem callee {fv : Value} {x : Str} {np p : Pos} {args : List Expr} {Ts : List TE} {P : FnP} (hl : ∀ (A : Around) (f : Frm) (s : Shared) (own : Own) (H : AH) (Q : Value → Shared → Prop), f.Ok cx sc → GRel cx own H s → Q fv s → wpAny (model cx.prog cx.w) A (eval (.Name x np) f.env) Q NoE s)
    (cw : CW cx fv) (C : CallOK cx d fv P) (L : LDen cx sc nm d args Ts) : EDen cx sc nm d (.Call (.Name x np) args [] p) (tCall P Ts) := by
  intro A f s own H ρ Q a ok hn g F t
  refine PyProof.Rows.Call_ (hl A f s own H _ ok g ?_)
  refine cw A p _ [] _ s (L.plain p f.env) (evalArgs_of L a ok hn g F t fun vs rs s1 own1 H1 e1 g1 x1 t1 => ⟨g1.inK, ?_⟩)
  exact post_trans x1 (C A s1 own1 H1 vs rs Q a g1 e1 t1)
theorem den_call {x : Str} {np p : Pos} {args : List Expr} {Ts : List TE} {f : Addr} {P : FnP} (hn : nsIn cx.K mainGlobals x = some (some (.ref f))) (hk : keepIn cx.K (.ref f) = true)
    (C : CallOK cx d (.ref f) P) (hx : sc.names.lookup x = some .globalImplicit) (L : LDen cx sc nm d args Ts) (hd : (x == ("__debug__" : Str)) = false := by decide) : EDen cx sc nm d (.Call (.Name x np) args [] p) (tCall P Ts) :=
  callee (fun A fr s own H Q ok g q => Name_function_global ok.fn (by rw [kindOf_eq ok]; exact hx) (loadGlobal_K ok g hn q) hd) (.K hk) C L
theorem bname {A : Around} {f : Frm} {s : Shared} {own H} {x : Str} {p : Pos} {v : Value} {Q : Value → Shared → Prop} (ok : f.Ok cx sc) (g : GRel cx own H s) (hb : (x, v) ∈ bList) (hx : sc.names.lookup x = some .globalImplicit) (q : Q v s)
    (hd : (x == ("__debug__" : Str)) = false) : wpAny (model cx.prog cx.w) A (eval (.Name x p) f.env) Q NoE s :=
  Name_function_global ok.fn (by rw [kindOf_eq ok]; exact hx) (loadGlobal_builtin (mg := cx.mg) (mb := cx.mb) (ok.gl ▸ cx.gl.keeps g.base) (cx.bi x v hb).1 (ok.bl ▸ cx.bl.keeps g.base) (cx.bi x v hb).2 q) hd
theorem den_bcall {x : Str} {np p : Pos} {args : List Expr} {Ts : List TE} {id : String} {P : FnP} (hb : (x, Value.builtin id) ∈ bList) (C : CallOK cx d (.builtin id) P) (hx : sc.names.lookup x = some .globalImplicit)
    (L : LDen cx sc nm d args Ts) (hd : (x == ("__debug__" : Str)) = false := by decide) : EDen cx sc nm d (.Call (.Name x np) args [] p) (tCall P Ts) :=
  callee (fun A fr s own H Q ok g q => bname ok g hb hx q hd) .builtin C L
theorem den_tcall {x : Str} {np p : Pos} {args : List Expr} {Ts : List TE} {T : String} {P : FnP} (hb : (x, Value.type T) ∈ bList) (C : CallOK cx d (.type T) P) (hx : sc.names.lookup x = some .globalImplicit)
    (L : LDen cx sc nm d args Ts) (hd : (x == ("__debug__" : Str)) = false := by decide) : EDen cx sc nm d (.Call (.Name x np) args [] p) (tCall P Ts) :=
  callee (fun A fr s own H Q ok g q => bname ok g hb hx q hd) .type C L

/-! the built-ins -/
def pLen : FnP := fun vs H Q => match vs with
  | [.str x] => x.length < 2 ^ 62 ∧ Q (.int x.length) H
  | [.ref a] => ∃ xs, (H a = some (.list xs) ∨ H a = some (.ro xs)) ∧ xs.length < 2 ^ 62 ∧ Q (.int xs.length) H
  | _ => False
theorem c_len : CallOK cx d (.builtin "len") pLen := by
  intro A s own H vs rs Q a g e t
  match vs, rs, e with
  | [.str x], _, .cons (.str _ k) .nil =>
    obtain ⟨hl, q⟩ := t
    exact PyProof.Rows.len_str (by omega) ⟨_, own, H, .int _ _, g.toks _, .refl .., q⟩
  | [.ref b], _, .cons (.ref _) .nil =>
    obtain ⟨xs, hx, hl, q⟩ := t
    obtain ⟨rs, v, i⟩ := g.anyList hx
    have hsz := size_of v
    exact call_len_list i (by omega) ⟨_, own, H, .int _ _, g.toks _, .refl .., by rw [hsz]; exact q⟩
  | [], _, _ => exact t.elim
  | [.none], _, _ => exact t.elim
  | [.bool _], _, _ => exact t.elim
  | [.int _], _, _ => exact t.elim
  | .str _ :: _ :: _, _, _ => exact t.elim
  | .ref _ :: _ :: _, _, _ => exact t.elim
  | .none :: _ :: _, _, _ => exact t.elim
  | .bool _ :: _ :: _, _, _ => exact t.elim
  | .int _ :: _ :: _, _, _ => exact t.elim

def pMax : FnP := fun vs H Q => match vs with
  | [.int i, .int j] => Q (.int (max i j)) H
  | _ => False
theorem c_max : CallOK cx d (.builtin "max") pMax := by
  intro A s own H vs rs Q a g e t
  unfold pMax at t
  split at t
  · rename_i i j
    cases e with | cons e1 e => cases e with | cons e2 e => cases e with | nil =>
    cases e1; cases e2
    refine max_two_ints a.han fun h' tk hk => ?_
    have gg : GRel cx own H { s with heap := h', toks := tk } := g.grow hk
    have xx : Ext own H s.heap own H h' := .grow hk
    by_cases hij : j > i
    · rw [if_pos hij]
      exact ⟨_, own, H, .int _ _, gg, xx, by rw [Int.max_eq_right (by omega)] at t; exact t⟩
    · rw [if_neg hij]
      exact ⟨_, own, H, .int _ _, gg, xx, by rw [Int.max_eq_left (by omega)] at t; exact t⟩
  · exact t.elim

def pBool : FnP := fun vs H Q => match vs with
  | [.str x] => x.length < 2 ^ 62 ∧ Q (.bool ((x.length : Int) != 0)) H
  | _ => False
theorem c_bool : CallOK cx d (.type "bool") pBool := by
  intro A s own H vs rs Q a g e t
  unfold pBool at t
  split at t
  · cases e with | cons e1 e => cases e with | nil =>
    cases e1
    exact call_bool_str (by omega) ⟨_, own, H, .bool _, g.toks _, .refl .., t.2⟩
  · exact t.elim
end
end Mine
namespace Mine

section
variable {prog : Program} {w : World} {A : Around} {E : Value → Shared → Prop} {s : Shared}
theorem setItem_exact {l : Addr} {items : Array Value} {n : Nat} {k : Int} {t : Tok} {v : Value} {Q : Unit → Shared → Prop} (hl : IsL s.heap l items n)
    (h0 : 0 ≤ k) (hfit : k < 2 ^ 63) (hn : k < items.size)
    (hQ : Q () { s with heap := s.heap.update l (Obj.mapSeq (·.setIfInBounds k.toNat v)) }) :
    wpAny (model prog w) A (setItem (.ref l) (.int k t) v) Q E s := by
  have ho := hl
  have hd : (Obj.data { cls := .type "list", dict := none, data := .seq items n, slots := #[] }) = .seq items n := rfl
  unfold setItem
  try with_reducible refine wpAny_holding ?_
  first | refine wpAny_bind (wpAny_pure ?_) | skip
  refine wpAny_bind (wpAny_sequenceKey (IsL.isList hl).typeIs (by decide) ?_)
  refine wpAny_bind (wpAny_callSpecial?_slot (name := Str.ofString "__setitem__") (IsL.isList hl).typeIs slot_list_setitem
    (wpAny_call_entry slot_list_setitem (IsL.isList hl).typeIs entry_list_setitem ?_ (args_list_setitem _ _ _)))
  show wpAny _ _ (Builtin.List.listSubscript? (.int k t) >>= _) _ _ s
  refine wpAny_bind (wpAny_listSubscript_int (fitsIndex_of h0 hfit) ?_)
  clear hfit
  obtain ⟨j, rfl⟩ := Int.eq_ofNat_of_zero_le h0
  have hj : j < items.size := by omega
  have hx' : items[j]? = some items[j] := Array.getElem?_eq_getElem hj
  show wpAny _ _ ((seqItemAt l j >>= fun r => pure (r.map (j, ·))) >>= _) _ _ s
  refine wpAny_bind (wpAny_bind (wpAny_seqItemAt ho hd (wpAny_pure ?_)))
  rw [hx']
  show wpAny _ _ (setSeqItemAt l j v >>= _) _ _ s
  refine wpAny_bind (wpAny_setSeqItemAt ho hd ?_)
  first
    | exact wpAny_bind (wpAny_pure (wpAny_pure ⟨.none, rfl, wpAny_pure hQ⟩))
    | exact wpAny_pure ⟨.none, rfl, wpAny_pure hQ⟩
end

theorem PRs.keys : ∀ {es : List (Str × V)} {rs : List (Str × Value)}, PRs es rs → rs.map (·.1) = es.map (·.1)
  | _, _, .nil => rfl
  | _, _, .cons h1 h2 => by simp [h2.keys]
theorem PRs.length {es : List (Str × V)} {rs : List (Str × Value)} (h : PRs es rs) : rs.length = es.length := by
  have := congrArg List.length h.keys
  simpa using this
theorem stored_same {k : Str} {r : Value} : ∀ {rs : List (Str × Value)}, k ∉ rs.map (·.1) → rs.map (fun kv => if kv.1 = k then (kv.1, r) else kv) = rs
  | [], _ => rfl
  | (a, b) :: rs, h => by
    simp only [List.map_cons, List.mem_cons, not_or] at h
    simp only [List.map_cons]
    rw [if_neg (fun e => h.1 e.symm), stored_same h.2]
theorem PRs.put {k : Str} {v : V} {r : Value} (hv : VR v r) : ∀ {es : List (Str × V)} {rs : List (Str × Value)}, PRs es rs → (rs.map (·.1)).Nodup → PRs (pput es k v) (stored rs k r)
  | _, _, .nil, _ => by simpa [pput, stored] using PRs.cons hv .nil
  | _, _, .cons (k := x) (rv := rv) (rvs := rvs) h1 h2, hn => by
    simp only [List.map_cons, List.nodup_cons] at hn
    unfold pput
    by_cases hx : x = k
    · subst hx
      rw [if_pos rfl]
      have : stored ((x, rv) :: rvs) x r = (x, r) :: rvs := by
        unfold stored
        rw [if_pos (by simp)]
        simp only [List.map_cons, if_true]
        rw [stored_same hn.1]
      rw [this]
      exact .cons hv h2
    · rw [if_neg hx]
      have ih := PRs.put (k := k) hv h2 hn.2
      have : stored ((x, rv) :: rvs) k r = (x, rv) :: stored rvs k r := by
        unfold stored
        simp only [List.any_cons, hx, decide_false, Bool.false_or, List.map_cons, if_false]
        split <;> rfl
      rw [this]
      exact .cons h1 ih

section
variable {cx : Cx} {sc : Scope} {nm : List Str} {d : Nat}

/-- o[i] = v -/
def pStore (ov iv v : V) (H : AH) (Q : AH → Prop) : Prop := match ov, iv with
  | .ref a, .int i => 0 ≤ i ∧ ∃ xs, H a = some (.list xs) ∧ i < xs.length ∧ xs.length ≤ 2 ^ 24 ∧ Q (H.set a (.list (xs.set i.toNat v)))
  | .ref a, .str k => ∃ es, H a = some (.dict es) ∧ es.length ≤ 2 ^ 20 ∧ Q (H.set a (.dict (pput es k v)))
  | _, _ => False

theorem store_item {A : Around} {s : Shared} {own : Own} {H : AH} {ov iv v : V} {r1 r2 r : Value} {Q : AH → Prop} (g : GRel cx own H s) (e1 : VR ov r1) (e2 : VR iv r2) (e : VR v r) (t : pStore ov iv v H Q) :
    wpAny (model cx.prog cx.w) A (setItem r1 r2 r) (fun _ s' => ∃ own' H', GRel cx own' H' s' ∧ Ext own H s.heap own' H' s'.heap ∧ Q H') NoE s := by
  cases e1 with
  | ref a =>
    cases e2 with
    | int i k =>
      obtain ⟨h0, xs, hx, hl, hz, q⟩ := t
      obtain ⟨rs, n, v', i1⟩ := g.list hx
      have hsz := size_of v'
      refine setItem_exact i1 h0 (by omega) (by rw [hsz]; exact hl) ?_
      have i2 := IsL.update i1 (·.setIfInBounds i.toNat r)
      exact ⟨own, _, g.upd (o' := .list (xs.set i.toNat v)) hx (by intro _; nofun) (Heap.SameBut.update ..) ⟨rs.set i.toNat r, _, v'.set _ e, by simpa using i2⟩, .upd hx (Heap.SameBut.update ..), q⟩
    | str x k =>
      obtain ⟨es, he, hz, q⟩ := t
      obtain ⟨rs, pr, i1⟩ := g.dict he
      have hn : (rs.map (·.1)).Nodup := by obtain ⟨_, _, _, _, _, _, _, _, h⟩ := i1; exact h
      refine wpAny_setItem_pairs (k := x) (strKind_is cx.prog cx.w x k) i1 (fun h' hd hs => ?_) (by rw [pr.length, sizeLine_eq]; omega)
      exact ⟨own, _, g.upd (o' := .dict (pput es x v)) he (by intro _; nofun) hs ⟨_, pr.put e hn, hd⟩, .upd he hs, q⟩
    | _ => exact t.elim
  | _ => exact t.elim

def tSetItem (Tv To Ti : TE) : TS := fun ρ H Q => Tv ρ H fun v H1 => To ρ H1 fun ov H2 => Ti ρ H2 fun iv H3 => pStore ov iv v H3 fun H4 => Q .next ρ H4
theorem sden_setitem {o i e : Expr} {p p' : Pos} {Tv To Ti : TE} (Dv : EDen cx sc nm d e Tv) (Do : EDen cx sc nm d o To) (Di : EDen cx sc nm d i Ti)
    (hs : ∀ env, swapsWith e (some (.Subscript o i p')) p.line env = pure false := by intro _; rfl) : S1Den cx sc nm d (.Assign [.Subscript o i p'] e p) (tSetItem Tv To Ti) := by
  intro A f s own H ρ Q a ok hn g F t
  refine wpAny_Assign_Subscript ?_ (hs _)
  refine wp_then (Dv A f s own H ρ _ a ok hn g F t) fun v r s1 own1 H1 e1 g1 x1 t1 => ?_
  have F1 := F.ext ok x1
  refine wp_then (Do A f s1 own1 H1 ρ _ a ok hn g1 F1 t1) fun v2 r2 s2 own2 H2 e2 g2 x2 t2 => ?_
  have F2 := F1.ext ok x2
  refine wp_then (Di A f s2 own2 H2 ρ _ a ok hn g2 F2 t2) fun v3 r3 s3 own3 H3 e3 g3 x3 t3 => ?_
  refine wpAny_mono (store_item g3 e2 e3 e1 t3) (fun _ s4 ⟨own4, H4, g4, x4, q⟩ => ?_) fun _ _ e => e
  exact ⟨.next, ρ, own4, H4, .next, g4, (((x1.trans x2).trans x3).trans x4).toW, (F2.ext ok x3).ext ok x4, q⟩

/-! x += e -/
def IOp (cx : Cx) (d : Nat) (op : Operator) (P : BinP) : Prop := BOp cx d (inplaceOp op) P
theorem iop_add : IOp cx d .Add pAddI := by
  intro A s own H v1 v2 r1 r2 Q a g e1 e2 t
  cases e1 <;> cases e2 <;> first | exact t.elim | exact PyProof.Rows.iadd_int ⟨_, own, H, .int _ _, g.toks _, .refl .., t⟩
theorem iop_sub : IOp cx d .Sub pSubI := by
  intro A s own H v1 v2 r1 r2 Q a g e1 e2 t
  cases e1 <;> cases e2 <;> first | exact t.elim | exact PyProof.Rows.isub_int ⟨_, own, H, .int _ _, g.toks _, .refl .., t⟩

theorem load_var {A : Around} {f : Frm} {s : Shared} {own H ρ} {i : Nat} {x : Str} {Q : Value → Shared → Prop} (ok : f.Ok cx sc) (F : FRel cx own H f ρ s.heap) (hx : f.nm[i]? = some x) {v : V} (hv : ρ[i]? = some (some v))
    (k : ∀ r, VR v r → Q r s) : wpAny (model cx.prog cx.w) A (loadName f.env x) Q NoE s := by
  obtain ⟨rv, r, l⟩ := F.vars i x v hx hv
  rcases l with ⟨k1, m, hm, hmx⟩ | ⟨k1, c, o, hc, e, dt⟩
  · exact wpAny_loadName_local ok.fn k1 hm hmx (k _ r)
  · rcases k1 with k1 | ⟨k1, hcd⟩
    · exact wpAny_loadName_cell ok.fn k1 hc ⟨o, e, dt⟩ (k _ r)
    · exact wpAny_loadName_free ok.fn k1 hc ⟨o, e, dt⟩ (k _ r) hcd

def tAug (i : Nat) (P : BinP) (T : TE) : TS := fun ρ H Q => ∃ v, ρ[i]? = some (some v) ∧ T ρ H fun v2 H1 => P v v2 H1 fun r H2 => Q .next (ρ.set i (some r)) H2
theorem sden_aug {i : Nat} {x : Str} {op : Operator} {e : Expr} {p p' : Pos} {P : BinP} {T : TE} (hop : IOp cx d op P) (hx : nm[i]? = some x) (hk : sc.names.lookup x = some .local ∨ sc.names.lookup x = some .cell) (D : EDen cx sc nm d e T) :
    S1Den cx sc nm d (.AugAssign (.Name x p') op e p) (tAug i P T) := by
  intro A f s own H ρ Q a ok hn g F ⟨v, hv, t⟩
  refine wpAny_AugAssign_Name (load_var ok F (hn ▸ hx) hv fun r hr => ?_)
  refine wp_then (D A f s own H ρ _ a ok hn g F t) fun v2 r2 s1 own1 H1 e1 g1 x1 t1 => ?_
  refine wp_then (hop A s1 own1 H1 v v2 r r2 _ a g1 hr e1 t1) fun v3 r3 s2 own2 H2 e2 g2 x2 t2 => ?_
  refine store_of ok (hn ▸ hx) hk g2 ((F.ext ok x1).ext ok x2) e2 fun s3 g3 x3 F3 => ⟨.next, _, own2, H2, .next, g3, (x1.trans x2).toW.trans x3, F3, t2⟩

/-- o[x] op= e, x a name -/
def tAugItem (To : TE) (i : Nat) (P : BinP) (T : TE) : TS := fun ρ H Q => To ρ H fun ov H1 => ∃ iv, ρ[i]? = some (some iv) ∧ pItem ov iv H1 fun old H2 => T ρ H2 fun v H3 => P old v H3 fun r H4 => pStore ov iv r H4 fun H5 => Q .next ρ H5
theorem sden_augitem {o : Expr} {i : Nat} {x : Str} {op : Operator} {e : Expr} {p p' px : Pos} {P : BinP} {To T : TE} (hop : IOp cx d op P) (Do : EDen cx sc nm d o To) (hx : nm[i]? = some x) (D : EDen cx sc nm d e T)
    (hd : (x == ("__debug__" : Str)) = false := by decide) : S1Den cx sc nm d (.AugAssign (.Subscript o (.Name x px) p') op e p) (tAugItem To i P T) := by
  intro A f s own H ρ Q a ok hn g F t
  refine wpAny_AugAssign_Subscript (wp_then (Do A f s own H ρ _ a ok hn g F t) fun ov ro s1 own1 H1 e1 g1 x1 t1 => ?_)
  obtain ⟨iv, hiv, t1⟩ := t1
  have F1 := F.ext ok x1
  refine wpAny_Name (load_var ok F1 (hn ▸ hx) hiv fun ri hri => ?_) hd
  obtain ⟨_, _, _, _, hw⟩ := item_of (A := A) g1 e1 hri t1
  refine wp_then hw fun old r2 s2 own2 H2 e2 g2 x2 t2 => ?_
  have F2 := F1.ext ok x2
  refine wp_then (D A f s2 own2 H2 ρ _ a ok hn g2 F2 t2) fun v3 r3 s3 own3 H3 e3 g3 x3 t3 => ?_
  have F3 := F2.ext ok x3
  refine wp_then (hop A s3 own3 H3 old v3 r2 r3 _ a g3 e2 e3 t3) fun v4 r4 s4 own4 H4 e4 g4 x4 t4 => ?_
  refine wpAny_mono (store_item g4 e1 hri e4 t4) (fun _ s5 ⟨own5, H5, g5, x5, q⟩ => ?_) fun _ _ e => e
  exact ⟨.next, ρ, own5, H5, .next, g5, ((((x1.trans x2).trans x3).trans x4).trans x5).toW, (F3.ext ok x4).ext ok x5, q⟩
end
end Mine
namespace Mine

theorem ERs.get {name : Str} {v : V} : ∀ {fs : List (Str × V)} {es : List DictEntry}, ERs fs es → pget fs name = some v → ∃ rv, getL name es = some (some rv) ∧ VR v rv
  | _, _, .nil, h => by simp [pget] at h
  | _, _, .cons (k := k) (t := t) (rv := rv) (hs := hs) (es := es) h1 h2, h => by
    unfold pget at h
    by_cases hk : k = name
    · rw [if_pos hk] at h; cases h
      exact ⟨rv, by unfold getL; rw [List.find?_cons_of_pos (by simp [Value.isStr, hk])], h1⟩
    · rw [if_neg hk] at h
      obtain ⟨r, e, hr⟩ := ERs.get h2 h
      refine ⟨r, ?_, hr⟩
      unfold getL at e ⊢
      rw [List.find?_cons_of_neg (by simp [Value.isStr, hk])]
      split at e
      · exact e
      · split at e <;> cases e
theorem ERs.none {name : Str} : ∀ {fs : List (Str × V)} {es : List DictEntry}, ERs fs es → pget fs name = Option.none → getL name es = some Option.none
  | _, _, .nil, h => rfl
  | _, _, .cons (k := k) (t := t) (rv := rv) (hs := hs) (es := es) h1 h2, h => by
    unfold pget at h
    by_cases hk : k = name
    · rw [if_pos hk] at h; cases h
    · rw [if_neg hk] at h
      have e := ERs.none h2 h
      unfold getL at e ⊢
      rw [List.find?_cons_of_neg (by simp [Value.isStr, hk])]
      split at e
      · cases e
      · split at e
        · cases e
        · rename_i h3
          rw [if_neg (by simpa [DictEntry.refKey] using h3)]
theorem ERs.put {name : Str} {v : V} {rv : Value} {hs : Int} {t : Tok} (hv : VR v rv) : ∀ {fs : List (Str × V)} {es : List DictEntry}, ERs fs es → ERs (pput fs name v) (putL name hs (.str name t) rv es)
  | _, _, .nil => .cons hv .nil
  | _, _, .cons (k := k) (t := t') (rv := r') (hs := hs') (es := es) h1 h2 => by
    unfold pput putL
    by_cases hk : k = name
    · subst hk
      rw [if_pos rfl, if_pos (by simp [Value.isStr])]
      exact .cons hv h2
    · rw [if_neg hk, if_neg (by simp [Value.isStr, hk])]
      exact .cons h1 (ERs.put hv h2)
theorem ERs.length : ∀ {fs : List (Str × V)} {es : List DictEntry}, ERs fs es → es.length = fs.length
  | _, _, .nil => rfl
  | _, _, .cons h1 h2 => by simp [h2.length]
theorem pput_length (fs : List (Str × V)) (k : Str) (v : V) : (pput fs k v).length ≤ fs.length + 1 := by
  induction fs with
  | nil => simp [pput]
  | cons x r ih =>
    obtain ⟨a, b⟩ := x
    unfold pput
    split <;> simp <;> omega
theorem handed_of {v : V} {r : Value} (h : VR v r) : handedIn r = true := by cases h <;> rfl

/-- what is asked of a class's table -/
structure ClsAt (cx : Cx) (C : Addr) (name : Str) : Prop where
  get : plainGet cx.K C name = true
  hasD : hasDictIn cx.K C = true
  attr : ∃ attr, findIn cx.K (.ref C) name = some attr ∧ noGet cx.K attr = true
structure ClsSet (cx : Cx) (C : Addr) (name : Str) : Prop where
  set : findIn cx.K (.ref C) "__setattr__" = some (some (.builtin "object.__setattr__"))
  over : plainOver cx.K C = true
  taker : takerIn cx.K C name = some none
  hasD : hasDictIn cx.K C = true

section
variable {cx : Cx} {sc : Scope} {nm : List Str} {d : Nat}

theorem inst_at {own H} {s : Shared} (g : GRel cx own H s) {a C : Addr} {fs : List (Str × V)} (e : H a = some (.inst C fs)) :
    ∃ D es n, own D = some a ∧ ERs fs es ∧ s.heap.get? D = some (dictOf es n) ∧ PySem.W.InstAt s.heap a (instObj C D) C (some (dictOf es n)) := by
  obtain ⟨D, es, n, hD, e1, e2, r⟩ := g.obj _ _ e
  exact ⟨D, es, n, hD, r, e2, ⟨e1, rfl, rfl, e2⟩⟩

def pAttr (C : Addr) (name : Str) : UnP := fun v H Q => match v with
  | .ref a => ∃ fs x, H a = some (.inst C fs) ∧ pget fs name = some x ∧ Q x H
  | _ => False
theorem attr_of {C : Addr} {name : Str} (hc : ClsAt cx C name) {A : Around} {s : Shared} {own : Own} {H : AH} {v : V} {r : Value} {b : Bool} {Q : V → AH → Prop} (g : GRel cx own H s) (e : VR v r) (t : pAttr C name v H Q) :
    wpAny (model cx.prog cx.w) A (getAttr r name b) (Post cx own H s.heap Q) NoE s := by
  cases e with
  | ref a =>
    obtain ⟨fs, x, hx, hp, q⟩ := t
    obtain ⟨D, es, n, hD, er, e2, I⟩ := inst_at g hx
    obtain ⟨rv, hl, hv⟩ := er.get hp
    obtain ⟨attr, ha, hn⟩ := hc.attr
    exact get_value g.inK I (plainGet_of hc.get).1 (findObj_own hc.hasD ha hn hl) (handed_of hv) ⟨_, own, H, hv, g.toks _, .refl .., q⟩
  | _ => exact t.elim
def tAttr (C : Addr) (name : Str) (T : TE) : TE := fun ρ H Q => T ρ H fun v H1 => pAttr C name v H1 Q
theorem den_attr {C : Addr} {name : Str} {o : Expr} {p : Pos} {T : TE} (hc : ClsAt cx C name) (D : EDen cx sc nm d o T)
    (he : ∀ env, eval (.Attribute o name p) env = (do
      let ov ← eval o env
      standAt p.atName
      let r ← holding [ov] (getAttr ov name true)
      letTemporaryGo o ov r
      pure r) := by intro _; with_unfolding_all rfl) : EDen cx sc nm d (.Attribute o name p) (tAttr C name T) := by
  intro A f s own H ρ Q a ok hn g F t
  refine Attribute_any_ (wp_then (D A f s own H ρ _ a ok hn g F t) fun v r s1 own1 H1 e1 g1 x1 t1 => ?_) (he _)
  exact post_trans x1 (attr_of hc g1 e1 t1)

/-! writing -/
def pSetAttr (C : Addr) (name : Str) (ov v : V) (H : AH) (Q : AH → Prop) : Prop := match ov with
  | .ref a => ∃ fs, H a = some (.inst C fs) ∧ fs.length ≤ 100 ∧ Q (H.set a (.inst C (pput fs name v)))
  | _ => False
theorem setattr_of {C : Addr} {name : Str} (hc : ClsSet cx C name) {A : Around} {s : Shared} {own : Own} {H : AH} {ov v : V} {r1 r : Value} {Q : AH → Prop} (g : GRel cx own H s) (e1 : VR ov r1) (e : VR v r) (t : pSetAttr C name ov v H Q) :
    wpAny (model cx.prog cx.w) A (setAttr r1 name r) (fun _ s' => ∃ own' H', GRel cx own' H' s' ∧ Ext own H s.heap own' H' s'.heap ∧ Q H') NoE s := by
  cases e1 with
  | ref a =>
    obtain ⟨fs, hx, hlen, q⟩ := t
    obtain ⟨D, es, n, hD, er, e2, I⟩ := inst_at g hx
    refine set_plain g.inK I hc.set (osa_open (s := { s with toks := s.toks + 1 }) g.inK I hc.over hc.taker fun b => ?_)
    obtain ⟨cd, hcl, hd'⟩ := any_some hc.hasD
    have hx' := I.at_
    refine wpAny_bind (wpAny_pure (wpAny_bind (wpAny_bind (wpAny_loadPart hx' (wpAny_bind (Looks.here (s := { s with toks := s.toks + 1 }) (looks_clsIn g.inK hcl) ?_))))))
    rw [hd']
    refine wpAny_pure (a := some D) (wpAny_bind (wpAny_pure (wpAny_bind ?_)))
    unfold nsSet
    refine wpAny_bind (wpAny_bind (wpAny_askSetting (wpAny_pure (wpAny_bind (wpAny_mkText (wpAny_bind (wpAny_loadPart e2 ?_)))))))
    dsimp only [dictOf]
    have hl : (getL name es).isSome = true := by
      cases hp : pget fs name with
      | none => rw [er.none hp]; rfl
      | some v => obtain ⟨_, h, _⟩ := er.get hp; rw [h]; rfl
    have c : (!(es.toArray).any (·.key.isStr name) && (es.toArray).any (·.refKey)) = false := by
      rw [← Array.any_toList, ← Array.any_toList]
      unfold getL at hl
      split at hl
      · rename_i en he
        rw [List.any_eq_true.mpr ⟨en, List.mem_of_find?_eq_some he, List.find?_some he⟩]; rfl
      · split at hl
        · cases hl
        · rename_i z; rw [Bool.not_eq_true] at z
          show (_ && es.any (·.refKey)) = false
          rw [z, Bool.and_false]
    rw [aRefKeyMayBeTheName_at, c]
    have hpn : Obj.putName name (PyData.keyHash cx.w.params name) (.str name (s.toks + 1)) r (dictOf es n) = dictOf (putL name (PyData.keyHash cx.w.params name) (.str name (s.toks + 1)) r es) (putN name es n) := putName_dict ..
    have D' : (s.heap.update D (Obj.putName name (PyData.keyHash cx.w.params name) (.str name (s.toks + 1)) r)).get? D = some (dictOf (putL name (PyData.keyHash cx.w.params name) (.str name (s.toks + 1)) r es) (putN name es n)) := by
      have := Heap.get?_update_self (Obj.putName name (PyData.keyHash cx.w.params name) (.str name (s.toks + 1)) r) e2 (by rw [hpn]; rfl)
      rw [this, hpn]
    have er' : ERs (pput fs name v) (putL name (PyData.keyHash cx.w.params name) (.str name (s.toks + 1)) r es) := er.put e
    refine wpAny_updatePart e2 ?_
    refine wpAny_bind (wpAny_lookBehind D' (pastItsLine_dict (by
      have h1 := er'.length
      have h2 := pput_length fs name v
      simp only [List.size_toArray, sizeLine_eq]; omega)) ?_)
    have hs : Heap.SameBut D s.heap (s.heap.update D (Obj.putName name (PyData.keyHash cx.w.params name) (.str name (s.toks + 1)) r)) := Heap.SameBut.update ..
    have hDa : H D = none := (g.aux _ _ hD).1
    have hD0 : cx.h0.get? D = none := (g.aux _ _ hD).2.1
    have haD : a ≠ D := by rintro rfl; rw [hx] at hDa; cases hDa
    have na : ∀ b ob, b ≠ D → s.heap.get? b = some ob → (s.heap.update D (Obj.putName name (PyData.keyHash cx.w.params name) (.str name (s.toks + 1)) r)).get? b = some ob := fun b ob hb eb => (hs.2 b hb).trans eb
    refine wpAny_pure ⟨own, H.set a (.inst C (pput fs name v)), ⟨fun b o eb => ?_, fun b ob eb => na b ob (by rintro rfl; rw [hD0] at eb; cases eb) (g.base b ob eb), fun b o eb hr => ?_, fun D2 b eD => ?_, g.os, g.gens⟩, ⟨fun b ob h1 h2 h3 => ?_, fun b c l k ob h1 h3 => ⟨by rw [AH.set_ne _ _ (show b ≠ a by rintro rfl; rw [hx] at h1; cases h1)]; exact h1, ob, na _ _ (show b ≠ D by rintro rfl; rw [hDa] at h1; cases h1) h3⟩⟩, q⟩
    · by_cases hb : b = a
      · subst hb
        rw [AH.set_self] at eb; cases eb
        exact ⟨D, _, _, hD, na _ _ haD hx', D', er'⟩
      · rw [AH.set_ne _ _ hb] at eb
        refine (g.obj b o eb).stable (fun c ob hc ec => na c ob ?_ ec) (fun _ e => e)
        rcases hc with rfl | hc
        · rintro rfl; rw [hDa] at eb; cases eb
        · rintro rfl; rw [hD] at hc; cases hc; exact hb rfl
    · by_cases hb : b = a
      · subst hb; exact g.new _ _ hx (by intro _; nofun)
      · rw [AH.set_ne _ _ hb] at eb; exact g.new b o eb hr
    · obtain ⟨x, y, ob, z⟩ := g.aux D2 b eD
      have : D2 ≠ a := by rintro rfl; rw [hx] at x; cases x
      refine ⟨by rw [AH.set_ne _ _ this]; exact x, y, ?_⟩
      by_cases h2 : D2 = D
      · subst h2; exact ⟨_, D'⟩
      · exact ⟨ob, na _ _ h2 z⟩
    · have hba : b ≠ a := by rintro rfl; rw [hx] at h1; cases h1
      have hbD : b ≠ D := by rintro rfl; rw [hD] at h2; cases h2
      exact ⟨by rw [AH.set_ne _ _ hba]; exact h1, h2, na _ _ hbD h3⟩
  | _ => exact t.elim

def tSetAttr (C : Addr) (name : Str) (Tv To : TE) : TS := fun ρ H Q => Tv ρ H fun v H1 => To ρ H1 fun ov H2 => pSetAttr C name ov v H2 fun H3 => Q .next ρ H3
theorem sden_setattr {C : Addr} {name : Str} {o e : Expr} {p p' : Pos} {Tv To : TE} (hc : ClsSet cx C name) (Dv : EDen cx sc nm d e Tv) (Do : EDen cx sc nm d o To)
    (hs : ∀ env, swapsWith e (some (.Attribute o name p')) p.line env = pure false := by intro _; rfl) : S1Den cx sc nm d (.Assign [.Attribute o name p'] e p) (tSetAttr C name Tv To) := by
  intro A f s own H ρ Q a ok hn g F t
  refine plainObj_wpAny_Assign_Attribute ?_ (hs _)
  refine wp_then (Dv A f s own H ρ _ a ok hn g F t) fun v r s1 own1 H1 e1 g1 x1 t1 => ?_
  have F1 := F.ext ok x1
  refine wp_then (Do A f s1 own1 H1 ρ _ a ok hn g1 F1 t1) fun v2 r2 s2 own2 H2 e2 g2 x2 t2 => ?_
  refine wpAny_mono (setattr_of hc g2 e2 e1 t2) (fun _ s4 ⟨own4, H4, g4, x4, q⟩ => ?_) fun _ _ e => e
  exact ⟨.next, ρ, own4, H4, .next, g4, ((x1.trans x2).trans x4).toW, (F1.ext ok x2).ext ok x4, q⟩
def tAugAttr (C : Addr) (name : Str) (To : TE) (P : BinP) (T : TE) : TS := fun ρ H Q => To ρ H fun ov H1 => pAttr C name ov H1 fun old H2 => T ρ H2 fun v H3 => P old v H3 fun r H4 => pSetAttr C name ov r H4 fun H5 => Q .next ρ H5
theorem sden_augattr {C : Addr} {name : Str} {o e : Expr} {op : Operator} {p p' : Pos} {P : BinP} {To T : TE} (hop : IOp cx d op P) (hg : ClsAt cx C name) (hc : ClsSet cx C name) (Do : EDen cx sc nm d o To) (D : EDen cx sc nm d e T) :
    S1Den cx sc nm d (.AugAssign (.Attribute o name p') op e p) (tAugAttr C name To P T) := by
  intro A f s own H ρ Q a ok hn g F t
  refine wpAny_AugAssign_AttributeAny (wp_then (Do A f s own H ρ _ a ok hn g F t) fun ov ro s1 own1 H1 e1 g1 x1 t1 => ?_)
  have F1 := F.ext ok x1
  refine wp_then (attr_of hg g1 e1 t1) fun old r2 s2 own2 H2 e2 g2 x2 t2 => ?_
  have F2 := F1.ext ok x2
  refine wp_then (D A f s2 own2 H2 ρ _ a ok hn g2 F2 t2) fun v3 r3 s3 own3 H3 e3 g3 x3 t3 => ?_
  have F3 := F2.ext ok x3
  refine wp_then (hop A s3 own3 H3 old v3 r2 r3 _ a g3 e2 e3 t3) fun v4 r4 s4 own4 H4 e4 g4 x4 t4 => ?_
  refine wpAny_mono (setattr_of hc g4 e1 e4 t4) (fun _ s5 ⟨own5, H5, g5, x5, q⟩ => ?_) fun _ _ e => e
  exact ⟨.next, ρ, own5, H5, .next, g5, ((((x1.trans x2).trans x3).trans x4).trans x5).toW, (F3.ext ok x4).ext ok x5, q⟩

/-! a new object -/
def pNew (C : Addr) (Pi : FnP) : FnP := fun vs H Q => ∀ x, H x = none → Pi (.ref x :: vs) (H.set x (.inst C [])) fun v H' => (match v with | .none => True | _ => False) ∧ Q (.ref x) H'
theorem new_of {C fI : Addr} {Pi : FnP} (hm : makesIn cx.K C = true) (hi : findIn cx.K (.ref C) "__init__" = some (some (.ref fI))) (hf : typeIn cx.K (.ref fI) = some (.type "function")) (Ci : CallC cx d (.ref fI) Pi) :
    CallOK cx (d + 1) (.ref C) (pNew C Pi) := by
  intro A s own H vs rs Q a g e p
  obtain ⟨hh, gn, dr, t, os⟩ := s
  have X := g.inK
  refine wpAny_call (make_core (makes_of X hm) (looks_findIn X hi) (fun self => bind_fn X self hf) (.inl rfl) ?_)
  have hxs : H (hh.objs.size + 1) = none := by
    cases q : H (hh.objs.size + 1) with
    | none => rfl
    | some o => exact absurd (g.lt q) (by show ¬ (hh.objs.size + 1 < hh.objs.size); omega)
  have hfD : H hh.objs.size = none := g.fresh
  have hoD : own hh.objs.size = none := g.freshOwn
  have kp : ∀ b o, hh.get? b = some o → ((hh.push emptyDict).push (instObj C hh.objs.size)).get? b = some o := fun b o e => Heap.get?_push_of_some _ (Heap.get?_push_of_some _ e)
  have hx : ((hh.push emptyDict).push (instObj C hh.objs.size)).get? (hh.objs.size + 1) = some (instObj C hh.objs.size) := by
    have := Heap.get?_push_size (hh.push emptyDict) (o := instObj C hh.objs.size) rfl
    rwa [Heap.size_push] at this
  have hDg : ((hh.push emptyDict).push (instObj C hh.objs.size)).get? hh.objs.size = some emptyDict := Heap.get?_push_of_some _ (Heap.get?_push_size _ rfl)
  have oldlt : ∀ b o, hh.get? b = some o → b < hh.objs.size := fun b o e => Heap.lt_size e
  have h0none : ∀ b, hh.objs.size ≤ b → cx.h0.get? b = none := fun b hb => by
    cases q : cx.h0.get? b with
    | none => rfl
    | some o => exact absurd (oldlt _ _ (g.base _ _ q)) (Nat.not_lt.mpr hb)
  let own1 : Own := fun b => if b = hh.objs.size then some (hh.objs.size + 1) else own b
  have ho1 : ∀ b c, own b = some c → own1 b = some c := fun b c e => by
    have : b ≠ hh.objs.size := by rintro rfl; rw [hoD] at e; cases e
    show (if b = hh.objs.size then _ else _) = _
    rw [if_neg this]; exact e
  have g1 : GRel cx own1 (H.set (hh.objs.size + 1) (.inst C [])) ⟨(hh.push emptyDict).push (instObj C hh.objs.size), gn, dr, t, os⟩ := by
    refine ⟨fun b o eb => ?_, fun b ob eb => kp _ _ (g.base b ob eb), fun b o eb hr => ?_, fun D b eD => ?_, g.os, g.gens⟩
    · by_cases hb : b = hh.objs.size + 1
      · subst hb
        rw [AH.set_self] at eb; cases eb
        exact ⟨hh.objs.size, [], 0, by show (if _ then _ else _) = _; rw [if_pos rfl], hx, hDg, .nil⟩
      · rw [AH.set_ne _ _ hb] at eb
        exact (g.obj b o eb).stable (fun c ob _ ec => kp c ob ec) (fun c e => ho1 _ _ e)
    · by_cases hb : b = hh.objs.size + 1
      · subst hb; exact ⟨h0none _ (Nat.le_succ _), Nat.lt_succ_of_lt g.hiSys⟩
      · rw [AH.set_ne _ _ hb] at eb; exact g.new b o eb hr
    · by_cases hD : D = hh.objs.size
      · subst hD
        refine ⟨?_, h0none _ (Nat.le_refl _), _, hDg⟩
        rw [AH.set_ne _ _ (Nat.ne_of_lt (Nat.lt_succ_self _))]; exact hfD
      · have eD' : own D = some b := by
          have : own1 D = own D := by show (if _ then _ else _) = _; rw [if_neg hD]
          rw [← this]; exact eD
        obtain ⟨x, y, ob, z⟩ := g.aux D b eD'
        refine ⟨?_, y, ob, kp _ _ z⟩
        rw [AH.set_ne _ _ (Nat.ne_of_lt (Nat.lt_succ_of_lt (oldlt _ _ z)))]; exact x
  have x1 : Ext own H hh own1 (H.set (hh.objs.size + 1) (.inst C [])) ((hh.push emptyDict).push (instObj C hh.objs.size)) := ⟨fun b o e1 e2 e3 => by
    have l := oldlt _ _ e3
    refine ⟨by rw [AH.set_ne _ _ (Nat.ne_of_lt (Nat.lt_succ_of_lt l))]; exact e1, ?_, kp _ _ e3⟩
    show (if _ then _ else _) = _
    rw [if_neg (Nat.ne_of_lt l)]; exact e2, fun b c l' k ob e1 e2 => ⟨by rw [AH.set_ne _ _ (Nat.ne_of_lt (Nat.lt_succ_of_lt (oldlt _ _ e2)))]; exact e1, ob, kp _ _ e2⟩⟩
  have au : AOk d (A.under (.builtin "type.__call__" ⟨.ref C :: rs, []⟩)) := by
    refine ⟨a.han, ?_, ?_⟩
    · have := a.dep; rw [depth_under_make]; omega
    · have := a.un; rw [units_under_make]; omega
  refine Ci _ _ own1 _ (.ref (hh.objs.size + 1) :: vs) _ _ _ au g1 (.cons (.ref _) e) (p _ hxs) fun v s' hp => ?_
  obtain ⟨v', own2, H2, hv, g2, x2, hnone, q⟩ := hp
  cases hv with
  | none => exact ⟨rfl, .ref _, own2, H2, .ref _, g2, x1.trans x2, q⟩
  | _ => exact hnone.elim

/-! a method of ours -/
structure ClsMeth (cx : Cx) (C : Addr) (name : Str) (f : Addr) : Prop where
  get : plainGet cx.K C name = true
  find : findIn cx.K (.ref C) name = some (some (.ref f))
  isFn : isFn cx.K (.ref f) = true
  keep : keepIn cx.K (.ref f) = true
def tMCall (C : Addr) (name : Str) (P : FnP) (To : TE) (Ts : List TE) : TE := fun ρ H Q => To ρ H fun v H1 => match v with
  | .ref a => (∃ fs, H1 a = some (.inst C fs) ∧ pget fs name = none) ∧ tAll Ts ρ H1 fun vs H2 => P (.ref a :: vs) H2 Q
  | _ => False
theorem den_mcall {C f : Addr} {name : Str} {o : Expr} {ap p : Pos} {args : List Expr} {P : FnP} {To : TE} {Ts : List TE} {pl : Env → Sem Bool} (hc : ClsMeth cx C name f) (Cf : CallOK cx d (.ref f) P) (Do : EDen cx sc nm d o To) (L : LDen cx sc nm d args Ts)
    (he : ∀ env, eval (.Call (.Attribute o name ap) args [] p) env = (do
      let ov ← eval o env
      standAt ap.atName
      let (f, first) ← holding [ov] (getMethod ov name (pl env))
      callWith p f first (backTo p (starEach args env)) []) := by intro _; rfl) : EDen cx sc nm d (.Call (.Attribute o name ap) args [] p) (tMCall C name P To Ts) := by
  intro A fr s own H ρ Q a ok hn g F t
  refine MethodCall_ (wp_then (Do A fr s own H ρ _ a ok hn g F t) fun v r s1 own1 H1 e1 g1 x1 t1 => ?_) (he _)
  cases e1 with
  | ref b =>
    obtain ⟨⟨fs, hx, hp⟩, t1⟩ := t1
    obtain ⟨D, es, n, hD, er, e2, I⟩ := inst_at g1 hx
    refine method_fn g1.inK I (plainGet_of hc.get).1 (plainGet_of hc.get).2 hc.find (beq_iff_eq.mp hc.isFn) (by show (lookIn name (dictOf es n)).map _ = _; rw [lookIn_dict, er.none hp]; rfl) ?_
    refine CW.K hc.keep A p _ [.ref b] _ s1 (L.plain p fr.env) (evalArgs_of L a ok hn g1 (F.ext ok x1) t1 fun vs rs s2 own2 H2 e2 g2 x2 t2 => ⟨g2.inK, ?_⟩)
    exact post_trans (x1.trans x2) (Cf A s2 own2 H2 (.ref b :: vs) (.ref b :: rs) Q a g2 (.cons (.ref b) e2) t2)
  | _ => exact t1.elim
end
end Mine
namespace Mine

structure Hid (cx : Cx) (f : Frm) (own : Own) (H : AH) (h : Heap) (a : Addr) : Prop where
  live : ∃ o, h.get? a = some o
  hn : H a = none
  on : own a = none
  h0 : cx.h0.get? a = none
  nf : a ∉ f.fo
/-- but for what is hidden -/
structure ExtX (W wr : List Addr) (own : Own) (H : AH) (h : Heap) (own' : Own) (H' : AH) (h' : Heap) : Prop where
  all : ∀ a o, a ∉ W → H a = none → own a = none → h.get? a = some o → H' a = none ∧ own' a = none ∧ ∃ o', h'.get? a = some o' ∧ (a ∉ wr → o' = o)
  tab : ∀ (a c : Addr) (l k : Int) (ob : Obj), a ∉ W → H a = some (.tab c l k) → h.get? a = some ob → H' a = some (.tab c l k) ∧ ∃ ob', h'.get? a = some ob'
theorem ExtW.toX {W wr own H h own' H' h'} (x : ExtW wr own H h own' H' h') : ExtX W wr own H h own' H' h' := ⟨fun a o _ e1 e2 e3 => x.all a o e1 e2 e3, fun a c l k ob _ e1 e2 => x.tab a c l k ob e1 e2⟩
theorem ExtX.refl (W wr : List Addr) (own : Own) (H : AH) (h : Heap) : ExtX W wr own H h own H h := (ExtW.refl wr own H h).toX
theorem ExtX.trans {W wr own₁ H₁ h₁ own₂ H₂ h₂ own₃ H₃ h₃} (x : ExtX W wr own₁ H₁ h₁ own₂ H₂ h₂) (y : ExtX W wr own₂ H₂ h₂ own₃ H₃ h₃) : ExtX W wr own₁ H₁ h₁ own₃ H₃ h₃ :=
  ⟨fun a o hw e1 e2 e3 => let ⟨p, q, o1, r, k⟩ := x.all a o hw e1 e2 e3; let ⟨p', q', o2, r', k'⟩ := y.all a o1 hw p q r; ⟨p', q', o2, r', fun h => (k' h).trans (k h)⟩, fun a c l k ob hw e1 e2 => let ⟨p, o', q⟩ := x.tab a c l k ob hw e1 e2; y.tab a c l k o' hw p q⟩
theorem ExtX.drop {W wr own H h own' H' h'} (x : ExtX W wr own H h own' H' h') (hw : ∀ a ∈ W, h.get? a = none) : ExtW wr own H h own' H' h' :=
  ⟨fun a o e1 e2 e3 => x.all a o (fun m => by rw [hw a m] at e3; cases e3) e1 e2 e3, fun a c l k ob e1 e2 => x.tab a c l k ob (fun m => by rw [hw a m] at e2; cases e2) e1 e2⟩
theorem Hid.ext {cx : Cx} {f sc own H h own' H' h' a} (ok : f.Ok cx sc) (y : Hid cx f own H h a) (x : ExtW f.wr own H h own' H' h') : Hid cx f own' H' h' a ∧ ∀ o, h.get? a = some o → h'.get? a = some o := by
  have hw : a ∉ f.wr := fun m => y.nf (ok.wf a m)
  obtain ⟨o, e⟩ := y.live
  obtain ⟨p, q, o', r, k⟩ := x.all a o y.hn y.on e
  have := k hw; subst this
  exact ⟨⟨⟨_, r⟩, p, q, y.h0, y.nf⟩, fun o2 e2 => by rw [e] at e2; cases e2; exact r⟩
theorem Hid.extE {cx : Cx} {f sc own H h own' H' h' a} (ok : f.Ok cx sc) (y : Hid cx f own H h a) (x : Ext own H h own' H' h') : Hid cx f own' H' h' a ∧ ∀ o, h.get? a = some o → h'.get? a = some o := y.ext ok x.toW
theorem Hid.fresh {cx : Cx} {f sc own H} {s : Shared} {ρ : Loc} (ok : f.Ok cx sc) (g : GRel cx own H s) (F : FRel cx own H f ρ s.heap) {h' : Heap} {a : Addr} (ha : s.heap.objs.size ≤ a) (hl : ∃ o, h'.get? a = some o) : Hid cx f own H h' a := by
  refine ⟨hl, ?_, ?_, ?_, fun m => ?_⟩
  · cases q : H a with
    | none => rfl
    | some o => exact absurd (g.lt q) (Nat.not_lt.mpr ha)
  · cases q : own a with
    | none => rfl
    | some o => obtain ⟨_, _, _, z⟩ := g.aux _ _ q; exact absurd (Heap.lt_size z) (Nat.not_lt.mpr ha)
  · cases q : cx.h0.get? a with
    | none => rfl
    | some o => exact absurd (Heap.lt_size (g.base _ _ q)) (Nat.not_lt.mpr ha)
  · obtain ⟨⟨o, e⟩, _, _⟩ := F.mine a m
    exact absurd (Heap.lt_size e) (Nat.not_lt.mpr ha)

section
variable {cx : Cx} {sc : Scope} {nm : List Str} {d : Nat}

/-- hidden objects turn -/
theorem hidden_turn {f : Frm} {own : Own} {H : AH} {ρ : Loc} {s : Shared} {h' : Heap} {tk : Nat} {W : List Addr} (ok : f.Ok cx sc) (g : GRel cx own H s) (F : FRel cx own H f ρ s.heap) (hW : ∀ a ∈ W, Hid cx f own H s.heap a)
    (hk : ∀ b o, b ∉ W → s.heap.get? b = some o → h'.get? b = some o) :
    GRel cx own H { s with heap := h', toks := tk } ∧ FRel cx own H f ρ h' ∧ ExtX W f.wr own H s.heap own H h' ∧ ((∀ a ∈ W, ∃ o, h'.get? a = some o) → ∀ a ∈ W, Hid cx f own H h' a) := by
  refine ⟨g.hidden fun a o ha e => hk a o (fun m => ?_) e, F.stable ok (fun a o ha e => hk a o (fun m => (hW a m).nf ha) e) fun a ha => let ⟨_, p, q⟩ := F.mine a ha; ⟨p, q⟩, ⟨fun a o hw e1 e2 e3 => ⟨e1, e2, o, hk a o hw e3, fun _ => rfl⟩, fun a _ _ _ o hw e1 e2 => ⟨e1, o, hk a o hw e2⟩⟩, fun hl a ha => ?_⟩
  · have := hW a m
    rcases ha with h | h | h
    · exact h this.hn
    · exact h this.on
    · exact h this.h0
  · have := hW a ha
    exact ⟨hl a ha, this.hn, this.on, this.h0, this.nf⟩

def PostSW (cx : Cx) (f : Frm) (W : List Addr) (own : Own) (H : AH) (h : Heap) (Q : Fl → Loc → AH → Prop) (fl : Flow) (s' : Shared) : Prop :=
  ∃ fl' ρ' own' H', FlR fl' fl ∧ GRel cx own' H' s' ∧ ExtX W f.wr own H h own' H' s'.heap ∧ FRel cx own' H' f ρ' s'.heap ∧ Q fl' ρ' H'

theorem for_core {A : Around} {f : Frm} {target : Expr} {body : List Stmt} {it : Addr} {B : TS} {W : List Addr} {St : Nat → Heap → Prop} {n : Nat} {C : AH → Prop} {U : Nat → Loc → Loc} {Q : Fl → Loc → AH → Prop}
    (a : AOk d A) (ok : f.Ok cx sc) (hn : f.nm = nm) (DB : SDen cx sc nm d body B)
    (hst : ∀ k h h', (∀ a ∈ W, ∀ o, h.get? a = some o → h'.get? a = some o) → St k h → St k h')
    (hnext : ∀ k s own H ρ, k < n → GRel cx own H s → FRel cx own H f ρ s.heap → (∀ a ∈ W, Hid cx f own H s.heap a) → St k s.heap → C H →
      wpAny (model cx.prog cx.w) A (pyNext (.ref it)) (fun r s1 => ∃ rv, r = some rv ∧ wpAny (model cx.prog cx.w) A (letOwnedTupleGo target (.ref it) rv) (fun _ s1' =>
        wpAny (model cx.prog cx.w) A (assign target f.env rv) (fun _ s2 => GRel cx own H s2 ∧ FRel cx own H f (U k ρ) s2.heap ∧ ExtX W f.wr own H s.heap own H s2.heap ∧ (∀ a ∈ W, Hid cx f own H s2.heap a) ∧ St (k + 1) s2.heap) NoE s1') NoE s1) NoE s)
    (hend : ∀ s own H ρ, GRel cx own H s → FRel cx own H f ρ s.heap → (∀ a ∈ W, Hid cx f own H s.heap a) → St n s.heap → C H →
      wpAny (model cx.prog cx.w) A (pyNext (.ref it)) (fun r s1 => r = none ∧ GRel cx own H s1 ∧ FRel cx own H f ρ s1.heap ∧ ExtX W f.wr own H s.heap own H s1.heap) NoE s)
    (J : Nat → Loc → AH → Prop)
    (hJ : ∀ k ρ H, k < n → J k ρ H → C H ∧ B (U k ρ) H fun fl ρ2 H2 => match fl with
      | .next | .cont => J (k + 1) ρ2 H2
      | .brk => Q .next ρ2 H2
      | .ret v => Q (.ret v) ρ2 H2)
    (hJn : ∀ ρ H, J n ρ H → C H ∧ Q .next ρ H)
    {s : Shared} {own : Own} {H : AH} {ρ : Loc} (g : GRel cx own H s) (F : FRel cx own H f ρ s.heap) (hW : ∀ a ∈ W, Hid cx f own H s.heap a) (h0 : St 0 s.heap) (j0 : J 0 ρ H) :
    codeAny (model cx.prog cx.w) A (.forLoop target (.ref it) body [] f.env) (fun r s' => match r with | .ok fl => PostSW cx f W own H s.heap Q fl s' | .error _ => False) s := by
  refine codeAny_forLoop_any (fun m s' => ∃ k own' H' ρ', m = n - k ∧ k ≤ n ∧ GRel cx own' H' s' ∧ ExtX W f.wr own H s.heap own' H' s'.heap ∧ FRel cx own' H' f ρ' s'.heap ∧ (∀ a ∈ W, Hid cx f own' H' s'.heap a) ∧ St k s'.heap ∧ J k ρ' H') ?_ n
    ⟨0, own, H, ρ, rfl, Nat.zero_le _, g, .refl .., F, hW, h0, j0⟩
  rintro m s1 ⟨k, own1, H1, ρ1, rfl, hk, g1, x1, F1, hW1, st1, j1⟩
  by_cases hkn : k < n
  · obtain ⟨c1, b1⟩ := hJ k ρ1 H1 hkn j1
    refine wpAny_mono (hnext k s1 own1 H1 ρ1 hkn g1 F1 hW1 st1 c1) (fun r s2 ⟨rv, hr, h2⟩ => ?_) fun _ _ e => e.elim
    subst hr
    refine wpAny_mono h2 (fun _ s3 h3 => ?_) fun _ _ e => e.elim
    refine wpAny_mono h3 (fun _ s4 ⟨g4, F4, x4, hW4, st4⟩ => ?_) fun _ _ e => e.elim
    refine wpAny_mono (DB A f s4 own1 H1 _ _ a ok hn g4 F4 b1) (fun fl s5 p => ?_) fun _ _ e => e.elim
    obtain ⟨fl', ρ5, own5, H5, r, g5, x5, F5, t5⟩ := p
    have x := (x1.trans x4).trans x5.toX
    have hW5 : ∀ a ∈ W, Hid cx f own5 H5 s5.heap a := fun a ha => ((hW4 a ha).ext ok x5).1
    have st5 : St (k + 1) s5.heap := hst _ _ _ (fun a ha o e => ((hW4 a ha).ext ok x5).2 o e) st4
    cases r with
    | next => exact ⟨n - (k + 1), by omega, k + 1, own5, H5, ρ5, rfl, hkn, g5, x, F5, hW5, st5, t5⟩
    | cont => exact ⟨n - (k + 1), by omega, k + 1, own5, H5, ρ5, rfl, hkn, g5, x, F5, hW5, st5, t5⟩
    | brk => exact ⟨.next, ρ5, own5, H5, .next, g5, x, F5, t5⟩
    | ret hv => exact ⟨.ret _, ρ5, own5, H5, .ret hv, g5, x, F5, t5⟩
  · have : k = n := by omega
    subst this
    obtain ⟨c1, q1⟩ := hJn ρ1 H1 j1
    refine wpAny_mono (hend s1 own1 H1 ρ1 g1 F1 hW1 st1 c1) (fun r s2 ⟨hr, g2, F2, x2⟩ => ?_) fun _ _ e => e.elim
    subst hr
    exact wpAny_execs_nil ⟨.next, ρ1, own1, H1, .next, g2, x1.trans x2, F2, q1⟩

/-- the tail of every for -/
theorem for_tail {A : Around} {f : Frm} {W : List Addr} {s s1 : Shared} {own H own1 H1} {Q : Fl → Loc → AH → Prop} {c : Code} (x : ExtW f.wr own H s.heap own1 H1 s1.heap) {s2 : Shared} (x2 : ExtW f.wr own1 H1 s1.heap own1 H1 s2.heap) (hW : ∀ a ∈ W, s1.heap.get? a = none)
    (h : codeAny (model cx.prog cx.w) A c (fun r s' => match r with | .ok fl => PostSW cx f W own1 H1 s2.heap Q fl s' | .error _ => False) s2) {env : Env} :
    codeAny (model cx.prog cx.w) A c (fun r s' => match r with | .ok fl => PostS cx f own H s.heap Q fl s' | .error e => cameBackBy (model cx.prog cx.w) A env NoE e s') s2 := by
  refine codeAny_mono h fun r s' p => ?_
  cases r with
  | error e => exact p.elim
  | ok fl =>
    obtain ⟨fl', ρ', own', H', r, g, y, F, q⟩ := p
    refine ⟨fl', ρ', own', H', r, g, x.trans (ExtX.drop (W := W) (x2.toX.trans y) hW), F, q⟩

/-! for x in a list -/
def isLst (l : Addr) (xs : List V) (H : AH) : Prop := H l = some (.list xs) ∨ H l = some (.ro xs)
def tForL (Tit : TE) (i : Nat) (B : TS) : TS := fun ρ H Q => Tit ρ H fun v H1 => match v with
  | .ref l => ∃ xs, isLst l xs H1 ∧ ∃ J : Nat → Loc → AH → Prop, J 0 ρ H1 ∧
      (∀ k ρ H, k < xs.length → J k ρ H → isLst l xs H ∧ B (ρ.set i xs[k]?) H fun fl ρ2 H2 => match fl with
        | .next | .cont => J (k + 1) ρ2 H2
        | .brk => Q .next ρ2 H2
        | .ret v => Q (.ret v) ρ2 H2) ∧
      (∀ ρ H, J xs.length ρ H → isLst l xs H ∧ Q .next ρ H)
  | _ => False

theorem sden_forL {i : Nat} {x : Str} {iter : Expr} {body : List Stmt} {p p' : Pos} {Tit : TE} {B : TS} (hx : nm[i]? = some x) (hk : sc.names.lookup x = some .local ∨ sc.names.lookup x = some .cell) (D : EDen cx sc nm d iter Tit) (DB : SDen cx sc nm d body B)
    (hs : ∀ env x, foldedSetIterable iter env x = pure x := by intros; rfl) : S1Den cx sc nm d (.For (.Name x p') iter body [] p) (tForL Tit i B) := by
  intro A f s own H ρ Q a ok hn g F t
  refine wpAny_For (wp_then (D A f s own H ρ _ a ok hn g F t) fun v rv s1 own1 H1 e1 g1 x1 t1 => ?_) (hs _)
  have F1 := F.ext ok x1
  cases e1 with
  | ref l =>
    obtain ⟨xs, hl, J, j0, hJ, hJn⟩ := t1
    obtain ⟨rs, vr, i1⟩ := g1.anyList hl
    refine wpAny_pyIter_list i1 ?_
    have kp : ∀ b o, s1.heap.get? b = some o → (s1.heap.push { cls := .type "list_iterator", data := .fields #[.ref l, .int 0 0] }).get? b = some o := fun b o e => Heap.get?_push_of_some _ e
    have xk : Ext own1 H1 s1.heap own1 H1 (s1.heap.push { cls := .type "list_iterator", data := .fields #[.ref l, .int 0 0] }) := .grow kp
    have hfr : s1.heap.get? s1.heap.objs.size = none := Heap.get?_none_of_le (Nat.le_refl _)
    have hW : ∀ a ∈ [s1.heap.objs.size], Hid cx f own1 H1 (s1.heap.push { cls := .type "list_iterator", data := .fields #[.ref l, .int 0 0] }) a := fun a ha => by
      rw [List.mem_singleton.mp ha]
      exact Hid.fresh ok g1 F1 (Nat.le_refl _) ⟨_, Heap.get?_push_size _ rfl⟩
    refine for_tail (W := [s1.heap.objs.size]) x1.toW xk.toW (fun a ha => by rw [List.mem_singleton.mp ha]; exact hfr) ?_
    refine for_core (n := xs.length) (C := isLst l xs) (U := fun k ρ => ρ.set i xs[k]?) (St := fun k h => h.IsListIter s1.heap.objs.size l k) a ok hn DB (fun k h h' hk st => ?_) (fun k s2 own2 H2 ρ2 hkn g2 F2 hW2 st2 c2 => ?_) (fun s2 own2 H2 ρ2 g2 F2 hW2 st2 c2 => ?_) J hJ hJn (s := { s1 with heap := s1.heap.push _ }) (g1.grow kp) (F1.ext ok xk) hW ⟨_, Heap.get?_push_size _ rfl, rfl, rfl⟩ j0
    · exact st.at fun o e => hk _ (List.mem_singleton_self _) o e
    · obtain ⟨rs2, vr2, i2⟩ := g2.anyList c2
      obtain ⟨r, hr, hv⟩ := vr2.get (i := k) (v := xs[k]) (by simp [hkn])
      refine wpAny_pyNext_list_item st2 i2 (x := r) (by simpa using hr) fun h' hit hs => ⟨r, rfl, ?_⟩
      refine wpAny_of_eq (a := ()) rfl ?_
      obtain ⟨g3, F3, x3, hW3⟩ := hidden_turn (h' := h') (tk := s2.toks) (W := [s1.heap.objs.size]) ok g2 F2 hW2 (fun b o hb e => (hs.2 b fun q => hb (by rw [q]; exact List.mem_singleton_self _)).trans e)
      replace hW3 := hW3 fun a ha => by rw [List.mem_singleton.mp ha]; obtain ⟨o, e, _⟩ := hit; exact ⟨o, e⟩
      refine wpAny_assign_Name (store_of (i := i) (s := { s2 with heap := h' }) ok (hn ▸ hx) hk g3 F3 hv fun s4 g4 x4 F4 => ?_)
      have : xs[k]? = some xs[k] := by simp [hkn]
      refine ⟨g4, by rw [this]; exact F4, x3.trans x4.toX, fun a ha => ((hW3 a ha).ext ok x4).1, ?_⟩
      exact hit.at fun o e => ((hW3 _ (List.mem_singleton_self _)).ext ok x4).2 o e
    · obtain ⟨rs2, vr2, i2⟩ := g2.anyList c2
      refine wpAny_pyNext_list_end a.han st2 i2 (by simp [vr2.length]) fun h' he => ?_
      obtain ⟨g3, F3, x3, _⟩ := hidden_turn (h' := h') (tk := s2.toks) (W := [s1.heap.objs.size]) ok g2 F2 hW2 (fun b o hb e => he b o (fun q => hb (by rw [q]; exact List.mem_singleton_self _)) e)
      exact ⟨rfl, g3, F3, x3⟩
  | _ => exact t1.elim
end
end Mine
namespace Mine

def setAll : Loc → List Nat → List V → Loc
  | ρ, i :: is, v :: vs => setAll (ρ.set i (some v)) is vs
  | ρ, _, _ => ρ

inductive NDen (sc : Scope) (nm : List Str) : List Expr → List Nat → Prop
  | nil : NDen sc nm [] []
  | cons {i x p es is} : nm[i]? = some x → (sc.names.lookup x = some .local ∨ sc.names.lookup x = some .cell) → NDen sc nm es is → NDen sc nm (.Name x p :: es) (i :: is)

section
variable {cx : Cx} {sc : Scope} {nm : List Str} {d : Nat}

theorem assignEach_nil (env : Env) : assignEach [] env = [] := by rfl
theorem assignEach_name (x : Str) (p : Pos) (es : List Expr) (env : Env) : assignEach (.Name x p :: es) env = (false, assign (.Name x p) env) :: assignEach es env := by rfl
theorem NDen.len {es is} (N : NDen sc nm es is) (env : Env) : (assignEach es env).length = is.length := by
  induction N with
  | nil => rw [assignEach_nil]; rfl
  | cons h1 h2 N ih => rw [assignEach_name, List.length_cons, List.length_cons, ih]
theorem NDen.star {es is} (N : NDen sc nm es is) (env : Env) : (assignEach es env).findIdx? (·.1) = none := by
  induction N with
  | nil => rw [assignEach_nil]; rfl
  | cons h1 h2 N ih => rw [assignEach_name, List.findIdx?_cons, ih]; rfl
theorem inOrder_of {es is} (N : NDen sc nm es is) : ∀ {A : Around} {f : Frm} {s : Shared} {own : Own} {H : AH} {ρ : Loc} {vs : List V} {rs : List Value} {R : Unit → Shared → Prop}, f.Ok cx sc → f.nm = nm → GRel cx own H s → FRel cx own H f ρ s.heap → VRs vs rs → vs.length = is.length →
    (∀ s', GRel cx own H s' → ExtW f.wr own H s.heap own H s'.heap → FRel cx own H f (setAll ρ is vs) s'.heap → R () s') →
    wpAny (model cx.prog cx.w) A (assignInOrder ((assignEach es f.env).map (·.2)) rs) R NoE s := by
  induction N with
  | nil =>
    intro A f s own H ρ vs rs R ok hn g F e hl k
    rw [assignEach_nil]
    cases e with
    | nil => exact wpAny_pure (k s g (.refl ..) F)
    | cons _ _ => simp at hl
  | @cons i x p es is h1 h2 N ih =>
    intro A f s own H ρ vs rs R ok hn g F e hl k
    rw [assignEach_name]
    cases e with
    | nil => simp at hl
    | @cons v rv vs rs e1 e2 =>
      show wpAny _ _ (do holding rs (assign (.Name x p) f.env rv); assignInOrder ((assignEach es f.env).map (·.2)) rs) _ _ _
      refine wpAny_bind (wpAny_holding (wpAny_assign_Name (store_of ok (hn ▸ h1) h2 g F e1 fun s1 g1 x1 F1 => ?_)))
      exact ih ok hn g1 F1 e2 (by simpa using hl) fun s2 g2 x2 F2 => k s2 g2 (x1.trans x2) F2

/-- a tuple is taken apart -/
theorem unpack_of {es is k p} (N : NDen sc nm es is) {A : Around} {f : Frm} {s : Shared} {own : Own} {H : AH} {ρ : Loc} {vs : List V} {rs : List Value} {t : Addr} {R : Unit → Shared → Prop} (a : AOk d A) (ok : f.Ok cx sc) (hn : f.nm = nm) (g : GRel cx own H s) (F : FRel cx own H f ρ s.heap)
    (ht : s.heap.IsTuple t rs.toArray) (e : VRs vs rs) (hl : vs.length = is.length)
    (kk : ∀ s', GRel cx own H s' → ExtW f.wr own H s.heap own H s'.heap → FRel cx own H f (setAll ρ is vs) s'.heap → R () s') :
    wpAny (model cx.prog cx.w) A (assign (.Tuple es k p) f.env (.ref t)) R NoE s := by
  refine wpAny_assign_Tuple a.han ht (by rw [N.len, size_of e, hl]) (N.star _) fun h' hx => ?_
  have kp : ∀ b o, s.heap.get? b = some o → h'.get? b = some o := fun b o e => hx b o (Nat.ne_of_lt (Heap.lt_size e)) e
  have xk : Ext own H s.heap own H h' := .grow kp
  exact inOrder_of N (s := { s with heap := h' }) ok hn (g.grow kp) (F.ext ok xk) (by simpa using e) hl fun s2 g2 x2 F2 => kk s2 g2 (xk.toW.trans x2) F2

def tUnpack (is : List Nat) (T : TE) : TS := fun ρ H Q => T ρ H fun v H1 => match v with
  | .ref t => ∃ vs, H1 t = some (.tup vs) ∧ vs.length = is.length ∧ Q .next (setAll ρ is vs) H1
  | _ => False
theorem sden_unpack {es is k tp e p} {T : TE} (N : NDen sc nm es is) (D : EDen cx sc nm d e T)
    (hs : ∀ env, swapsWithSole [.Tuple es k tp] e p.line env = pure false := by intro _; rfl) (hw : ∀ env, swappedStores [.Tuple es k tp] e env = pure none := by intro _; rfl) :
    S1Den cx sc nm d (.Assign [.Tuple es k tp] e p) (tUnpack is T) := by
  intro A f s own H ρ Q a ok hn g F t
  refine Assign_Tuple (wp_then (D A f s own H ρ _ a ok hn g F t) fun v rv s1 own1 H1 e1 g1 x1 t1 => ?_) (hs _) (hw _)
  cases e1 with
  | ref t =>
    obtain ⟨vs, ht, hl, q⟩ := t1
    obtain ⟨rs, n, vr, i⟩ := g1.tup ht
    exact unpack_of N a ok hn g1 (F.ext ok x1) ⟨_, i, rfl, _, rfl⟩ vr hl fun s2 g2 x2 F2 => ⟨.next, _, own1, H1, .next, g2, x1.toW.trans x2, F2, q⟩
  | _ => exact t1.elim

/-! range -/
theorem range_eval {e : Expr} {np p : Pos} {T : TE} (D : EDen cx sc nm d e T) (hx : sc.names.lookup ("range" : Str) = some .globalImplicit) (hs : ∀ env rest, starEach (e :: rest) env = (false, eval e env) :: starEach rest env := by intros; rfl)
    {A : Around} {f : Frm} {s : Shared} {own : Own} {H : AH} {ρ : Loc} {Qr : Int → AH → Prop} {R : Value → Shared → Prop} (a : AOk d A) (ok : f.Ok cx sc) (hn : f.nm = nm) (g : GRel cx own H s) (F : FRel cx own H f ρ s.heap)
    (t : T ρ H fun v H1 => match v with | .int n => Qr n H1 | _ => False)
    (k : ∀ n r t u v s1 own1 H1, GRel cx own1 H1 s1 → Ext own H s.heap own1 H1 s1.heap → IsRange s1.heap r 0 n 1 t u v → Qr n H1 → R (.ref r) s1) :
    wpAny (model cx.prog cx.w) A (eval (.Call (.Name "range" np) [e] [] p) f.env) R NoE s := by
  refine PyProof.Rows.Call_ (bname (x := "range") (v := .type "range") ok g (by simp [bList]) hx ?_ rfl)
  refine CW.type A p _ [] _ s ((LDen.cons D hs .nil).plain p f.env) (evalArgs_of (.cons D hs .nil) a ok hn g F (Q := fun vs H1 => match vs with | [.int n] => Qr n H1 | _ => False) ?_ fun vs rs s1 own1 H1 e1 g1 x1 t1 => ⟨g1.inK, ?_⟩)
  · show T ρ H _
    have : (fun v H1 => match v with | .int n => Qr n H1 | _ => False : V → AH → Prop) = fun v H1 => tAll [] ρ H1 fun vs H2 => match v :: vs with | [.int n] => Qr n H2 | _ => False := by
      funext v H1
      cases v <;> rfl
    rw [← this]; exact t
  · match vs, rs, e1 with
    | [.int n], _, .cons (.int _ tk) .nil =>
      refine call_range_1 ?_
      have kp : ∀ b o, s1.heap.get? b = some o → (s1.heap.push { cls := .type "range", data := .fields #[.int 0 s1.toks, .int n tk, .int 1 (s1.toks + 1)] }).get? b = some o := fun b o e => Heap.get?_push_of_some _ e
      exact k n _ _ _ _ _ own1 H1 (g1.grow kp) (x1.trans (.grow kp)) (IsRange.new ..) t1
    | [], _, _ => exact t1.elim
    | [.none], _, _ => exact t1.elim
    | [.bool _], _, _ => exact t1.elim
    | [.str _], _, _ => exact t1.elim
    | [.ref _], _, _ => exact t1.elim
    | .none :: _ :: _, _, _ => exact t1.elim
    | .bool _ :: _ :: _, _, _ => exact t1.elim
    | .str _ :: _ :: _, _, _ => exact t1.elim
    | .ref _ :: _ :: _, _, _ => exact t1.elim
    | .int _ :: _ :: _, _, _ => exact t1.elim

/-- list(range(e)) -/
def upV (n : Nat) : List V := (List.range n).map fun (k : Nat) => V.int k
def tListRange (T : TE) : TE := fun ρ H Q => T ρ H fun v H1 => match v with
  | .int n => n ≤ 2 ^ 24 ∧ -(2 ^ 62) ≤ n ∧ ∀ c, H1 c = none → Q (.ref c) (H1.set c (.list (upV n.toNat)))
  | _ => False
theorem upV_rel {acc : Array Value} {n : Nat} (h : ItemsOf (fun i v => ∃ t, v = .int (0 + (i : Nat) * 1) t) acc n) : VRs (upV n) acc.toList := by
  obtain ⟨hs, hi⟩ := h
  have key : ∀ (m : Nat) (l : List Value), (∀ j v, l[j]? = some v → ∃ t, v = Value.int ((m + j : Nat) : Int) t) → VRs ((List.range' m l.length).map fun (k : Nat) => V.int k) l := by
    intro m l
    induction l generalizing m with
    | nil => intro _; exact .nil
    | cons x l ih =>
      intro h
      rw [List.length_cons, List.range'_succ, List.map_cons]
      obtain ⟨t, ht⟩ := h 0 x rfl
      subst ht
      refine .cons (.int _ _) (ih (m + 1) fun j v hv => ?_)
      obtain ⟨t, ht⟩ := h (j + 1) v (by simpa using hv)
      exact ⟨t, by rw [ht]; congr 1; omega⟩
  have := key 0 acc.toList fun j v hv => by
    obtain ⟨t, ht⟩ := hi j v (by simpa using hv)
    exact ⟨t, by rw [ht]; congr 1; omega⟩
  rw [show acc.toList.length = n from by simpa using hs] at this
  unfold upV
  rw [List.range_eq_range']
  exact this
theorem den_listrange {e : Expr} {np p lp q : Pos} {T : TE} (D : EDen cx sc nm d e T) (hx : sc.names.lookup ("range" : Str) = some .globalImplicit) (hl : sc.names.lookup ("list" : Str) = some .globalImplicit)
    (hs : ∀ env rest, starEach (e :: rest) env = (false, eval e env) :: starEach rest env := by intros; rfl)
    (hs2 : ∀ env, starEach [.Call (.Name "range" np) [e] [] p] env = [(false, eval (.Call (.Name "range" np) [e] [] p) env)] := by intros; rfl) : EDen cx sc nm d (.Call (.Name "list" lp) [.Call (.Name "range" np) [e] [] p] [] q) (tListRange T) := by
  intro A f s own H ρ Q a ok hn g F t
  refine PyProof.Rows.Call_ (bname (x := "list") (v := .type "list") ok g (by simp [bList]) hl ?_ rfl)
  rw [hs2]
  refine PyProof.Rows.callWith_type rfl (evalArgs_plain (Calls.spliced_cons (range_eval D hx hs (Qr := fun n H1 => n ≤ 2 ^ 24 ∧ -(2 ^ 62) ≤ n ∧ ∀ c, H1 c = none → Q (.ref c) (H1.set c (.list (upV n.toNat)))) a ok hn g F t fun n r t u v s1 own1 H1 g1 x1 ir h1 => Calls.spliced_nil ?_)))
  obtain ⟨h1, h2, q⟩ := h1
  refine call_list_range (n := n.toNat) a.han ir (small_one (by decide) (by decide) h2 (by omega)) (by rw [rangeSize_one]; split <;> omega) (by omega) fun h' tk acc' c' hk hS hI => ?_
  have g2 : GRel cx own1 H1 { s1 with heap := h', toks := tk } := g1.grow hk
  have hf := g1.fresh
  have hfo := g1.freshOwn
  refine ⟨_, own1, H1.set s1.heap.objs.size (.list (upV n.toNat)), .ref _, ?_, x1.trans ⟨fun b o e1 e2 e3 => ⟨by rw [AH.set_ne _ _ (Nat.ne_of_lt (Heap.lt_size e3))]; exact e1, e2, hk _ _ e3⟩, fun b c l k ob e1 e2 => ⟨by rw [AH.set_ne _ _ (Nat.ne_of_lt (Heap.lt_size e2))]; exact e1, ob, hk _ _ e2⟩⟩, q _ hf⟩
  exact g2.enter (h' := h') (tk := tk) hf hfo ⟨g1.fresh0, g1.hiSys⟩ ⟨rfl, fun _ _ => rfl⟩ ⟨acc'.toList, c', upV_rel hI, by simpa using hS⟩

/-- for x in range(e) -/
def tForR (T : TE) (i : Nat) (B : TS) : TS := fun ρ H Q => T ρ H fun v H1 => match v with
  | .int n => -(2 ^ 62) ≤ n ∧ n < 2 ^ 62 ∧ ∃ J : Nat → Loc → AH → Prop, J 0 ρ H1 ∧
      (∀ k ρ H, k < n.toNat → J k ρ H → B (ρ.set i (some (.int k))) H fun fl ρ2 H2 => match fl with
        | .next | .cont => J (k + 1) ρ2 H2
        | .brk => Q .next ρ2 H2
        | .ret v => Q (.ret v) ρ2 H2) ∧
      (∀ ρ H, J n.toNat ρ H → Q .next ρ H)
  | _ => False
theorem sden_forR {i : Nat} {x : Str} {e : Expr} {body : List Stmt} {p p' np q : Pos} {T : TE} {B : TS} (hx : nm[i]? = some x) (hk : sc.names.lookup x = some .local ∨ sc.names.lookup x = some .cell) (D : EDen cx sc nm d e T) (DB : SDen cx sc nm d body B)
    (hr : sc.names.lookup ("range" : Str) = some .globalImplicit) (hs : ∀ env x, foldedSetIterable (.Call (.Name "range" np) [e] [] q) env x = pure x := by intros; rfl)
    (hs1 : ∀ env rest, starEach (e :: rest) env = (false, eval e env) :: starEach rest env := by intros; rfl) : S1Den cx sc nm d (.For (.Name x p') (.Call (.Name "range" np) [e] [] q) body [] p) (tForR T i B) := by
  intro A f s own H ρ Q a ok hn g F t
  refine wpAny_For (range_eval D hr hs1 (Qr := fun n H1 => -(2 ^ 62) ≤ n ∧ n < 2 ^ 62 ∧ ∃ J : Nat → Loc → AH → Prop, J 0 ρ H1 ∧
      (∀ k ρ H, k < n.toNat → J k ρ H → B (ρ.set i (some (.int k))) H fun fl ρ2 H2 => match fl with
        | .next | .cont => J (k + 1) ρ2 H2
        | .brk => Q .next ρ2 H2
        | .ret v => Q (.ret v) ρ2 H2) ∧
      (∀ ρ H, J n.toNat ρ H → Q .next ρ H)) a ok hn g F t fun n r t u v s1 own1 H1 g1 x1 ir h1 => ?_) (hs _)
  obtain ⟨h1, h2, J, j0, hJ, hJn⟩ := h1
  have F1 := F.ext ok x1
  refine wpAny_pyIter_range ir (small_one (by decide) (by decide) h1 h2) ?_
  have hsz : Builtin.Range.rangeSize 0 n 1 = (n.toNat : Int) := by rw [rangeSize_one]; split <;> omega
  rw [hsz]
  have kp : ∀ b o, s1.heap.get? b = some o → (s1.heap.push { cls := .type "range_iterator", data := .fields #[rawInt 0, rawInt (n.toNat : Int), rawInt 1] }).get? b = some o := fun b o e => Heap.get?_push_of_some _ e
  have xk : Ext own1 H1 s1.heap own1 H1 (s1.heap.push { cls := .type "range_iterator", data := .fields #[rawInt 0, rawInt (n.toNat : Int), rawInt 1] }) := .grow kp
  have hfr : s1.heap.get? s1.heap.objs.size = none := Heap.get?_none_of_le (Nat.le_refl _)
  have hW : ∀ a ∈ [s1.heap.objs.size], Hid cx f own1 H1 (s1.heap.push { cls := .type "range_iterator", data := .fields #[rawInt 0, rawInt (n.toNat : Int), rawInt 1] }) a := fun a ha => by
    rw [List.mem_singleton.mp ha]
    exact Hid.fresh ok g1 F1 (Nat.le_refl _) ⟨_, Heap.get?_push_size _ rfl⟩
  refine for_tail (W := [s1.heap.objs.size]) x1.toW xk.toW (fun a ha => by rw [List.mem_singleton.mp ha]; exact hfr) ?_
  refine for_core (n := n.toNat) (C := fun _ => True) (U := fun k ρ => ρ.set i (some (.int k))) (St := fun k h => IsRangeIter h s1.heap.objs.size ((k : Nat) : Int) ((n.toNat : Int) - (k : Nat)) 1) a ok hn DB (fun k h h' hk st => hk _ (List.mem_singleton_self _) _ st)
    (fun k s2 own2 H2 ρ2 hkn g2 F2 hW2 st2 c2 => ?_) (fun s2 own2 H2 ρ2 g2 F2 hW2 st2 c2 => ?_) J (fun k ρ H h1 h2 => ⟨trivial, hJ k ρ H h1 h2⟩) (fun ρ H h => ⟨trivial, hJn ρ H h⟩) (s := { s1 with heap := s1.heap.push _ }) (g1.grow kp) (F1.ext ok xk) hW ?_ j0
  · refine wpAny_pyNext_range_item st2 (by omega) fun h' hit hs => ⟨_, rfl, ?_⟩
    refine wpAny_of_eq (a := ()) rfl ?_
    obtain ⟨g3, F3, x3, hW3⟩ := hidden_turn (h' := h') (tk := s2.toks + 1) (W := [s1.heap.objs.size]) ok g2 F2 hW2 (fun b o hb e => (hs.2 b fun q => hb (by rw [q]; exact List.mem_singleton_self _)).trans e)
    replace hW3 := hW3 fun a ha => by rw [List.mem_singleton.mp ha]; exact ⟨_, hit⟩
    refine wpAny_assign_Name (store_of (i := i) (s := { s2 with heap := h', toks := s2.toks + 1 }) (v := .int k) ok (hn ▸ hx) hk g3 F3 (.int _ _) fun s4 g4 x4 F4 => ?_)
    refine ⟨g4, F4, x3.trans x4.toX, fun a ha => ((hW3 a ha).ext ok x4).1, ?_⟩
    have h5 := ((hW3 _ (List.mem_singleton_self _)).ext ok x4).2 _ hit
    have e1 : ((k : Nat) : Int) + 1 = ((k + 1 : Nat) : Int) := by push_cast; rfl
    have e2 : (n.toNat : Int) - (k : Nat) - 1 = (n.toNat : Int) - ((k + 1 : Nat) : Int) := by push_cast; omega
    rw [e1, e2] at h5
    exact h5
  · refine wpAny_pyNext_range_end a.han st2 (by omega) fun h' he => ?_
    obtain ⟨g3, F3, x3, _⟩ := hidden_turn (h' := h') (tk := s2.toks) (W := [s1.heap.objs.size]) ok g2 F2 hW2 (fun b o hb e => he b o (fun q => hb (by rw [q]; exact List.mem_singleton_self _)) e)
    exact ⟨rfl, g3, F3, x3⟩
  · have : ((n.toNat : Int) - ((0 : Nat) : Int)) = (n.toNat : Int) := by simp
    rw [this]
    exact Heap.get?_push_size _ rfl

/-- for i, x in enumerate(list) -/
def qForE (i j : Nat) (B : TS) (ρ : Loc) (Q : Fl → Loc → AH → Prop) (l : Addr) (H1 : AH) : Prop :=
  ∃ xs, isLst l xs H1 ∧ ∃ J : Nat → Loc → AH → Prop, J 0 ρ H1 ∧
      (∀ k ρ H, k < xs.length → J k ρ H → isLst l xs H ∧ B ((ρ.set i (some (.int k))).set j xs[k]?) H fun fl ρ2 H2 => match fl with
        | .next | .cont => J (k + 1) ρ2 H2
        | .brk => Q .next ρ2 H2
        | .ret v => Q (.ret v) ρ2 H2) ∧
      (∀ ρ H, J xs.length ρ H → isLst l xs H ∧ Q .next ρ H)
def tForE (Tit : TE) (i j : Nat) (B : TS) : TS := fun ρ H Q => Tit ρ H fun v H1 => match v with
  | .ref l => qForE i j B ρ Q l H1
  | _ => False
theorem sden_forE {i j : Nat} {x y : Str} {e : Expr} {body : List Stmt} {p px py pt np q : Pos} {kt : Nat} {Tit : TE} {B : TS} (hx : nm[i]? = some x) (hk : sc.names.lookup x = some .local ∨ sc.names.lookup x = some .cell)
    (hy : nm[j]? = some y) (hky : sc.names.lookup y = some .local ∨ sc.names.lookup y = some .cell) (D : EDen cx sc nm d e Tit) (DB : SDen cx sc nm d body B)
    (hr : sc.names.lookup ("enumerate" : Str) = some .globalImplicit) (hs : ∀ env x, foldedSetIterable (.Call (.Name "enumerate" np) [e] [] q) env x = pure x := by intros; rfl)
    (hs1 : ∀ env rest, starEach (e :: rest) env = (false, eval e env) :: starEach rest env := by intros; rfl) :
    S1Den cx sc nm d (.For (.Tuple [.Name x px, .Name y py] kt pt) (.Call (.Name "enumerate" np) [e] [] q) body [] p) (tForE Tit i j B) := by
  intro A f s own H ρ Q a ok hn g F t
  refine wpAny_For (PyProof.Rows.Call_ (bname (x := "enumerate") (v := .type "enumerate") ok g (by simp [bList]) hr ?_ rfl)) (hs _)
  refine CW.type A q _ [] _ s ((LDen.cons D hs1 .nil).plain q f.env) (evalArgs_of (.cons D hs1 .nil) a ok hn g F (Q := fun vs H1 => match vs with | [.ref l] => qForE i j B ρ Q l H1 | _ => False) ?_ fun vs rs s1 own1 H1 e1 g1 x1 t1 => ⟨g1.inK, ?_⟩)
  · refine cast ?_ t
    show Tit ρ H _ = Tit ρ H _
    congr 1
    funext v H1
    cases v <;> rfl
  · match vs, rs, e1 with
    | [.ref l], _, .cons (.ref _) .nil =>
      obtain ⟨xs, hl, J, j0, hJ, hJn⟩ := t1
      obtain ⟨rs, vr, i1⟩ := g1.anyList hl
      have F1 := F.ext ok x1
      refine call_enumerate_list i1 fun h₁ he hit hz kp => ?_
      refine wpAny_pyIter_enum he ?_
      have xk : Ext own1 H1 s1.heap own1 H1 h₁ := .grow kp
      have hlt : l < s1.heap.objs.size := by obtain ⟨_, o, _⟩ := i1; exact Heap.lt_size o
      have memW : ∀ {a}, a ∈ [s1.heap.objs.size + 1, s1.heap.objs.size] → a = s1.heap.objs.size + 1 ∨ a = s1.heap.objs.size := fun h => by simpa using h
      have m1 : s1.heap.objs.size + 1 ∈ [s1.heap.objs.size + 1, s1.heap.objs.size] := List.mem_cons_self
      have m2 : s1.heap.objs.size ∈ [s1.heap.objs.size + 1, s1.heap.objs.size] := List.mem_cons_of_mem _ (List.mem_singleton_self _)
      have hne : s1.heap.objs.size + 1 ≠ s1.heap.objs.size := Nat.succ_ne_self _
      have hW : ∀ a ∈ [s1.heap.objs.size + 1, s1.heap.objs.size], Hid cx f own1 H1 h₁ a := fun a ha => by
        rcases memW ha with rfl | rfl
        · exact Hid.fresh ok g1 F1 (Nat.le_succ _) ⟨_, he⟩
        · obtain ⟨o, e, _⟩ := hit
          exact Hid.fresh ok g1 F1 (Nat.le_refl _) ⟨_, e⟩
      refine for_tail (W := [s1.heap.objs.size + 1, s1.heap.objs.size]) x1.toW xk.toW (fun a ha => by
        rcases memW ha with rfl | rfl
        · exact Heap.get?_none_of_le (Nat.le_succ _)
        · exact Heap.get?_none_of_le (Nat.le_refl _)) ?_
      refine for_core (n := xs.length) (C := isLst l xs) (U := fun k ρ => (ρ.set i (some (.int k))).set j xs[k]?) (St := fun k h => (∃ old, IsEnum h (s1.heap.objs.size + 1) s1.heap.objs.size ((k : Nat) : Int) old) ∧ h.IsListIter s1.heap.objs.size l k) a ok hn DB (fun k h h' hk st => ?_) (fun k s2 own2 H2 ρ2 hkn g2 F2 hW2 st2 c2 => ?_) (fun s2 own2 H2 ρ2 g2 F2 hW2 st2 c2 => ?_) J hJ hJn (s := { s1 with heap := h₁ }) (g1.grow kp) (F1.ext ok xk) hW ⟨⟨_, he⟩, hit⟩ j0
      · obtain ⟨⟨old, e1⟩, e2⟩ := st
        exact ⟨⟨old, hk _ m1 _ e1⟩, e2.at fun o e => hk _ m2 o e⟩
      · obtain ⟨⟨old, e1⟩, e2⟩ := st2
        obtain ⟨rs2, vr2, i2⟩ := g2.anyList c2
        obtain ⟨r, hr, hv⟩ := vr2.get (i := k) (v := xs[k]) (by simp [hkn])
        refine wpAny_pyNext_enum_item e1 e2 i2 (x := r) (by simpa using hr) hne fun h' ho hit' hT hz' hk' => ⟨_, rfl, ?_⟩
        refine wpAny_letOwnedTupleGo_enum ho fun h2 he2 hs2 => ?_
        replace hs2 : Heap.SameBut (s1.heap.objs.size + 1) h' h2 := hs2
        have hl1 : s1.heap.objs.size + 1 < s2.heap.objs.size := Heap.lt_size e1
        have hT2 : h2.get? s2.heap.objs.size = some { cls := .type "tuple", data := .seq #[.int k s2.toks, r] } := (hs2.2 _ (Nat.ne_of_gt hl1)).trans hT
        obtain ⟨g3, F3, x3, hW3⟩ := hidden_turn (h' := h2) (tk := s2.toks + 1) (W := [s1.heap.objs.size + 1, s1.heap.objs.size]) ok g2 F2 hW2 (fun b o hb e => by
          have b1 : b ≠ s1.heap.objs.size + 1 := fun q => hb (q ▸ m1)
          have b2 : b ≠ s1.heap.objs.size := fun q => hb (q ▸ m2)
          exact (hs2.2 b b1).trans (hk' b o b1 b2 e))
        have hit2 : h2.IsListIter s1.heap.objs.size l (k + 1) := hit'.at fun o e => (hs2.2 _ hne.symm).trans e
        replace hW3 := hW3 fun a ha => by
          rcases memW ha with rfl | rfl
          · exact ⟨_, he2⟩
          · obtain ⟨o, e, _⟩ := hit2; exact ⟨o, e⟩
        refine unpack_of (s := { s2 with heap := h2, toks := s2.toks + 1 }) (is := [i, j]) (vs := [.int k, xs[k]]) (rs := [.int k s2.toks, r]) (.cons hx hk (.cons hy hky .nil)) a ok hn g3 F3 ⟨_, hT2, rfl, _, rfl⟩ (.cons (.int _ _) (.cons hv .nil)) rfl fun s4 g4 x4 F4 => ?_
        have : xs[k]? = some xs[k] := by simp [hkn]
        refine ⟨g4, by rw [this]; exact F4, x3.trans x4.toX, fun a ha => ((hW3 a ha).ext ok x4).1, ⟨r, ?_⟩, ?_⟩
        · have h5 := ((hW3 _ m1).ext ok x4).2 _ he2
          have e3 : ((k : Nat) : Int) + 1 = ((k + 1 : Nat) : Int) := by push_cast; rfl
          rw [e3] at h5; exact h5
        · exact hit2.at fun o e => ((hW3 _ m2).ext ok x4).2 o e
      · obtain ⟨⟨old, e1⟩, e2⟩ := st2
        obtain ⟨rs2, vr2, i2⟩ := g2.anyList c2
        refine wpAny_pyNext_enum_end a.han e1 e2 i2 (by simp [vr2.length]) fun h' he => ?_
        obtain ⟨g3, F3, x3, _⟩ := hidden_turn (h' := h') (tk := s2.toks) (W := [s1.heap.objs.size + 1, s1.heap.objs.size]) ok g2 F2 hW2 (fun b o hb e => he b o (fun q => hb (by rw [q]; exact m2)) e)
        exact ⟨rfl, g3, F3, x3⟩
    | [], _, _ => exact t1.elim
    | [.none], _, _ => exact t1.elim
    | [.bool _], _, _ => exact t1.elim
    | [.str _], _, _ => exact t1.elim
    | [.int _], _, _ => exact t1.elim
    | .none :: _ :: _, _, _ => exact t1.elim
    | .bool _ :: _ :: _, _, _ => exact t1.elim
    | .str _ :: _ :: _, _, _ => exact t1.elim
    | .ref _ :: _ :: _, _, _ => exact t1.elim
    | .int _ :: _ :: _, _, _ => exact t1.elim
end
end Mine
namespace Mine

def bget (es : List (BKey × V)) (k : BKey) : Option V := match es with
  | [] => none
  | (x, v) :: r => if x = k then some v else bget r k
def bput (es : List (BKey × V)) (k : BKey) (v : V) : List (BKey × V) := match es with
  | [] => [(k, v)]
  | (x, u) :: r => if x = k then (x, v) :: r else (x, u) :: bput r k v

theorem bkey_eq {a b : BKey} : decide (bkey a = bkey b) = decide (a = b) := by
  by_cases h : a = b
  · subst h; simp
  · have : ¬ bkey a = bkey b := fun e => h (bkey_inj e)
    simp [h, this]
theorem BRs.get {own : Own} {a : Addr} {k : BKey} : ∀ {es rs}, BRs own a es rs → (∀ v, bget es k = some v → ∃ p, atKey rs (bkey k) = some p ∧ VR v p.2) ∧ (bget es k = none → atKey rs (bkey k) = none)
  | _, _, .nil => ⟨fun v h => by simp [bget] at h, fun _ => rfl⟩
  | _, _, .cons (k := x) (ka := ka) (rv := rv) (rs := rs) h1 h2 h3 => by
    have ih := BRs.get (k := k) h3
    by_cases hx : x = k
    · subst hx
      refine ⟨fun v h => ?_, fun h => ?_⟩
      · simp only [bget, if_true, Option.some.injEq] at h
        subst h
        exact ⟨(ka, rv), by simp [atKey], h1⟩
      · simp [bget] at h
    · have hb : ¬ bkey x = bkey k := fun e => hx (bkey_inj e)
      have e : atKey ((bkey x, ka, rv) :: rs) (bkey k) = atKey rs (bkey k) := by simp [atKey, List.find?_cons, hb]
      simp only [bget, if_neg hx, e]
      exact ih
theorem BRs.same {own : Own} {a : Addr} {k : BKey} {r : Value} : ∀ {es rs}, BRs own a es rs → bget es k = none → rs.map (putAt (bkey k) r) = rs
  | _, _, .nil, _ => rfl
  | _, _, .cons (k := x) (ka := ka) (rv := rv) (rs := rs) h1 h2 h3, h => by
    unfold bget at h
    by_cases hx : x = k
    · rw [if_pos hx] at h; cases h
    · rw [if_neg hx] at h
      have hb : ¬ bkey x = bkey k := fun e => hx (bkey_inj e)
      simp only [List.map_cons]
      rw [BRs.same h3 h]
      simp [putAt, hb]
theorem BRs.nodupGet {own : Own} {a : Addr} {k : BKey} : ∀ {es rs}, BRs own a es rs → bkey k ∉ rs.map (·.1) → bget es k = none
  | _, _, .nil, _ => rfl
  | _, _, .cons (k := x) h1 h2 h3, h => by
    simp only [List.map_cons, List.mem_cons, not_or] at h
    unfold bget
    rw [if_neg (fun e => h.1 (by rw [e]))]
    exact BRs.nodupGet h3 h.2
theorem BRs.putOld {own : Own} {a : Addr} {k : BKey} {v : V} {r : Value} (hv : VR v r) : ∀ {es rs}, BRs own a es rs → (rs.map (·.1)).Nodup → (bget es k).isSome = true → BRs own a (bput es k v) (rs.map (putAt (bkey k) r))
  | _, _, .nil, _, h => by simp [bget] at h
  | _, _, .cons (k := x) (ka := ka) (rv := rv) (rs := rs) h1 h2 h3, hn, h => by
    simp only [List.map_cons, List.nodup_cons] at hn
    unfold bget at h
    unfold bput
    by_cases hx : x = k
    · subst hx
      rw [if_pos rfl]
      simp only [List.map_cons]
      rw [BRs.same h3 (BRs.nodupGet h3 hn.1)]
      have : putAt (bkey x) r (bkey x, ka, rv) = (bkey x, ka, r) := by simp [putAt]
      rw [this]
      exact .cons hv h2 h3
    · rw [if_neg hx] at h ⊢
      have hb : ¬ bkey x = bkey k := fun e => hx (bkey_inj e)
      simp only [List.map_cons]
      have : putAt (bkey k) r (bkey x, ka, rv) = (bkey x, ka, rv) := by simp [putAt, hb]
      rw [this]
      exact .cons h1 h2 (BRs.putOld hv h3 hn.2 h)
theorem BRs.putNew {own : Own} {a : Addr} {k : BKey} {ka : Addr} {v : V} {r : Value} (hv : VR v r) (hk : own ka = some a) : ∀ {es rs}, BRs own a es rs → bget es k = none → BRs own a (bput es k v) (rs ++ [(bkey k, ka, r)])
  | _, _, .nil, _ => .cons hv hk .nil
  | _, _, .cons (k := x) h1 h2 h3, h => by
    unfold bget at h
    unfold bput
    by_cases hx : x = k
    · rw [if_pos hx] at h; cases h
    · rw [if_neg hx] at h ⊢
      exact .cons h1 h2 (BRs.putNew hv hk h3 h)
theorem BRs.length {own : Own} {a : Addr} : ∀ {es rs}, BRs own a es rs → rs.length = es.length
  | _, _, .nil => rfl
  | _, _, .cons _ _ h => by simp [h.length]

section
variable {cx : Cx} {sc : Scope} {nm : List Str} {d : Nat}

def isB (v : V) (H : AH) : Prop := match v with | .ref a => ∃ es, H a = some (.bots es) | _ => False
def isKey (ka : Addr) (k : BKey) (H : AH) : Prop := H ka = some (.tup [.str k.1, .int k.2.1, .bool k.2.2])
theorem key_of {own H} {s : Shared} (g : GRel cx own H s) {ka : Addr} {k : BKey} (h : isKey ka k H) : IsTupleKey (mixKind cx.prog cx.w) s.heap (bkey k) ka := by
  obtain ⟨rs, n, v, i⟩ := g.tup h
  obtain ⟨x, j, b⟩ := k
  cases v with | cons v1 v =>
  cases v with | cons v2 v =>
  cases v with | cons v3 v =>
  cases v
  cases v1; cases v2; cases v3
  refine ⟨_, _, n, i, rfl, rfl, ?_⟩
  refine .cons ?_ (.cons ?_ (.cons ?_ .nil))
  · simp [mixKind, mixIs]
  · simp [mixKind, mixIs]
  · show mixIs (Sum.inr (if b = true then 1 else 0)) (.bool b) = true
    simp [mixIs]

def tBotsGet (T Tk Td : TE) : TE := fun ρ H Q => T ρ H fun v H1 => isB v H1 ∧ Tk ρ H1 fun k H2 => Td ρ H2 fun dv H3 => match v, k with
  | .ref a, .ref ka => ∃ es bk, H3 a = some (.bots es) ∧ isKey ka bk H3 ∧ Q ((bget es bk).getD dv) H3
  | _, _ => False
theorem den_botsget {o e1 e2 : Expr} {ap p : Pos} {T Tk Td : TE} (D : EDen cx sc nm d o T) (D1 : EDen cx sc nm d e1 Tk) (D2 : EDen cx sc nm d e2 Td)
    (hbase : ∀ env, attributeBase o "get" env (eval o env) = eval o env := by intro _; with_unfolding_all rfl) (hs : ∀ env, starEach [e1, e2] env = [(false, eval e1 env), (false, eval e2 env)] := by intro _; rfl)
    (hline : (ap.endLine == p.line) = true := by decide) :
    EDen cx sc nm d (.Call (.Attribute o "get" ap) [e1, e2] [] p) (tBotsGet T Tk Td) := by
  intro A f s own H ρ Q a ok hn g F t
  refine Call_method2 (hbase _) (hs _) hline (wp_then (D A f s own H ρ _ a ok hn g F t) fun v rv s1 own1 H1 u1 g1 x1 t1 => ?_)
  obtain ⟨t0, t1⟩ := t1
  cases u1 with
  | ref b =>
    obtain ⟨es, he⟩ := t0
    have hsys := g1.notSys he (by intro _; nofun)
    obtain ⟨rs, br, i⟩ := g1.obj _ _ he
    have hob : ∃ ob, s1.heap.get? b = some ob ∧ ob.dict = none := by obtain ⟨o, _, _, ho, hx, _⟩ := i; exact ⟨o, ho, hx.2.1⟩
    have F1 := F.ext ok x1
    refine ⟨"dict", _, PySem.F.plainAttrs_dict, PySem.F.slot_dict_get, PySem.F.type_dict_get, i.typeIs, (fun c hc => by cases hc; exact hob),
      wpAny_dict_get2_heap (knd := tupleKind (mixKind cx.prog cx.w)) (tupleKind_room_in1 (by have := a.un; omega)) hsys ?_⟩
    refine wp_then (D1 A f s1 own1 H1 ρ _ a ok hn g1 F1 t1) fun kv r2 s2 own2 H2 u2 g2 x2 t2 => ?_
    refine wp_then (D2 A f s2 own2 H2 ρ _ a ok hn g2 (F1.ext ok x2) t2) fun dv r3 s3 own3 H3 u3 g3 x3 t3 => ?_
    cases u2 with
    | ref ka =>
      obtain ⟨es', bk, he', hk, q⟩ := t3
      obtain ⟨rs', br', i'⟩ := g3.obj _ _ he'
      refine ⟨ka, bkey bk, rs', rfl, key_of g3 hk, i', ?_⟩
      have hv : ∃ r, ((atKey rs' (bkey bk)).map (·.2)).getD r3 = r ∧ VR ((bget es' bk).getD dv) r := by
        cases hp : bget es' bk with
        | none => rw [(br'.get (k := bk)).2 hp]; exact ⟨r3, rfl, u3⟩
        | some v => obtain ⟨r, hr, hv⟩ := (br'.get (k := bk)).1 v hp; rw [hr]; exact ⟨_, rfl, hv⟩
      obtain ⟨r, e, hv⟩ := hv
      rw [e]
      exact ⟨_, own3, H3, hv, g3.toks _, (x1.trans x2).trans x3, q⟩
    | _ => exact t3.elim
  | _ => exact t0.elim

/-- dict[tuple] = v -/
def pStoreB (ov iv v : V) (H : AH) (Q : AH → Prop) : Prop := match ov, iv with
  | .ref a, .ref ka => ∃ es bk, H a = some (.bots es) ∧ isKey ka bk H ∧ es.length ≤ 2 ^ 20 ∧ Q ((H.del ka).set a (.bots (bput es bk v)))
  | _, _ => False
theorem store_bots {A : Around} {s : Shared} {own : Own} {H : AH} {ov iv v : V} {r1 r2 r : Value} {Q : AH → Prop} (a : AOk d A) (g : GRel cx own H s) (e1 : VR ov r1) (e2 : VR iv r2) (e : VR v r) (t : pStoreB ov iv v H Q) :
    wpAny (model cx.prog cx.w) A (setItem r1 r2 r) (fun _ s' => ∃ own' H', GRel cx own' H' s' ∧ Ext own H s.heap own' H' s'.heap ∧ Q H') NoE s := by
  cases e1 with
  | ref b =>
    cases e2 with
    | ref ka =>
      obtain ⟨es, bk, he, hk, hz, q⟩ := t
      obtain ⟨rs, br, i⟩ := g.obj _ _ he
      have hnd : (rs.map (·.1)).Nodup := by obtain ⟨_, _, _, _, _, _, _, _, h⟩ := i; exact h
      refine wpAny_setItem_heap (knd := tupleKind (mixKind cx.prog cx.w)) (tupleKind_room_in1 (by have := a.un; omega)) (key_of g hk) i (fun h' hd hs => ?_) (by rw [br.length, sizeLine_eq]; omega)
      have hkb : ka ≠ b := by rintro rfl; rw [isKey, he] at hk; cases hk
      have hkL := g.lt hk
      have hko : own ka = none := by
        cases q : own ka with
        | none => rfl
        | some c => obtain ⟨z, _⟩ := g.aux _ _ q; rw [isKey, z] at hk; cases hk
      let own1 : Own := fun c => if c = ka then some b else own c
      have ho1 : ∀ c e, own c = some e → own1 c = some e := fun c e h => by
        have : c ≠ ka := by rintro rfl; rw [hko] at h; cases h
        show (if c = ka then _ else _) = _
        rw [if_neg this]; exact h
      have na : ∀ c ob, c ≠ b → s.heap.get? c = some ob → h'.get? c = some ob := fun c ob hc ec => (hs.2 c hc).trans ec
      have hb0 := g.new _ _ he (by intro _; nofun)
      have hka0 := g.new _ _ hk (by intro _; nofun)
      have br1 : BRs own1 b (bput es bk v) (storedH rs (bkey bk) ka r) := by
        have br' : BRs own1 b es rs := br.mono fun c h => ho1 _ _ h
        cases hp : bget es bk with
        | none =>
          rw [storedH_new ((br.get (k := bk)).2 hp)]
          exact br'.putNew e (by show (if ka = ka then _ else _) = _; rw [if_pos rfl]) hp
        | some v' =>
          obtain ⟨p, hp', _⟩ := (br.get (k := bk)).1 v' hp
          rw [storedH_old hp']
          exact br'.putOld e hnd (by rw [hp]; rfl)
      have hH : ∀ c o, ((H.del ka).set b (.bots (bput es bk v))) c = some o → (c = b ∧ o = .bots (bput es bk v)) ∨ (c ≠ b ∧ c ≠ ka ∧ H c = some o) := fun c o h => by
        by_cases hc : c = b
        · subst hc; rw [AH.set_self] at h; cases h; exact .inl ⟨rfl, rfl⟩
        · rw [AH.set_ne _ _ hc] at h
          by_cases hck : c = ka
          · subst hck; rw [AH.del_self] at h; cases h
          · rw [AH.del_ne _ hck] at h; exact .inr ⟨hc, hck, h⟩
      have hHn : ∀ c, c ≠ b → (c = ka ∨ H c = none) → ((H.del ka).set b (.bots (bput es bk v))) c = none := fun c hc h => by
        rw [AH.set_ne _ _ hc]
        by_cases hck : c = ka
        · subst hck; exact AH.del_self ..
        · rw [AH.del_ne _ hck]; exact h.resolve_left hck
      have notOwn : ∀ c e o, own c = some e → H c = some o → False := fun c e o h1 h2 => by
        obtain ⟨z, _⟩ := g.aux _ _ h1; rw [z] at h2; cases h2
      refine ⟨own1, _, ⟨fun c o h => ?_, fun c o h => na c o (by rintro rfl; rw [hb0.1] at h; cases h) (g.base c o h), fun c o h hr => ?_, fun D c hD => ?_, g.os, g.gens⟩, ⟨fun c o h1 h2 h3 => ?_, fun c c' l k ob h1 h3 => ?_⟩, q⟩
      rotate_right
      · have hcb : c ≠ b := by rintro rfl; rw [he] at h1; cases h1
        have hck : c ≠ ka := by rintro rfl; rw [isKey] at hk; rw [hk] at h1; cases h1
        exact ⟨by rw [AH.set_ne _ _ hcb, AH.del_ne _ hck]; exact h1, ob, na _ _ hcb h3⟩
      · rcases hH c o h with ⟨rfl, rfl⟩ | ⟨hc, hck, h⟩
        · exact ⟨_, br1, hd⟩
        · refine (g.obj c o h).stable (fun y ob hy ey => na y ob ?_ ey) (fun y e => ho1 _ _ e)
          rcases hy with rfl | hy
          · exact hc
          · rintro rfl; exact notOwn _ _ _ hy he
      · rcases hH c o h with ⟨rfl, rfl⟩ | ⟨hc, hck, h⟩
        · exact hb0
        · exact g.new c o h hr
      · by_cases hDk : D = ka
        · subst hDk
          obtain ⟨rs', n, v', i'⟩ := g.tup hk
          exact ⟨hHn _ hkb (.inl rfl), hka0.1, _, na _ _ hkb i'⟩
        · have hD' : own D = some c := by
            have : own1 D = own D := by show (if D = ka then _ else _) = _; rw [if_neg hDk]
            rw [← this]; exact hD
          obtain ⟨x, y, ob, z⟩ := g.aux D c hD'
          have hDb : D ≠ b := by rintro rfl; exact notOwn _ _ _ hD' he
          exact ⟨hHn _ hDb (.inr x), y, ob, na _ _ hDb z⟩
      · have hcb : c ≠ b := by rintro rfl; rw [he] at h1; cases h1
        have hck : c ≠ ka := by rintro rfl; rw [isKey] at hk; rw [hk] at h1; cases h1
        refine ⟨hHn _ hcb (.inr h1), ?_, na _ _ hcb h3⟩
        show (if c = ka then _ else _) = _
        rw [if_neg hck]; exact h2
    | _ => exact t.elim
  | _ => exact t.elim
def tSetBots (Tv To Ti : TE) : TS := fun ρ H Q => Tv ρ H fun v H1 => To ρ H1 fun ov H2 => Ti ρ H2 fun iv H3 => pStoreB ov iv v H3 fun H4 => Q .next ρ H4
theorem sden_setbots {o i e : Expr} {p p' : Pos} {Tv To Ti : TE} (Dv : EDen cx sc nm d e Tv) (Do : EDen cx sc nm d o To) (Di : EDen cx sc nm d i Ti)
    (hs : ∀ env, swapsWith e (some (.Subscript o i p')) p.line env = pure false := by intro _; rfl) : S1Den cx sc nm d (.Assign [.Subscript o i p'] e p) (tSetBots Tv To Ti) := by
  intro A f s own H ρ Q a ok hn g F t
  refine wpAny_Assign_Subscript ?_ (hs _)
  refine wp_then (Dv A f s own H ρ _ a ok hn g F t) fun v r s1 own1 H1 e1 g1 x1 t1 => ?_
  have F1 := F.ext ok x1
  refine wp_then (Do A f s1 own1 H1 ρ _ a ok hn g1 F1 t1) fun v2 r2 s2 own2 H2 e2 g2 x2 t2 => ?_
  have F2 := F1.ext ok x2
  refine wp_then (Di A f s2 own2 H2 ρ _ a ok hn g2 F2 t2) fun v3 r3 s3 own3 H3 e3 g3 x3 t3 => ?_
  refine wpAny_mono (store_bots a g3 e2 e3 e1 t3) (fun _ s4 ⟨own4, H4, g4, x4, q⟩ => ?_) fun _ _ e => e
  exact ⟨.next, ρ, own4, H4, .next, g4, (((x1.trans x2).trans x3).trans x4).toW, (F2.ext ok x3).ext ok x4, q⟩
end
end Mine
namespace Mine

section
variable {prog : Program} {w : World} {A : Around} {E : Value → Shared → Prop} {s : Shared}
theorem setItem_slice {l sl b : Addr} {items news : Array Value} {n : Nat} {vl vu : Value} {lo hi : Option Int} {Q : Unit → Shared → Prop} (hl : IsL s.heap l items n)
    (hs : s.heap.IsSliceOf sl vl vu .none) (pl : IsPart vl lo) (pu : IsPart vu hi) (hb : s.heap.IsList b news) (hne : l ≠ b) (hz : items.size + news.size ≤ 2 ^ 24)
    (hQ : Q () { s with heap := s.heap.update l (Obj.mapSeq fun xs => xs.extract 0 (lo.elim 0 (clipAt items.size)) ++ news ++ xs.extract (max (lo.elim 0 (clipAt items.size)) (hi.elim items.size (clipAt items.size))) xs.size) }) :
    wpAny (model prog w) A (setItem (.ref l) (.ref sl) (.ref b)) Q E s := by
  have ho := hl
  have hd : (Obj.data { cls := .type "list", dict := none, data := .seq items n, slots := #[] }) = .seq items n := rfl
  obtain ⟨os, hos, hcs, hds⟩ := id hs
  have hTs : s.TypeIs (.ref sl) "slice" := ⟨os, hos, hcs⟩
  unfold setItem
  try with_reducible refine wpAny_holding ?_
  first | refine wpAny_bind (wpAny_pure ?_) | skip
  refine wpAny_bind (wpAny_sequenceKey (IsL.isList hl).typeIs (by decide) ?_)
  refine wpAny_bind (wpAny_callSpecial?_slot (name := Str.ofString "__setitem__") (IsL.isList hl).typeIs slot_list_setitem
    (wpAny_call_entry slot_list_setitem (IsL.isList hl).typeIs entry_list_setitem ?_ (args_list_setitem _ _ _)))
  show wpAny _ _ (Builtin.List.listSubscript? (.ref sl) >>= _) _ _ s
  refine wpAny_bind ?_
  unfold Builtin.List.listSubscript?
  refine wpAny_bind (wpAny_specialOf hTs slice_no_index ?_)
  simp only [Option.isNone_none, if_true]
  refine wpAny_pure ?_
  show wpAny _ _ (typeOf (.ref sl) >>= _) _ _ s
  refine wpAny_bind (wpAny_typeOf hTs ?_)
  rw [if_neg (by decide)]
  rw [listSliceParts_eq]
  have hstep : ¬ ((rawPart none == rawInt 0) = true) := Bool.false_ne_true
  refine wpAny_bind (wpAny_bind (wpAny_field hos hds (x := .none) rfl (wpAny_bind (wpAny_listPart .none ?_))))
  rw [if_neg hstep]
  refine wpAny_bind (wpAny_field hos hds (x := vl) rfl (wpAny_bind (wpAny_listPart pl ?_)))
  refine wpAny_bind (wpAny_field hos hds (x := vu) rfl (wpAny_bind (wpAny_listPart pu (wpAny_pure ?_))))
  have hsr : Builtin.List.listSameRef (.ref l) (.ref b) = false := by simp [Builtin.List.listSameRef, hne]
  dsimp only
  rw [hsr]
  simp only [Bool.false_eq_true, if_false]
  obtain ⟨ob, hob, hbc, nb, hbd⟩ := id hb
  refine wpAny_bind (m := Builtin.List.listAllItems (.ref b) _) ?_
  unfold Builtin.List.listAllItems
  refine wpAny_bind (wpAny_typeOf hb.typeIs ?_)
  rw [if_pos (by decide)]
  unfold Builtin.List.listItems
  refine wpAny_bind (wpAny_seqItems hob hbd (wpAny_pure ?_))
  refine wpAny_bind (m := Builtin.List.listItems (.ref l)) ?_
  unfold Builtin.List.listItems
  refine wpAny_bind (wpAny_seqItems ho hd (wpAny_pure ?_))
  refine wpAny_bind (wpAny_of_eq (sliceIndices_raw lo hi none items.size (by simp)) ?_)
  rw [sliceBounds_plain]
  dsimp only
  rw [if_pos (by decide)]
  refine wpAny_bind (wpAny_rule ?_)
  have htl : Builtin.List.listTooLong (items.size + news.size) = false := by simp [Builtin.List.listTooLong, sizeLine]; omega
  rw [htl]
  simp only [Bool.false_eq_true, if_false, Int.toNat_natCast]
  have hmax : (max ((lo.elim 0 (clipAt items.size) : Nat) : Int) ((hi.elim items.size (clipAt items.size) : Nat) : Int)).toNat = max (lo.elim 0 (clipAt items.size)) (hi.elim items.size (clipAt items.size)) := by omega
  rw [hmax]
  show wpAny _ _ (updateSeq l _ >>= _) _ _ s
  refine wpAny_bind (wpAny_updateSeq ho hd ?_ (by rw [sizeLine_eq]; omega))
  refine wpAny_bind (wpAny_letGo ?_)
  first
    | exact wpAny_bind (wpAny_pure (wpAny_pure ⟨.none, rfl, wpAny_pure hQ⟩))
    | exact wpAny_pure ⟨.none, rfl, wpAny_pure hQ⟩
end

def putSlice {α : Type} (xs ys : List α) (lo hi : Option Int) : List α :=
  xs.take (lo.elim 0 (clipAt xs.length)) ++ ys ++ xs.drop (max (lo.elim 0 (clipAt xs.length)) (hi.elim xs.length (clipAt xs.length)))

section
variable {cx : Cx} {sc : Scope} {nm : List Str} {d : Nat}

def tSetSlice (Tv To : TE) (Tl Th : Option TE) : TS := fun ρ H Q => Tv ρ H fun v H1 => To ρ H1 fun ov H2 => tPart Tl ρ H2 fun lo H3 => tPart Th ρ H3 fun hi H4 => match ov, v with
  | .ref a, .ref b => a ≠ b ∧ ∃ xs ys, H4 a = some (.list xs) ∧ H4 b = some (.list ys) ∧ xs.length + ys.length ≤ 2 ^ 24 ∧ Q .next ρ (H4.set a (.list (putSlice xs ys lo hi)))
  | _, _ => False
theorem sden_setslice {o e : Expr} {lo hi : Option Expr} {p p' sp : Pos} {Tv To : TE} {Tl Th : Option TE} (Dv : EDen cx sc nm d e Tv) (Do : EDen cx sc nm d o To) (Dl : ODen cx sc nm d lo Tl) (Dh : ODen cx sc nm d hi Th)
    (hs : ∀ env, swapsWith e (some (.Subscript o (.Slice lo hi none sp) p')) p.line env = pure false := by intro _; rfl) : S1Den cx sc nm d (.Assign [.Subscript o (.Slice lo hi none sp) p'] e p) (tSetSlice Tv To Tl Th) := by
  intro A f s own H ρ Q a ok hn g F t
  refine wpAny_Assign_Subscript ?_ (hs _)
  refine wp_then (Dv A f s own H ρ _ a ok hn g F t) fun v r s1 own1 H1 e1 g1 x1 t1 => ?_
  have F1 := F.ext ok x1
  refine wp_then (Do A f s1 own1 H1 ρ _ a ok hn g1 F1 t1) fun v2 r2 s2 own2 H2 e2 g2 x2 t2 => wpAny_Slice ?_
  have F2 := F1.ext ok x2
  refine part_of Dl a ok hn g2 F2 t2 fun l s3 own3 H3 g3 x3 t3 => ?_
  have F3 := F2.ext ok x3
  refine part_of Dh a ok hn g3 F3 t3 fun u s4 own4 H4 g4 x4 t4 => wpAny_pure ?_
  have F4 := F3.ext ok x4
  have x := ((x1.trans x2).trans x3).trans x4
  have kp : ∀ a o, s4.heap.get? a = some o → (s4.heap.push { cls := .type "slice", data := .fields #[partValue l, partValue u, .none] }).get? a = some o := fun a o e => Heap.get?_push_of_some _ e
  have g5 : GRel cx own4 H4 { s4 with heap := s4.heap.push { cls := .type "slice", data := .fields #[partValue l, partValue u, .none] } } := g4.grow kp
  have x5 : Ext own4 H4 s4.heap own4 H4 (s4.heap.push { cls := .type "slice", data := .fields #[partValue l, partValue u, .none] }) := .grow kp
  cases e2 with
  | ref b =>
    cases e1 with
    | ref c =>
      obtain ⟨hbc, xs, ys, hx, hy, hz, q⟩ := t4
      obtain ⟨rs, n, v1, i1⟩ := g5.list hx
      obtain ⟨ts, m, v2, i2⟩ := g5.list hy
      have h1 := size_of v1
      have h2 := size_of v2
      have hl1 := v1.length
      refine setItem_slice i1 (Heap.IsSliceOf.new ..) (isPart_of l) (isPart_of u) i2.isList hbc (by omega) ?_
      have i3 := IsL.update i1 (fun xs => xs.extract 0 ((l.map (·.1)).elim 0 (clipAt rs.toArray.size)) ++ ts.toArray ++ xs.extract (max ((l.map (·.1)).elim 0 (clipAt rs.toArray.size)) ((u.map (·.1)).elim rs.toArray.size (clipAt rs.toArray.size))) xs.size)
      have heq : (rs.toArray.extract 0 ((l.map (·.1)).elim 0 (clipAt rs.toArray.size)) ++ ts.toArray ++ rs.toArray.extract (max ((l.map (·.1)).elim 0 (clipAt rs.toArray.size)) ((u.map (·.1)).elim rs.toArray.size (clipAt rs.toArray.size))) rs.toArray.size) = (putSlice rs ts (l.map (·.1)) (u.map (·.1))).toArray := by
        unfold putSlice
        apply Array.toList_inj.mp
        simp
        try rw [List.take_of_length_le (by simp)]
      dsimp only at i3
      rw [heq] at i3
      have vr : VRs (putSlice xs ys (l.map (·.1)) (u.map (·.1))) (putSlice rs ts (l.map (·.1)) (u.map (·.1))) := by
        unfold putSlice
        rw [v1.length]
        exact ((v1.take _).append v2).append (v1.drop _)
      have x6 : ∀ fo, Ext own4 H4 s4.heap own4 (H4.set b (.list (putSlice xs ys (l.map (·.1)) (u.map (·.1))))) ((s4.heap.push { cls := .type "slice", data := .fields #[partValue l, partValue u, .none] }).update b fo) :=
        fun fo => x5.trans (Ext.upd hx (Heap.SameBut.update ..))
      exact ⟨.next, ρ, own4, _, .next, g5.upd (o' := .list (putSlice xs ys (l.map (·.1)) (u.map (·.1)))) hx (by intro _; nofun) (Heap.SameBut.update ..) ⟨_, _, vr, i3⟩, (x.trans (x6 _)).toW, F4.ext ok (x6 _), q⟩
    | _ => exact t4.elim
  | _ => exact t4.elim

/-! [..] * n -/
def pMulL : BinP := fun v1 v2 H Q => match v1, v2 with
  | .ref a, .int n => ∃ x, H a = some (.list [x]) ∧ 0 ≤ n ∧ n ≤ 2 ^ 24 ∧ ∀ c, H c = none → Q (.ref c) (H.set c (.list (List.replicate n.toNat x)))
  | .int a, .int b => -(2 ^ 62) < b ∧ b < 2 ^ 62 ∧ Q (.int (a * b)) H
  | _, _ => False
theorem fold_app (x : Value) : ∀ (n : Nat) (acc : Array Value), List.foldl (fun x1 x2 => x1 ++ x2) acc (List.replicate n #[x]) = acc ++ (List.replicate n x).toArray
  | 0, acc => by simp
  | n + 1, acc => by
    rw [List.replicate_succ, List.foldl_cons, fold_app x n]
    apply Array.toList_inj.mp
    simp [List.replicate_succ]
theorem VRs.replicate {v : V} {r : Value} (h : VR v r) : ∀ n, VRs (List.replicate n v) (List.replicate n r)
  | 0 => .nil
  | n + 1 => .cons h (VRs.replicate h n)
theorem op_mulL : BOp cx d (binaryOp .Mult) pMulL := by
  intro A s own H v1 v2 r1 r2 Q a g e1 e2 t
  cases e1 <;> cases e2 <;> first | exact t.elim | exact mul_int ⟨_, own, H, .int _ _, g.toks _, .refl .., t.2.2⟩ (.of_right (intBits_le_64 (by have := t.1; omega) (by have := t.2.1; omega))) | skip
  obtain ⟨x, hx, h0, hn, q⟩ := t
  rename_i l n u
  obtain ⟨rs, k, v, i⟩ := g.list hx
  cases v with | cons hv v =>
  cases v
  rename_i r
  have hsz : ([r].toArray).size * n.toNat ≤ 2 ^ 24 := by
    show 1 * n.toNat ≤ _; omega
  refine wpAny_binaryOp_repeat_ref (T := "list") (U := "int") (by decide) ⟨_, i, rfl⟩ (fun s' => typeIs_int s' n u) noFill_list_mul PySem.F.fills_int_mul PySem.F.slot_int_rmul repeat_list PySem.F.slot_int_index.lookup
    (call_meets PySem.F.slot_int_rmul (typeIs_int s n u) PySem.F.entry_int_rmul (PySem.F.args_int_rmul_2 _ _) (int___rmul___int_list n u l [r].toArray k)
      ⟨i, rfl, ⟨_, i, rfl⟩, call_meets PySem.F.slot_list_mul ⟨_, i, rfl⟩ PySem.F.entry_list_mul (PySem.F.args_list_mul_2 _ _)
        (AutoListH.list___mul___list_int_3 l [r].toArray k n u (by simp [Builtin.List.listFitsIndex]; omega) (by omega) (by simp only [Builtin.List.listTooLong, sizeLine_eq, decide_eq_true_eq]; omega))
        ⟨i, ?_⟩⟩)
  have : (List.foldl (fun x1 x2 => x1 ++ x2) #[] (List.replicate (if ([r].toArray).isEmpty = true then 0 else n.toNat) [r].toArray)) = (List.replicate n.toNat r).toArray := by
    rw [if_neg (by simp)]
    rw [fold_app]; simp
  rw [this]
  exact made_list g (VRs.replicate hv n.toNat) q _ rfl
end
end Mine
namespace Mine

def relabelSc (scope sc : Scope) : Scope := { scope with names := scope.names.map fun (n, k) => if (k == .free && sc.kind == .function && sc.names.lookup n == some .cell) then (n, .cell) else (n, k) }
theorem relabel_eq {cx : Cx} {f : Frm} {sc scope : Scope} (ok : f.Ok cx sc) : relabel scope f.env = relabelSc scope sc := by
  unfold relabel relabelSc
  simp only [kindOf_eq ok, ok.sc]

def closOf (env : Env) : List (Str × NameKind) → List (Str × Addr) → List (Str × Addr)
  | [], acc => acc
  | (n, k) :: r, acc => if k == .free then (match env.cells.lookup n with | some c => closOf env r ((n, c) :: acc) | none => closOf env r acc) else closOf env r acc
theorem clos_loop (env : Env) (g : Str × NameKind → List (Str × Addr) → Sem (ForInStep (List (Str × Addr)))) (hg : ∀ n k acc, g (n, k) acc = if k == .free then (do let c ← cellOf env n; pure (.yield ((n, c) :: acc))) else pure (.yield acc)) :
    ∀ (names : List (Str × NameKind)) (acc : List (Str × Addr)), (∀ n, (n, NameKind.free) ∈ names → ∃ c, env.cells.lookup n = some c) → forIn names acc g = pure (closOf env names acc)
  | [], acc, _ => by rw [List.forIn_nil]; rfl
  | (n, k) :: r, acc, h => by
    rw [List.forIn_cons, hg]
    unfold closOf
    have hr : ∀ n, (n, NameKind.free) ∈ r → ∃ c, env.cells.lookup n = some c := fun n m => h n (List.mem_cons_of_mem _ m)
    by_cases hk : (k == NameKind.free) = true
    · have hk' : k = .free := by simpa using hk
      obtain ⟨c, hc⟩ := h n (by rw [hk']; exact List.mem_cons_self)
      rw [if_pos hk, if_pos hk]
      have : cellOf env n = pure c := by unfold cellOf; rw [hc]
      rw [this, hc]
      simp only [pure_bind]
      exact clos_loop env g hg r _ hr
    · rw [if_neg hk, if_neg hk]
      simp only [pure_bind]
      exact clos_loop env g hg r _ hr
theorem closureFor_eq {scope : Scope} {env : Env} (h : ∀ n, (n, NameKind.free) ∈ scope.names → ∃ c, env.cells.lookup n = some c) : closureFor scope env = pure (closOf env scope.names []) := by
  unfold closureFor
  have := clos_loop env (fun x cs => if x.2 == .free then (do let c ← cellOf env x.1; pure (.yield ((x.1, c) :: cs))) else pure (.yield cs)) (fun _ _ _ => rfl) scope.names [] h
  refine Eq.trans ?_ (congrArg (· >>= pure) this |>.trans ?_)
  · rfl
  · simp
theorem closOf_sound {env : Env} : ∀ {names acc} {n : Str} {c : Addr}, (∀ n c, acc.lookup n = some c → env.cells.lookup n = some c) → (closOf env names acc).lookup n = some c → env.cells.lookup n = some c
  | [], acc, n, c, h, e => h n c e
  | (m, k) :: r, acc, n, c, h, e => by
    unfold closOf at e
    split at e
    · split at e
      · rename_i c' hc'
        refine closOf_sound (fun n c q => ?_) e
        rw [List.lookup_cons] at q
        split at q
        · rename_i hb; cases q; rw [beq_iff_eq.mp hb]; exact hc'
        · exact h n c q
      · exact closOf_sound h e
    · exact closOf_sound h e
theorem closOf_has {env : Env} : ∀ {names acc} {n : Str}, ((∃ c, env.cells.lookup n = some c) ∧ (n, NameKind.free) ∈ names ∨ ∃ c, acc.lookup n = some c) → ∃ c, (closOf env names acc).lookup n = some c
  | [], acc, n, h => by
    rcases h with ⟨_, h⟩ | h
    · simp at h
    · exact h
  | (m, k) :: r, acc, n, h => by
    unfold closOf
    split
    · rename_i hk
      split
      · rename_i c' hc'
        refine closOf_has ?_
        rcases h with ⟨h1, h2⟩ | ⟨c, h⟩
        · rcases List.mem_cons.mp h2 with e | h2
          · cases e; exact .inr ⟨c', by rw [List.lookup_cons]; simp⟩
          · exact .inl ⟨h1, h2⟩
        · refine .inr ?_
          rw [List.lookup_cons]
          split
          · exact ⟨_, rfl⟩
          · exact ⟨c, h⟩
      · rename_i hc'
        refine closOf_has ?_
        rcases h with ⟨⟨c, h1⟩, h2⟩ | h
        · rcases List.mem_cons.mp h2 with e | h2
          · cases e; rw [h1] at hc'; cases hc'
          · exact .inl ⟨⟨c, h1⟩, h2⟩
        · exact .inr h
    · rename_i hk
      refine closOf_has ?_
      rcases h with ⟨h1, h2⟩ | h
      · rcases List.mem_cons.mp h2 with e | h2
        · cases e; simp at hk
        · exact .inl ⟨h1, h2⟩
      · exact .inr h

section
variable {cx : Cx} {sc : Scope} {nm : List Str} {d : Nat}

/-- what a comprehension's scope must be, beside the scope around it -/
structure CompOk (cx : Cx) (sc scope : Scope) (nm : List Str) (x : Str) (fr : List Nat) (fnm : List Str) : Prop where
  kind : scope.kind = .function
  nocell : ∀ y ∈ scope.names, y.2 ≠ .cell
  names : ∀ y ∈ scope.names, y.2 = .local → scope.names.lookup y.1 = some .local
  tgt : scope.names.lookup x = some .local
  frs : ∀ y, (y, NameKind.free) ∈ scope.names → sc.names.lookup y = some .cell ∨ sc.names.lookup y = some .free
  cls : ∀ y, (y, NameKind.free) ∈ scope.names → sc.names.lookup y = some .cell
  fst : fnm = fr.map fun i => (nm[i]?).getD Str.empty
  ffr : ∀ i ∈ fr, ∃ y, nm[i]? = some y ∧ (y, NameKind.free) ∈ scope.names ∧ (relabelSc scope sc).names.lookup y = some .cell
  tgt2 : (relabelSc scope sc).names.lookup x = some .local
  nd : (x :: fnm).Nodup
  cd : cx.codeOf (relabelSc scope sc) = none
  inc : ∀ y, (relabelSc scope sc).names.lookup y = some .cell → (y, NameKind.free) ∈ scope.names

def frees (fr : List Nat) (ρ : Loc) : Loc := fr.map fun i => (ρ[i]?).join

def compFrm (f : Frm) (scope : Scope) (C : Addr) (nm' : List Str) : Frm :=
  ⟨compEnvC scope (closOf f.env scope.names []) C f.env, nm', C :: (closOf f.env scope.names []).map (·.2), C :: (closOf f.env scope.names []).map (·.2)⟩

theorem cell_fo {f : Frm} (ok : f.Ok cx sc) {scope : Scope} {fnm : List Str} {fr : List Nat} {x : Str} {a : Addr} (h : CompOk cx sc scope nm x fr fnm) (ha : a ∈ (closOf f.env scope.names []).map (·.2)) :
    ∀ {own H ρ hp}, FRel cx own H f ρ hp → a ∈ f.fo ∧ a ∈ f.wr := by
  intro own H ρ hp F
  -- every pair of the closure stands among the cells
  have key : ∀ (names : List (Str × NameKind)) (acc : List (Str × Addr)), (∀ p ∈ names, p.2 = .free → f.env.kindOf p.1 = some .cell) → (∀ p ∈ acc, ∃ y, f.env.kindOf y = some .cell ∧ f.env.cells.lookup y = some p.2) →
      ∀ p ∈ closOf f.env names acc, ∃ y, f.env.kindOf y = some .cell ∧ f.env.cells.lookup y = some p.2 := by
    intro names
    induction names with
    | nil => intro acc _ ha; exact ha
    | cons q r ih =>
      intro acc hn ha
      obtain ⟨m, k⟩ := q
      unfold closOf
      have hr := fun p hp => hn p (List.mem_cons_of_mem _ hp)
      split
      · rename_i hk
        split
        · rename_i c hc
          refine ih _ hr fun p hp => ?_
          rcases List.mem_cons.mp hp with rfl | hp
          · exact ⟨m, hn (m, k) List.mem_cons_self (by simpa using hk), hc⟩
          · exact ha p hp
        · exact ih _ hr ha
      · exact ih _ hr ha
  obtain ⟨p, hp, rfl⟩ := List.mem_map.mp ha
  obtain ⟨y, h1, h2⟩ := key scope.names [] (fun p hp hk => by
    obtain ⟨n, k⟩ := p
    dsimp only at hk; subst hk
    rw [kindOf_eq ok]; exact h.cls n hp) (fun p hp => by cases hp) p hp
  exact ⟨(ok.cfo _ _ h2).1, ok.cwr _ _ h1 h2⟩

theorem lookup_fr {f : Frm} (ok : f.Ok cx sc) {scope : Scope} {fnm : List Str} {fr : List Nat} {x y : Str} (h : CompOk cx sc scope nm x fr fnm) (hy : (y, NameKind.free) ∈ scope.names) :
    ∃ c, f.env.cells.lookup y = some c ∧ (closOf f.env scope.names []).lookup y = some c := by
  obtain ⟨c, hc⟩ := ok.cex y (by rw [kindOf_eq ok]; exact h.cls y hy)
  obtain ⟨c', hc'⟩ := closOf_has (acc := []) (.inl ⟨⟨c, hc⟩, hy⟩)
  have := closOf_sound (by intro n c e; cases e) hc'
  rw [hc] at this; cases this
  exact ⟨c, hc, hc'⟩

theorem comp_ok {f : Frm} (ok : f.Ok cx sc) {scope : Scope} {fnm : List Str} {fr : List Nat} {x : Str} {C : Addr} (h : CompOk cx sc scope nm x fr fnm) (hC : ∀ a ∈ f.fo, a ≠ C) : (compFrm f scope C (x :: fnm)).Ok cx (relabelSc scope sc) := by
  refine ⟨relabel_eq ok, ?_, ok.gl, ok.bl, List.mem_cons_self, List.mem_cons_self, fun y c hc => ?_, fun y c hk hc => ?_, fun y hk => ?_, fun y z c hy hz => ?_, fun a ha => ha, h.nd, fun c hc => by rw [h.cd] at hc; cases hc⟩
  · show (relabel scope f.env).kind = _
    exact h.kind
  · refine ⟨List.mem_cons_of_mem _ (List.mem_map.mpr ⟨_, mem_of_lookup hc, rfl⟩), ?_⟩
    have := closOf_sound (by intro n c e; cases e) hc
    exact hC _ (ok.cfo _ _ this).1
  · exact List.mem_cons_of_mem _ (List.mem_map.mpr ⟨_, mem_of_lookup hc, rfl⟩)
  · have hk' : (relabelSc scope sc).names.lookup y = some .cell := by
      have : (compFrm f scope C (x :: fnm)).env.kindOf y = (relabel scope f.env).names.lookup y := rfl
      rw [this, relabel_eq ok] at hk; exact hk
    obtain ⟨c, _, e⟩ := lookup_fr ok h (h.inc y hk')
    exact ⟨c, e⟩
  · have h1 := closOf_sound (by intro n c e; cases e) hy
    have h2 := closOf_sound (by intro n c e; cases e) hz
    exact ok.inj _ _ _ h1 h2

/-- the inner frame -/
theorem comp_rel {f : Frm} (ok : f.Ok cx sc) (hn : f.nm = nm) {scope : Scope} {fnm : List Str} {fr : List Nat} {x : Str} {C : Addr} (h : CompOk cx sc scope nm x fr fnm) {own H ρ} {hp : Heap} (F : FRel cx own H f ρ hp)
    (hC : Hid cx f own H hp C) (hns : ∃ m, hp.Ns C m) {o : Option V} (ho : o = none ∨ ∃ v rv m, o = some v ∧ VR v rv ∧ hp.Ns C m ∧ m x = some rv) :
    FRel cx own H (compFrm f scope C (x :: fnm)) (o :: frees fr ρ) hp := by
  have kindx : ∀ y, (compFrm f scope C (x :: fnm)).env.kindOf y = (relabelSc scope sc).names.lookup y := fun y => by
    have : (compFrm f scope C (x :: fnm)).env.kindOf y = (relabel scope f.env).names.lookup y := rfl
    rw [this, relabel_eq ok]
  refine ⟨fun i y v hy hv => ?_, hns, fun y c hk hc => ?_, fun a ha => ?_, fun a ha => ?_⟩
  · cases i with
    | zero =>
      simp only [compFrm, List.getElem?_cons_zero, Option.some.injEq] at hy hv
      subst hy
      rcases ho with rfl | ⟨v', rv, m, rfl, hvr, hm, hmx⟩
      · cases hv
      · cases hv
        exact ⟨rv, hvr, .inl ⟨by rw [kindx]; exact h.tgt2, m, hm, hmx⟩⟩
    | succ j =>
      simp only [compFrm, List.getElem?_cons_succ] at hy hv
      unfold frees at hv
      rw [List.getElem?_map] at hv
      cases hj : fr[j]? with
      | none => rw [hj] at hv; cases hv
      | some k =>
        rw [hj] at hv
        simp only [Option.map_some, Option.some.injEq] at hv
        have hv' : ρ[k]? = some (some v) := by
          cases q : ρ[k]? with
          | none => rw [q] at hv; cases hv
          | some z => rw [q] at hv; simp only [Option.join_some] at hv; rw [hv]
        obtain ⟨y', hy', hfree, hkc⟩ := h.ffr k (List.mem_of_getElem? hj)
        have hyy : y = y' := by
          have : fnm[j]? = some y' := by rw [h.fst, List.getElem?_map, hj]; simp [hy']
          rw [this] at hy; cases hy; rfl
        subst hyy
        obtain ⟨rv, hvr, l⟩ := F.vars k y v (hn ▸ hy') hv'
        obtain ⟨c, hc1, hc2⟩ := lookup_fr ok h hfree
        refine ⟨rv, hvr, .inr ⟨.inl (by rw [kindx]; exact hkc), c, ?_⟩⟩
        rcases l with ⟨k1, _⟩ | ⟨k1, c', o', hc', e', d'⟩
        · rw [kindOf_eq ok, h.cls y hfree] at k1; cases k1
        · rw [hc1] at hc'; cases hc'
          exact ⟨o', hc2, e', d'⟩
  · have h1 := closOf_sound (by intro n c e; cases e) hc
    rw [kindx] at hk
    exact F.cell y c (by rw [kindOf_eq ok]; exact h.cls y (h.inc y hk)) h1
  · rcases List.mem_cons.mp ha with rfl | ha
    · exact ⟨hC.live, hC.hn, hC.on⟩
    · exact F.mine a (cell_fo ok h ha F).1
  · rcases List.mem_cons.mp ha with rfl | ha
    · exact hC.h0
    · exact F.wr0 a (cell_fo ok h ha F).2
end
end Mine
namespace Mine

theorem ExtW.plain {own H h own' H' h'} (x : ExtW [] own H h own' H' h') : Ext own H h own' H' h' :=
  ⟨fun a o e1 e2 e3 => let ⟨p, q, o', r, k⟩ := x.all a o e1 e2 e3; ⟨p, q, by rw [r, k (by simp)]⟩, x.tab⟩

section
variable {prog : Program} {w : World} {A : Around} {E : Value → Shared → Prop} {s : Shared}
theorem append_exact {l : Addr} {items : Array Value} {n : Nat} {x : Value} {Q : Value → Shared → Prop} (hl : IsL s.heap l items n)
    (hQ : Q .none { s with heap := s.heap.update l (Obj.mapSeq (·.push x)) }) (hsz : items.size ≤ sizeLine) :
    wpAny (model prog w) A (call (.builtin "list.append") [.ref l, x]) Q E s := by
  refine wpAny_call_entry slot_list_append (IsL.isList hl).typeIs entry_list_append ?_ (args_list_append _ _)
  show wpAny _ _ (updateSeq l (·.push x) >>= fun _ => ret .none) _ _ s
  exact wpAny_bind (wpAny_updateSeq hl rfl (wpAny_pure ⟨.none, rfl, hQ⟩) hsz)
end

section
variable {cx : Cx} {sc : Scope} {nm : List Str} {d : Nat}

def tTrueB : TB := fun _ H Q => Q true H
inductive IDen (cx : Cx) (sc : Scope) (nm : List Str) (d : Nat) : List Expr → TB → Prop
  | nil : IDen cx sc nm d [] tTrueB
  | one {c T} : BDen cx sc nm d c T → IDen cx sc nm d [c] T
theorem tests_of {ifs : List Expr} {T : TB} (I : IDen cx sc nm d ifs T) {A : Around} {f : Frm} {s : Shared} {own : Own} {H : AH} {ρ : Loc} {Q : Bool → AH → Prop}
    (a : AOk d A) (ok : f.Ok cx sc) (hn : f.nm = nm) (g : GRel cx own H s) (F : FRel cx own H f ρ s.heap) (t : T ρ H Q) :
    wpAny (model cx.prog cx.w) A (forIn ifs true fun c r => if r = true then do let ok ← isTrue c f.env (eval c f.env); pure (ForInStep.yield ok) else pure (ForInStep.yield r)) (PostB cx own H s.heap Q) NoE s := by
  cases I with
  | nil => exact wpAny_tests_nil ⟨own, H, g, .refl .., t⟩
  | one D => exact wpAny_tests_one (D A f s own H ρ Q a ok hn g F t)

def qComp (fr : List Nat) (TC : TB) (TElt : TE) (ρ : Loc) (R : List V → AH → Prop) (l : Addr) (H1 : AH) : Prop :=
  ∃ xs, isLst l xs H1 ∧ xs.length ≤ 2 ^ 24 ∧ ∃ J : Nat → List V → AH → Prop, J 0 [] H1 ∧
    (∀ k acc H, k < xs.length → J k acc H → isLst l xs H ∧ TC (xs[k]? :: frees fr ρ) H fun b H2 => if b = true then TElt (xs[k]? :: frees fr ρ) H2 fun y H3 => J (k + 1) (acc ++ [y]) H3 else J (k + 1) acc H2) ∧
    (∀ acc H, J xs.length acc H → isLst l xs H ∧ R acc H)

theorem comp_core {A : Around} {f : Frm} {elt iter : Expr} {ifs : List Expr} {x : Str} {px pos : Pos} {scope : Scope} {fr : List Nat} {fnm : List Str} {TC : TB} {TElt : TE} {RR : Value → Addr → Result → Shared → Prop} {R : List V → AH → Prop}
    (a : AOk d A) (ok : f.Ok cx sc) (hn : f.nm = nm) (h : CompOk cx sc scope nm x fr fnm) (DI : IDen cx (relabelSc scope sc) (x :: fnm) d ifs TC) (DE : EDen cx (relabelSc scope sc) (x :: fnm) d elt TElt)
    {s : Shared} {own : Own} {H : AH} {ρ : Loc} (g : GRel cx own H s) (F : FRel cx own H f ρ s.heap) {l : Addr} (t : qComp fr TC TElt ρ R l H)
    (hend : ∀ D C s' own' H' acc rs n, D ≠ C → s.heap.get? D = none → s.heap.get? C = none → cx.h0.get? D = none ∧ sysModules < D → Hid cx f own' H' s'.heap D → Hid cx f own' H' s'.heap C → GRel cx own' H' s' → Ext own H s.heap own' H' s'.heap → FRel cx own' H' f ρ s'.heap → (∃ m, s'.heap.Ns C m) →
      IsL s'.heap D rs.toArray n → VRs acc rs → R acc H' → RR (.ref D) C (.ok .next) s') :
    wpAny (model cx.prog cx.w) A (pyIter (.ref l)) (fun it s2 => wpAny (model cx.prog cx.w) A (newList []) (fun acc s₃ => wpAny (model cx.prog cx.w) A (newFunctionEnv scope f.env.globals (closOf f.env scope.names []) [] f.env.qual none .none (some f.env)) (fun cenv s₄ =>
      codeAny (model cx.prog cx.w) A (.compStart (.ListComp elt [⟨.Name x px, iter, ifs, 0⟩] scope pos) 0 it acc { cenv with scope := relabel scope f.env }) (RR acc cenv.locals) s₄) NoE s₃) NoE s2) NoE s := by
  obtain ⟨xs, hl, hxs, J, j0, hJ, hJn⟩ := t
  obtain ⟨rs0, vr0, i0⟩ := g.anyList hl
  refine wpAny_pyIter_list i0 (wpAny_newObj_type (hd := by show ([] : List Value).toArray.size ≤ sizeLine; simp) (wpAny_newFunctionEnv h.nocell (by intro y hy; simp at hy) (fun h₁ hns₁ hsb₁ => ?_) h.kind))
  dsimp only at hns₁ hsb₁ ⊢
  generalize hH1 : s.heap.push { cls := .type "list_iterator", data := .fields #[.ref l, .int 0 0] } = HA at hns₁ hsb₁ ⊢
  have eD : HA.objs.size = s.heap.objs.size + 1 := by rw [← hH1, Heap.size_push]
  generalize hH2 : HA.push { cls := .type "list", dict := none, data := .seq ([] : List Value).toArray } = HB at hns₁ hsb₁ ⊢
  have eC : HB.objs.size = s.heap.objs.size + 2 := by rw [← hH2, Heap.size_push, eD]
  generalize hI : s.heap.objs.size = I at *
  generalize hD : HA.objs.size = D at *
  generalize hC : HB.objs.size = C at *
  subst eD eC
  have nDI : I + 1 ≠ I := Nat.succ_ne_self _
  have nCI : I + 2 ≠ I := by omega
  have nDC : I + 1 ≠ I + 2 := by omega
  have below : ∀ b o, s.heap.get? b = some o → b ≠ I + 2 ∧ b ≠ I + 1 ∧ b ≠ I := fun b o e => by
    have := Heap.lt_size e
    rw [hI] at this
    exact ⟨Nat.ne_of_lt (Nat.lt_succ_of_lt (Nat.lt_succ_of_lt this)), Nat.ne_of_lt (Nat.lt_succ_of_lt this), Nat.ne_of_lt this⟩
  have kp : ∀ b o, s.heap.get? b = some o → h₁.get? b = some o := fun b o e =>
    hsb₁.extBut b o (below b o e).1 (Heap.get?_push_of_some _ (hH2 ▸ Heap.get?_push_of_some _ (hH1 ▸ Heap.get?_push_of_some _ e)))
  have hit : h₁.IsListIter I l 0 := ⟨_, hsb₁.extBut _ _ nCI.symm (Heap.get?_push_of_some _ (hH2 ▸ Heap.get?_push_of_some _ (hH1 ▸ hI ▸ Heap.get?_push_size _ rfl))), rfl, rfl⟩
  have hacc : IsL h₁ (I + 1) #[] 0 := hsb₁.extBut _ _ nDC (Heap.get?_push_of_some _ (hH2 ▸ hD ▸ Heap.get?_push_size _ rfl))
  have g1 : GRel cx own H { s with heap := h₁ } := g.grow kp
  have xk : Ext own H s.heap own H h₁ := .grow kp
  have F1 : FRel cx own H f ρ h₁ := F.ext ok xk
  have memW : ∀ {b}, b ∈ [I + 2, I + 1, I] → b = I + 2 ∨ b = I + 1 ∨ b = I := fun h => by simpa using h
  have mC : I + 2 ∈ [I + 2, I + 1, I] := by simp
  have mD : I + 1 ∈ [I + 2, I + 1, I] := by simp
  have mI : I ∈ [I + 2, I + 1, I] := by simp
  have liveNs : ∀ {hp : Heap}, (∃ m, hp.Ns (I + 2) m) → ∃ o, hp.get? (I + 2) = some o := fun ⟨_, o, _, _, e, _⟩ => ⟨o, e⟩
  have liveIt : ∀ {hp : Heap} {k}, hp.IsListIter I l k → ∃ o, hp.get? I = some o := fun ⟨o, e, _⟩ => ⟨o, e⟩
  have hW1 : ∀ b ∈ [I + 2, I + 1, I], Hid cx f own H h₁ b := fun b hb => by
    rcases memW hb with rfl | rfl | rfl
    · exact Hid.fresh ok g F (by rw [hI]; omega) (liveNs ⟨_, hns₁⟩)
    · exact Hid.fresh ok g F (by rw [hI]; omega) ⟨_, hacc⟩
    · exact Hid.fresh ok g F (by rw [hI]; exact Nat.le_refl _) (liveIt hit)
  have hfoC : ∀ b ∈ f.fo, b ≠ I + 2 := fun b hb e => (hW1 _ mC).nf (e ▸ hb)
  have ok' : (compFrm f scope (I + 2) (x :: fnm)).Ok cx (relabelSc scope sc) := comp_ok ok h hfoC
  have loop : codeAny (model cx.prog cx.w) A (.compLoop (.ListComp elt [⟨.Name x px, iter, ifs, 0⟩] scope pos) 0 (.ref I) (.ref (I + 1)) (compEnvC scope (closOf f.env scope.names []) (I + 2) f.env)) (RR (.ref (I + 1)) (I + 2)) { s with heap := h₁ } := by
    refine codeAny_compLoop_tests (fun m s' => ∃ k own' H' acc rs n, m = xs.length - k ∧ k ≤ xs.length ∧ acc.length ≤ k ∧ GRel cx own' H' s' ∧ ExtX [I + 2, I + 1, I] [] own H h₁ own' H' s'.heap ∧ (∀ b ∈ [I + 2, I + 1, I], Hid cx f own' H' s'.heap b) ∧
      FRel cx own' H' f ρ s'.heap ∧ (∃ m, s'.heap.Ns (I + 2) m) ∧ s'.heap.IsListIter I l k ∧ IsL s'.heap (I + 1) rs.toArray n ∧ VRs acc rs ∧ J k acc H') ?_ xs.length
      ⟨0, own, H, [], [], 0, rfl, Nat.zero_le _, Nat.zero_le _, g1, .refl .., hW1, F1, ⟨_, hns₁⟩, hit, hacc, .nil, j0⟩
    rintro m s1 ⟨k, own1, H1, acc, rs, n, rfl, hk, hac, gg1, x1, W1, FF1, ns1, it1, ac1, vr1, j1⟩
    by_cases hkn : k < xs.length
    · obtain ⟨c1, t1⟩ := hJ k acc H1 hkn j1
      obtain ⟨rs2, vr2, i2⟩ := gg1.anyList c1
      obtain ⟨r, hr, hv⟩ := vr2.get (i := k) (v := xs[k]) (by simp [hkn])
      refine wpAny_mono (Q := fun r' s2 => ∃ h', r' = some r ∧ s2 = { s1 with heap := h' } ∧ h'.IsListIter I l (k + 1) ∧ Heap.SameBut I s1.heap h') (E := NoE) (wpAny_pyNext_list_item it1 i2 (x := r) (by simpa using hr) fun h' hit hs => ⟨h', rfl, rfl, hit, hs⟩) (fun r' s2 hh2 => ?_) fun _ _ e => e.elim
      obtain ⟨h', rfl, rfl, it2, hs2⟩ := hh2
      obtain ⟨g3, F3, x3, W3⟩ := hidden_turn (h' := h') (tk := s1.toks) (W := [I + 2, I + 1, I]) ok gg1 FF1 W1 (fun b o hb e => (hs2.2 b fun q => hb (by rw [q]; exact mI)).trans e)
      have ns3 : ∃ m, h'.Ns (I + 2) m := by obtain ⟨m, hm⟩ := ns1; exact ⟨m, hm.sameBut hs2 nCI⟩
      have ac3 : IsL h' (I + 1) rs.toArray n := (hs2.2 _ nDI).trans ac1
      replace W3 := W3 fun b hb => by
        rcases memW hb with rfl | rfl | rfl
        · exact liveNs ns3
        · exact ⟨_, ac3⟩
        · exact liveIt it2
      have Fi : FRel cx own1 H1 (compFrm f scope (I + 2) (x :: fnm)) (none :: frees fr ρ) h' := comp_rel ok hn h F3 (W3 _ mC) ns3 (.inl rfl)
      have x3' : ExtX [I + 2, I + 1, I] [] own1 H1 s1.heap own1 H1 h' := ⟨fun b o hb e1 e2 e3 => ⟨e1, e2, o, (hs2.2 b fun q => hb (by rw [q]; exact mI)).trans e3, fun _ => rfl⟩, fun b _ _ _ o hb e1 e3 => ⟨e1, o, (hs2.2 b fun q => hb (by rw [q]; exact mI)).trans e3⟩⟩
      refine wpAny_mono (Q := fun _ s4 => GRel cx own1 H1 s4 ∧ FRel cx own1 H1 (compFrm f scope (I + 2) (x :: fnm)) (xs[k]? :: frees fr ρ) s4.heap ∧ ∀ b o, b ≠ I + 2 → h'.get? b = some o → s4.heap.get? b = some o) (E := NoE)
        (wpAny_assign_Name (store_of' (sc := relabelSc scope sc) (i := 0) (s := { s1 with heap := h' }) (f := compFrm f scope (I + 2) (x :: fnm)) ok' rfl (.inl h.tgt2) g3 Fi hv fun s4 g4 x4 F4 loc4 => ⟨g4, by rw [show xs[k]? = some xs[k] from by simp [hkn]]; exact F4, loc4 h.tgt2⟩)) (fun _ s4 hh4 => ?_) fun _ _ e => e.elim
      obtain ⟨g4, Fi4, loc4⟩ := hh4
      have F4 : FRel cx own1 H1 f ρ s4.heap := F3.stable ok (fun b o hb e => loc4 b o (hfoC b hb) e) fun b hb => let ⟨_, p, q⟩ := F3.mine b hb; ⟨p, q⟩
      have x4 : ExtX [I + 2, I + 1, I] [] own1 H1 h' own1 H1 s4.heap := ⟨fun b o hb e1 e2 e3 => ⟨e1, e2, o, loc4 b o (fun q => hb (by rw [q]; exact mC)) e3, fun _ => rfl⟩, fun b _ _ _ o hb e1 e3 => ⟨e1, o, loc4 b o (fun q => hb (by rw [q]; exact mC)) e3⟩⟩
      have ns4 : ∃ m, s4.heap.Ns (I + 2) m := Fi4.ns
      have it4 : s4.heap.IsListIter I l (k + 1) := it2.at fun o e => loc4 _ o nCI.symm e
      have ac4 : IsL s4.heap (I + 1) rs.toArray n := loc4 _ _ nDC ac3
      have W4 : ∀ b ∈ [I + 2, I + 1, I], Hid cx f own1 H1 s4.heap b := fun b hb => by
        have y := W3 b hb
        refine ⟨?_, y.hn, y.on, y.h0, y.nf⟩
        rcases memW hb with rfl | rfl | rfl
        · exact liveNs ns4
        · exact ⟨_, ac4⟩
        · exact liveIt it4
      refine wpAny_mono (tests_of DI (f := compFrm f scope (I + 2) (x :: fnm)) a ok' rfl g4 Fi4 t1) (fun b s5 hh5 => ?_) fun _ _ e => e.elim
      obtain ⟨own5, H5, g5, x5, t5⟩ := hh5
      have F5 := F4.ext ok x5
      have Fi5 := Fi4.ext ok' x5
      have W5 : ∀ b ∈ [I + 2, I + 1, I], Hid cx f own5 H5 s5.heap b := fun b hb => ((W4 b hb).extE ok x5).1
      have keep5 : ∀ b ∈ [I + 2, I + 1, I], ∀ o, s4.heap.get? b = some o → s5.heap.get? b = some o := fun b hb => ((W4 b hb).extE ok x5).2
      have it5 : s5.heap.IsListIter I l (k + 1) := it4.at fun o e => keep5 _ mI o e
      have ac5 : IsL s5.heap (I + 1) rs.toArray n := keep5 _ mD _ ac4
      have y5 : ExtX [I + 2, I + 1, I] [] own H h₁ own5 H5 s5.heap := ((x1.trans x3').trans x4).trans x5.toW.toX
      cases b with
      | false =>
        simp only [Bool.false_eq_true, if_false] at t5 ⊢
        exact ⟨xs.length - (k + 1), by omega, k + 1, own5, H5, acc, rs, n, rfl, hkn, by omega, g5, y5, W5, F5, Fi5.ns, it5, ac5, vr1, t5⟩
      | true =>
        simp only [if_true] at t5 ⊢
        refine wpAny_mono (wp_then (R := fun y s6 => ∃ v own6 H6, VR v y ∧ GRel cx own6 H6 s6 ∧ Ext own5 H5 s5.heap own6 H6 s6.heap ∧ J (k + 1) (acc ++ [v]) H6) (DE A (compFrm f scope (I + 2) (x :: fnm)) s5 own5 H5 _ _ a ok' rfl g5 Fi5 t5) fun v y s6 own6 H6 e6 g6 x6 t6 => ⟨v, own6, H6, e6, g6, x6, t6⟩) (fun y s6 hh6 => ?_) fun _ _ e => e.elim
        obtain ⟨v6, own6, H6, e6, g6, x6, t6⟩ := hh6
        have F6 := F5.ext ok x6
        have Fi6 := Fi5.ext ok' x6
        have W6 : ∀ b ∈ [I + 2, I + 1, I], Hid cx f own6 H6 s6.heap b := fun b hb => ((W5 b hb).extE ok x6).1
        have keep6 : ∀ b ∈ [I + 2, I + 1, I], ∀ o, s5.heap.get? b = some o → s6.heap.get? b = some o := fun b hb => ((W5 b hb).extE ok x6).2
        have ac6 : IsL s6.heap (I + 1) rs.toArray n := keep6 _ mD _ ac5
        have it6 : s6.heap.IsListIter I l (k + 1) := it5.at fun o e => keep6 _ mI o e
        have hlen := vr1.length
        refine append_exact ac6 ?_ (by simp only [List.size_toArray, sizeLine_eq]; omega)
        obtain ⟨n7, ac7⟩ : ∃ n7, IsL (s6.heap.update (I + 1) (Obj.mapSeq (·.push y))) (I + 1) (rs ++ [y]).toArray n7 := by
          have := IsL.update ac6 (·.push y)
          rw [show rs.toArray.push y = (rs ++ [y]).toArray from by simp] at this
          exact ⟨_, this⟩
        have hs7 : Heap.SameBut (I + 1) s6.heap (s6.heap.update (I + 1) (Obj.mapSeq (·.push y))) := Heap.SameBut.update ..
        obtain ⟨g7, F7, x7, W7⟩ := hidden_turn (h' := s6.heap.update (I + 1) (Obj.mapSeq (·.push y))) (tk := s6.toks) (W := [I + 2, I + 1, I]) ok g6 F6 W6 (fun b o hb e => (hs7.2 b fun q => hb (by rw [q]; exact mD)).trans e)
        have ns7 : ∃ m, (s6.heap.update (I + 1) (Obj.mapSeq (·.push y))).Ns (I + 2) m := by obtain ⟨m, hm⟩ := Fi6.ns; exact ⟨m, hm.sameBut hs7 nDC.symm⟩
        have it7 : (s6.heap.update (I + 1) (Obj.mapSeq (·.push y))).IsListIter I l (k + 1) := it6.at fun o e => (hs7.2 _ nDI.symm).trans e
        replace W7 := W7 fun b hb => by
          rcases memW hb with rfl | rfl | rfl
          · exact liveNs ns7
          · exact ⟨_, ac7⟩
          · exact liveIt it7
        have x7' : ExtX [I + 2, I + 1, I] [] own6 H6 s6.heap own6 H6 (s6.heap.update (I + 1) (Obj.mapSeq (·.push y))) := ⟨fun b o hb e1 e2 e3 => ⟨e1, e2, o, (hs7.2 b fun q => hb (by rw [q]; exact mD)).trans e3, fun _ => rfl⟩, fun b _ _ _ o hb e1 e3 => ⟨e1, o, (hs7.2 b fun q => hb (by rw [q]; exact mD)).trans e3⟩⟩
        exact ⟨xs.length - (k + 1), by omega, k + 1, own6, H6, acc ++ [v6], rs ++ [y], _, rfl, hkn, by simp; omega, g7, (y5.trans x6.toW.toX).trans x7', W7, F7, ns7, it7, ac7, vr1.append (.cons e6 .nil), t6⟩
    · have : k = xs.length := by omega
      subst this
      obtain ⟨c1, q1⟩ := hJn acc H1 j1
      obtain ⟨rs2, vr2, i2⟩ := gg1.anyList c1
      refine wpAny_pyNext_list_end a.han it1 i2 (by simp [vr2.length]) fun h' he => ?_
      obtain ⟨g3, F3, x3, _⟩ := hidden_turn (h' := h') (tk := s1.toks) (W := [I + 2, I + 1, I]) ok gg1 FF1 W1 (fun b o hb e => he b o (fun q => hb (by rw [q]; exact mI)) e)
      have x3' : ExtX [I + 2, I + 1, I] [] own1 H1 s1.heap own1 H1 h' := ⟨fun b o hb e1 e2 e3 => ⟨e1, e2, o, he b o (fun q => hb (by rw [q]; exact mI)) e3, fun _ => rfl⟩, fun b _ _ _ o hb e1 e3 => ⟨e1, o, he b o (fun q => hb (by rw [q]; exact mI)) e3⟩⟩
      have y3 := (ExtX.trans (xk.toW (wr := [])).toX (x1.trans x3')).drop (fun b hb => by
        cases q : s.heap.get? b with
        | none => rfl
        | some o =>
          have := below b o q
          rcases memW hb with rfl | rfl | rfl
          · exact absurd rfl this.1
          · exact absurd rfl this.2.1
          · exact absurd rfl this.2.2)
      have nsE : ∃ m, h'.Ns (I + 2) m := by obtain ⟨m, hm⟩ := ns1; exact ⟨m, hm.extBut he nCI⟩
      have acE : IsL h' (I + 1) rs.toArray n := he _ _ nDI ac1
      have wC := W1 _ mC
      have wD := W1 _ mD
      refine hend (I + 1) (I + 2) _ own1 H1 acc rs n nDC ?_ (Heap.get?_none_of_le (by rw [hI]; omega)) ⟨(W1 _ mD).h0, ?_⟩ ⟨⟨_, acE⟩, wD.hn, wD.on, wD.h0, wD.nf⟩ ⟨liveNs nsE, wC.hn, wC.on, wC.h0, wC.nf⟩ g3 y3.plain F3 nsE acE vr1 q1
      · exact Heap.get?_none_of_le (by rw [hI]; omega)
      · have := g.hiSys; rw [hI] at this; exact Nat.lt_succ_of_lt this
  have es : ({ s with heap := h₁, toks := s.toks + ([] : List (Str × Value)).length } : Shared) = { s with heap := h₁ } := rfl
  rw [es]
  exact codeAny_compStart_list loop (wpAny_pyIter_listiter hit loop)

/-- [elt for x in iter if c] -/
def tComp (Tit : TE) (fr : List Nat) (TC : TB) (TElt : TE) : TE := fun ρ H Q => Tit ρ H fun v H1 => match v with
  | .ref l => qComp fr TC TElt ρ (fun acc H2 => ∀ c, H2 c = none → Q (.ref c) (H2.set c (.list acc))) l H1
  | _ => False
theorem den_comp {elt iter : Expr} {ifs : List Expr} {x : Str} {px pos : Pos} {scope : Scope} {fr : List Nat} {fnm : List Str} {Tit : TE} {TC : TB} {TElt : TE} (h : CompOk cx sc scope nm x fr fnm) (D : EDen cx sc nm d iter Tit)
    (DI : IDen cx (relabelSc scope sc) (x :: fnm) d ifs TC) (DE : EDen cx (relabelSc scope sc) (x :: fnm) d elt TElt) (hs : ∀ env x, foldedSetIterable iter env x = pure x := by intros; rfl) :
    EDen cx sc nm d (.ListComp elt [⟨.Name x px, iter, ifs, 0⟩] scope pos) (tComp Tit fr TC TElt) := by
  intro A f s own H ρ Q a ok hn g F t
  rw [eval_ListComp]
  refine wpAny_comprehension_free (use := none) rfl (hs _) (closureFor_eq fun n hn' => let ⟨c, e, _⟩ := lookup_fr ok h hn'; ⟨c, e⟩) h.kind h.names (wp_then (D A f s own H ρ _ a ok hn g F t) fun v rv s1 own1 H1 e1 g1 x1 t1 => ?_)
  cases e1 with
  | ref l =>
    refine comp_core (RR := fun acc C => compPost (model cx.prog cx.w) A NoE none _ acc C) a ok hn h DI DE g1 (F.ext ok x1) t1 ?_
    intro D C s' own' H' acc rs n hDC hD0 hC0 hD1 wD wC g2 x2 F2 ns ac vr q
    obtain ⟨m, hm⟩ := ns
    refine ⟨m, hm, fun h' hs' => ?_⟩
    have ac' : IsL h' D rs.toArray n := (hs'.2 _ hDC).trans ac
    have g3 : GRel cx own' H' { s' with heap := h' } := g2.hidden fun b o hb e => by
      have : b ≠ C := by
        rintro rfl
        rcases hb with hb | hb | hb
        · exact hb wC.hn
        · exact hb wC.on
        · exact hb wC.h0
      exact (hs'.2 b this).trans e
    refine ⟨.ref D, own', H'.set D (.list acc), .ref _, GRel.enter (s := { s' with heap := h' }) (h' := h') (tk := s'.toks) g3 wD.hn wD.on hD1 ⟨rfl, fun _ _ => rfl⟩ ⟨rs, n, vr, ac'⟩, x1.trans ⟨fun b o e1 e2 e3 => ?_, fun b c l k ob e1 e2 => ?_⟩, q _ wD.hn⟩
    rotate_left
    · obtain ⟨p, o', r⟩ := x2.tab b c l k ob e1 e2
      have hbD : b ≠ D := by rintro rfl; rw [hD0] at e2; cases e2
      have hbC : b ≠ C := by
        rintro rfl; rw [hC0] at e2; cases e2
      exact ⟨by rw [AH.set_ne _ _ hbD]; exact p, o', (hs'.2 b hbC).trans r⟩
    obtain ⟨p, q, r⟩ := x2.all b o e1 e2 e3
    have hbD : b ≠ D := by rintro rfl; rw [hD0] at e3; cases e3
    have hbC : b ≠ C := by
      rintro rfl; rw [hC0] at e3; cases e3
    exact ⟨by rw [AH.set_ne _ _ hbD]; exact p, q, (hs'.2 b hbC).trans r⟩
  | _ => exact t1.elim
end
end Mine
namespace Mine

section
variable {cx : Cx} {sc : Scope} {nm : List Str} {d : Nat}

/-- x = [elt for y in iter if c], the name stored by the comprehension itself -/
def tSetComp (i : Nat) (Tit : TE) (fr : List Nat) (TC : TB) (TElt : TE) : TS := fun ρ H Q => Tit ρ H fun v H1 => match v with
  | .ref l => qComp fr TC TElt ρ (fun acc H2 => ∀ c, H2 c = none → Q .next (ρ.set i (some (.ref c))) (H2.set c (.list acc))) l H1
  | _ => False
theorem sden_setcomp {i : Nat} {z : Str} {pz sp : Pos} {elt iter : Expr} {ifs : List Expr} {x : Str} {px pos : Pos} {scope : Scope} {fr : List Nat} {fnm : List Str} {Tit : TE} {TC : TB} {TElt : TE}
    (hz : nm[i]? = some z) (hk : sc.names.lookup z = some .local) (h : CompOk cx sc scope nm x fr fnm) (D : EDen cx sc nm d iter Tit)
    (DI : IDen cx (relabelSc scope sc) (x :: fnm) d ifs TC) (DE : EDen cx (relabelSc scope sc) (x :: fnm) d elt TElt)
    (hsw : ∀ env : Env, env.scope = sc → swapsWith (.ListComp elt [⟨.Name x px, iter, ifs, 0⟩] scope pos) (some (.Name z pz)) sp.line env = pure true) (hs : ∀ env x, foldedSetIterable iter env x = pure x := by intros; rfl) :
    S1Den cx sc nm d (.Assign [.Name z pz] (.ListComp elt [⟨.Name x px, iter, ifs, 0⟩] scope pos) sp) (tSetComp i Tit fr TC TElt) := by
  intro A f s own H ρ Q a ok hn g F t
  rw [exec_Assign_Name_used _ _ _ _ (hsw _ ok.sc)]
  refine wpAny_bind (wpAny_standAt (wpAny_bind ?_))
  show wpAny _ A (do let _ ← comprehension (.ListComp elt [⟨.Name x px, iter, ifs, 0⟩] scope pos) scope f.env _ (newList []) false (eval iter f.env) (some (assign (.Name z pz) f.env))) _ _ s
  refine wpAny_bind (wpAny_mono (wpAny_comprehension_free (use := some (assign (.Name z pz) f.env)) (Q := fun _ s' => PostS cx f own H s.heap Q .next s') rfl (hs _) (closureFor_eq fun n hn' => let ⟨c, e, _⟩ := lookup_fr ok h hn'; ⟨c, e⟩) h.kind h.names
    (wp_then (D A f s own H ρ _ a ok hn g F t) fun v rv s1 own1 H1 e1 g1 x1 t1 => ?_)) (fun _ s' hq => wpAny_pure (wpAny_pure hq)) fun _ _ e => e)
  cases e1 with
  | ref l =>
    refine comp_core (RR := fun acc C => compPost (model cx.prog cx.w) A NoE (some (assign (.Name z pz) f.env)) _ acc C) a ok hn h DI DE g1 (F.ext ok x1) t1 ?_
    intro D C s' own' H' acc rs n hDC hD0 hC0 hD1 wD wC g2 x2 F2 ns ac vr q
    show wpAny _ A (assign (.Name z pz) f.env (.ref D)) _ _ _
    refine wpAny_assign_Name (store_of (i := i) ok (hn ▸ hz) (.inl hk) g2 F2 (.ref D) fun s3 g3 x3 F3 => ?_)
    have wC3 := wC.ext ok x3
    have wD3 := wD.ext ok x3
    have ns3 : ∃ m, s3.heap.Ns C m := by obtain ⟨m, hm⟩ := ns; exact ⟨m, hm.at' fun o e => wC3.2 o e⟩
    obtain ⟨m, hm⟩ := ns3
    refine ⟨m, hm, fun h' hs' => ?_⟩
    have ac' : IsL h' D rs.toArray n := (hs'.2 _ hDC).trans (wD3.2 _ ac)
    have noC : ∀ b, b ∈ f.fo → b ≠ C := fun b hb e => wC.nf (e ▸ hb)
    have noD : ∀ b, b ∈ f.fo → b ≠ D := fun b hb e => wD.nf (e ▸ hb)
    have g4 : GRel cx own' H' { s3 with heap := h' } := g3.hidden fun b o hb e => by
      have : b ≠ C := by
        rintro rfl
        rcases hb with hb | hb | hb
        · exact hb wC.hn
        · exact hb wC.on
        · exact hb wC.h0
      exact (hs'.2 b this).trans e
    have g5 : GRel cx own' (H'.set D (.list acc)) { s3 with heap := h' } := GRel.enter (s := { s3 with heap := h' }) (h' := h') (tk := s3.toks) g4 wD.hn wD.on hD1 ⟨rfl, fun _ _ => rfl⟩ ⟨rs, n, vr, ac'⟩
    have F5 : FRel cx own' (H'.set D (.list acc)) f (ρ.set i (some (.ref D))) h' := F3.stable ok (fun b o hb e => (hs'.2 b (noC b hb)).trans e) fun b hb => let ⟨_, p, q⟩ := F3.mine b hb; ⟨by rw [AH.set_ne _ _ (noD b hb)]; exact p, q⟩
    refine ⟨.next, _, own', _, .next, g5, ⟨fun b o e1 e2 e3 => ?_, fun b c l k ob e1 e2 => ?_⟩, F5, q _ wD.hn⟩
    rotate_left
    · obtain ⟨p1, o1, p3⟩ := x1.tab b c l k ob e1 e2
      have hbD : b ≠ D := by rintro rfl; rw [hD0] at p3; cases p3
      have hbC : b ≠ C := by rintro rfl; rw [hC0] at p3; cases p3
      obtain ⟨q1, o2, q3⟩ := x2.tab b c l k o1 p1 p3
      obtain ⟨r1, o', r3⟩ := x3.tab b c l k o2 q1 q3
      exact ⟨by rw [AH.set_ne _ _ hbD]; exact r1, o', (hs'.2 b hbC).trans r3⟩
    obtain ⟨p1, p2, p3⟩ := x1.all b o e1 e2 e3
    have hbD : b ≠ D := by rintro rfl; rw [hD0] at p3; cases p3
    have hbC : b ≠ C := by rintro rfl; rw [hC0] at p3; cases p3
    obtain ⟨q1, q2, q3⟩ := x2.all b o p1 p2 p3
    obtain ⟨r1, r2, o', r3, r4⟩ := x3.all b o q1 q2 q3
    exact ⟨by rw [AH.set_ne _ _ hbD]; exact r1, r2, o', (hs'.2 b hbC).trans r3, r4⟩
  | _ => exact t1.elim
end
end Mine
namespace Mine

def TupIs (B : Addr) (h₀ h : Heap) (y v dv : Value) : Prop := ∃ c n, y = .ref c ∧ B < c ∧ h₀.get? c = none ∧ h.get? c = some { cls := .type "tuple", data := .seq #[v, dv] n }
def gSince (C I : Addr) (s₀ s : Shared) : Prop := ∃ h' tk, s = { s₀ with heap := h', toks := tk } ∧ ∀ b o, b ≠ C → b ≠ I → s₀.heap.get? b = some o → h'.get? b = some o
theorem gSince.refl (C I : Addr) (s : Shared) : gSince C I s s := ⟨s.heap, s.toks, rfl, fun _ _ _ _ e => e⟩
theorem gSince.step {C I : Addr} {s₀ s : Shared} (x : gSince C I s₀ s) {h' : Heap} {tk : Nat} (hk : ∀ b o, b ≠ C → b ≠ I → s.heap.get? b = some o → h'.get? b = some o) : gSince C I s₀ { s with heap := h', toks := tk } := by
  obtain ⟨h₁, t₁, rfl, k⟩ := x
  exact ⟨h', tk, rfl, fun b o h1 h2 e => hk b o h1 h2 (k b o h1 h2 e)⟩

/-- what the generator leans on -/
structure GSt (C I l dc : Addr) (items : Array Value) (dv : Value) (i : Nat) (h : Heap) : Prop where
  it : h.IsListIter I l i
  ls : h.IsList l items
  ns : ∃ m, h.Ns C m
  cl : h.IsCell dc (some dv)

def gProto (C I l dc : Addr) (items : Array Value) (dv : Value) : Protocol := fun m s₀ v s kap =>
  ∃ i x, i + m + 1 = items.size ∧ items[i]? = some x ∧ TupIs C s₀.heap s.heap v x dv ∧ gSince C I s₀ s ∧ GSt C I l dc items dv (i + 1) s.heap ∧ ∀ s'' : Shared, GSt C I l dc items dv (i + 1) s''.heap → kap (.send .none) s''

section
variable {prog : Program} {w : World} {A : Around}

abbrev gEnd (C I : Addr) : GenEnd := fun n s₀ r s₁ => r = .ok .next ∧ (n = 0 ∧ gSince C I s₀ s₁)

theorem gLoop {elt iter : Expr} {x : Str} {px : Pos} {scope : Scope} {pos : Pos} {I l dc : Addr} {items : Array Value} {dv : Value} {cenv : Env}
    (hh : A.handled = none) (hx : cenv.kindOf x = some .local) (hp : (cenv.scope.kind == .class || (cenv.scope.kind == .module && cenv.locals != cenv.globals)) = false) (hco : cenv.scope.isCoroutine = false)
    (d1 : l ≠ I) (d2 : l ≠ cenv.locals) (d3 : I ≠ cenv.locals) (d4 : dc ≠ I) (d5 : dc ≠ cenv.locals)
    (helt : ∀ (A' : Around) E' v (s : Shared) m, A'.handled = none → s.heap.Ns cenv.locals m → m x = some v → s.heap.IsCell dc (some dv) → wpAny (model prog w) A' (eval elt cenv) (fun y s' => TupIs cenv.locals s.heap s'.heap y v dv ∧ Keeps s s') E' s) :
    ∀ (k i : Nat) (s₀ s : Shared), items.size - i = k → i ≤ items.size → GSt cenv.locals I l dc items dv i s.heap → gSince cenv.locals I s₀ s →
      Seg (model prog w) A (gEnd cenv.locals I) (gProto cenv.locals I l dc items dv) (items.size - i) s₀
        (.compLoop (.GeneratorExp elt [⟨.Name x px, iter, [], 0⟩] scope pos) 0 (.ref I) .none cenv)
        ((model prog w).den (.compLoop (.GeneratorExp elt [⟨.Name x px, iter, [], 0⟩] scope pos) 0 (.ref I) .none cenv)) [] s := by
  have hh' : (A.over (.compLoop (.GeneratorExp elt [⟨.Name x px, iter, [], 0⟩] scope pos) 0 (.ref I) .none cenv) []).handled = none := hh
  intro k
  induction k with
  | zero =>
    intro i s₀ s hk hi st hs
    rw [hk]
    show Seg _ A _ _ _ s₀ _ ((compTurn (.GeneratorExp elt [⟨.Name x px, iter, [], 0⟩] scope pos) 0 (.ref I) .none cenv).onRaise (leaving cenv)) [] s
    rw [compTurn_gen, Sem.onRaise_eq_wrap]
    refine seg_bind_wrap (wpAny_standAt ?_)
    refine seg_bind_wrap (wpAny_pyNext_list_end hh' st.it st.ls (Array.getElem?_eq_none (by omega)) fun h' he => ?_)
    exact seg_end (.ok .next) ⟨rfl, rfl, hs.step fun b o _ hb e => he b o hb e⟩
  | succ k ih =>
    intro i s₀ s hk hi st hs
    have hlt : i < items.size := by omega
    have hit : items[i]? = some items[i] := Array.getElem?_eq_getElem hlt
    show Seg _ A _ _ _ s₀ _ ((compTurn (.GeneratorExp elt [⟨.Name x px, iter, [], 0⟩] scope pos) 0 (.ref I) .none cenv).onRaise (leaving cenv)) [] s
    rw [compTurn_gen, Sem.onRaise_eq_wrap]
    refine seg_bind_wrap (wpAny_standAt ?_)
    refine seg_bind_wrap (wpAny_pyNext_list_item st.it st.ls hit fun h₁ it₁ hs₁ => ?_)
    refine seg_bind_wrap (wpAny_of_eq (rfl : letOwnedTupleGo (.Name x px) (.ref I) items[i] = pure ()) ?_)
    obtain ⟨m, hm⟩ := st.ns
    have hm₁ : h₁.Ns cenv.locals m := hm.sameBut hs₁ d3.symm
    refine seg_bind_wrap (wpAny_assign_Name (wpAny_storeName_local hx hm₁ (fun h₂ hn₂ hs₂ => ?_) hp))
    replace hs₂ : Heap.SameBut cenv.locals h₁ h₂ := hs₂
    have up : ∀ b o, b ≠ cenv.locals → b ≠ I → s.heap.get? b = some o → h₂.get? b = some o := fun b o h1 h2 e => (hs₂.2 b h1).trans ((hs₁.2 b h2).trans e)
    have st₂ : GSt cenv.locals I l dc items dv (i + 1) h₂ := ⟨it₁.at fun o e => (hs₂.2 I d3).trans e, st.ls.at fun o e => up l o d2 d1 e, ⟨_, hn₂⟩, let ⟨o, e, dd⟩ := st.cl; ⟨o, up dc o d5 d4 e, dd⟩⟩
    refine seg_bind_wrap (wpAny_tests_nil ?_)
    simp only [if_true]
    have hy : ∀ v, yieldOut cenv v = yieldValue v := fun v => by simp only [yieldOut, hco, Bool.false_eq_true, if_false]
    simp only [hy]
    rw [Sem.bind_eq_wrap', Sem.bind_eq_wrap', Sem.wrap_wrap, Sem.wrap_wrap]
    refine seg_wrap (wpAny_mono (helt _ _ items[i] _ _ hh' hn₂ (by simp) st₂.cl) (fun y s₄ h₄ => ?_) fun _ _ e => e)
    obtain ⟨hty, h₄, tk₄, rfl, hk₄⟩ := h₄
    have st₄ : GSt cenv.locals I l dc items dv (i + 1) h₄ := ⟨st₂.it.at fun o e => hk₄ _ o e, st₂.ls.at fun o e => hk₄ _ o e, (let ⟨m, hm⟩ := st₂.ns; ⟨m, hm.keeps hk₄⟩), let ⟨o, e, dd⟩ := st₂.cl; ⟨o, hk₄ _ o e, dd⟩⟩
    rw [hk]
    have hty' : TupIs cenv.locals s₀.heap h₄ y items[i] dv := by
      obtain ⟨c, n, rfl, hB, hc0, hc⟩ := hty
      refine ⟨c, n, rfl, hB, ?_, hc⟩
      cases q : s₀.heap.get? c with
      | none => rfl
      | some o =>
        have hcC : c ≠ cenv.locals := by
          rintro rfl
          obtain ⟨_, o, _, _, eo, ed, _⟩ := st₄.ns
          rw [eo] at hc; cases hc; cases ed
        have hcI : c ≠ I := by
          rintro rfl
          obtain ⟨o, eo, ec, _⟩ := st₄.it
          rw [eo] at hc; cases hc; simp at ec
        obtain ⟨h₁', t₁', hss, kk⟩ := hs
        subst hss
        have := up c o hcC hcI (kk c o hcC hcI q)
        rw [this] at hc0; cases hc0
    refine seg_at (seg_yield rfl rfl rfl ⟨i, items[i], by omega, hit, hty', hs.step fun b o h1 h2 e => hk₄ b o (up b o h1 h2 e), st₄, fun s'' st'' => ?_⟩)
    have := ih (i + 1) s'' s'' (by omega) (by omega) st'' (gSince.refl _ _ _)
    rw [show items.size - (i + 1) = k from by omega] at this
    exact seg_again rfl this

theorem gStart {elt iter : Expr} {x : Str} {px : Pos} {scope : Scope} {pos : Pos} {I l dc : Addr} {items : Array Value} {dv : Value} {cenv : Env}
    (hh : A.handled = none) (hx : cenv.kindOf x = some .local) (hp : (cenv.scope.kind == .class || (cenv.scope.kind == .module && cenv.locals != cenv.globals)) = false) (hco : cenv.scope.isCoroutine = false)
    (d1 : l ≠ I) (d2 : l ≠ cenv.locals) (d3 : I ≠ cenv.locals) (d4 : dc ≠ I) (d5 : dc ≠ cenv.locals)
    (helt : ∀ (A' : Around) E' v (s : Shared) m, A'.handled = none → s.heap.Ns cenv.locals m → m x = some v → s.heap.IsCell dc (some dv) → wpAny (model prog w) A' (eval elt cenv) (fun y s' => TupIs cenv.locals s.heap s'.heap y v dv ∧ Keeps s s') E' s)
    (s₀ s : Shared) (st : GSt cenv.locals I l dc items dv 0 s.heap) (hs : gSince cenv.locals I s₀ s) :
      Seg (model prog w) A (gEnd cenv.locals I) (gProto cenv.locals I l dc items dv) items.size s₀
        (.compStart (.GeneratorExp elt [⟨.Name x px, iter, [], 0⟩] scope pos) 0 (.ref I) .none cenv)
        ((model prog w).den (.compStart (.GeneratorExp elt [⟨.Name x px, iter, [], 0⟩] scope pos) 0 (.ref I) .none cenv)) [] s := by
  have loop := gLoop (iter := iter) (px := px) (scope := scope) (pos := pos) hh hx hp hco d1 d2 d3 d4 d5 helt items.size 0 s₀ s (by omega) (Nat.zero_le _) st hs
  show Seg _ A _ _ _ s₀ _ ((compStart (.GeneratorExp elt [⟨.Name x px, iter, [], 0⟩] scope pos) 0 (.ref I) .none cenv).onRaise (leaving cenv)) [] s
  unfold compStart
  rw [Sem.onRaise_eq_wrap]
  show Seg _ A _ _ _ s₀ _ ((ask >>= _).wrap _ _ _ _) [] s
  refine seg_bind_wrap (wpAny_askSetting ?_)
  split
  · exact seg_again rfl loop
  · first
      | exact seg_bind_wrap (wpAny_rule (seg_bind_wrap (wpAny_standAt (seg_bind_wrap (wpAny_pyIter_listiter st.it (seg_again rfl loop))))))
      | (refine seg_bind_wrap (wpAny_rule ?_); show Seg _ A _ _ _ s₀ _ ((standAt iter.pos >>= _).wrap _ _ _ _) [] s; exact seg_bind_wrap (wpAny_standAt (seg_bind_wrap (wpAny_pyIter_listiter st.it (seg_again rfl loop)))))
end

/-! the list takes what the generator gives -/
section
variable {prog : Program} {w : World} {A : Around} {R : Result → Shared → Prop}

structure GRun (prog : Program) (w : World) (A : Around) (C I l dc a g : Nat) (items : Array Value) (dv : Value) (i : Nat) (s : Shared) : Prop where
  isg : s.heap.IsGen a g
  lim : s.heap.NoLimit
  st : GSt C I l dc items dv i s.heap
  go : ∃ gs, s.gens[g]? = some gs ∧ ∀ s'' : Shared, GSt C I l dc items dv i s''.heap → gs.Goes (model prog w) A (gEnd C I) (gProto C I l dc items dv) (items.size - i) (.send .none) s''

def gKeep (W : List Addr) (s s' : Shared) : Prop := ∀ b o, b ∉ W → s.heap.get? b = some o → s'.heap.get? b = some o

theorem gExtend {C I l dc a g S : Addr} {items : Array Value} {dv : Value} (hh : A.handled = none) (hroom : A.depth < recursionLimit) (hsz : items.size ≤ 2 ^ 24)
    (aC : a ≠ C) (aI : a ≠ I) (aS : a ≠ S) (sC : S ≠ C) (sI : S ≠ I) (sl : S ≠ l) (sdc : S ≠ dc) (cC : cStatics ≠ C) (cI : cStatics ≠ I) (cS : cStatics ≠ S) (dI : dc ≠ I) (dC : dc ≠ C) (lI : l ≠ I) (lC : l ≠ C) (IC : I ≠ C) :
    ∀ (hI : Heap) (k i : Nat) (s : Shared) (base : List Value) (ts : List Value) (n : Nat), items.size - i = k → i ≤ items.size → GRun prog w A.in1.in1 C I l dc a g items dv i s → IsL s.heap S (base ++ ts).toArray n → base.length + items.size ≤ 2 ^ 24 →
      ts.length = i → (∀ (j : Nat) (y : Value), ts[j]? = some y → ∃ x : Value, items[j]? = some x ∧ TupIs C hI s.heap y x dv) → ts.Nodup → (∀ b o, b ∉ [C, I, S] → hI.get? b = some o → s.heap.get? b = some o) → AllBare s.gens →
      (∀ s' ts' n', IsL s'.heap S (base ++ ts').toArray n' → ts'.length = items.size → (∀ (j : Nat) (y : Value), ts'[j]? = some y → ∃ x : Value, items[j]? = some x ∧ TupIs C hI s'.heap y x dv) → ts'.Nodup → gKeep [C, I, S] s s' → AllBare s'.gens → s'.os = s.os → R (.ok (.ret .none)) s') →
      codeAny (model prog w) A (.builtin "list.extend.loop" ⟨[.ref S, .ref a, .none], []⟩) R s := by
  intro hI k
  induction k with
  | zero =>
    intro i s base ts n hk hi G hS hb hl ht hnd hkI hg hR
    obtain ⟨gs, hgs, hgo⟩ := G.go
    refine codeAny_builtin F.entry_extend_loop ?_
    rw [Around.under_plainId F.plain_extend_loop _]
    show wpAny _ A.in1 (pyNext (.ref a) >>= _) _ _ s
    refine wpAny_bind ?_
    rw [hk] at hgo
    refine wpAny_pyNext_genexpQ (A := A.in1) (P := fun n s₀ s₁ => n = 0 ∧ gSince C I s₀ s₁) hh G.lim hroom G.isg hgs (hgo _ G.st) (fun v s₁ gs' hb' hv => ?_) (fun s₁ hp h' hk' => ?_)
    · obtain ⟨i', x, e1, _, _, _, st', hkap⟩ := hv
      exact (hkap s₁ st').elim
    · obtain ⟨_, h₁, tk₁, rfl, hk₁⟩ := hp
      refine wpAny_pure (hR _ ts n (hk' _ _ (hk₁ _ _ sC sI hS)) (by omega) (fun j y hj => ?_) hnd (fun b o hb' e => hk' b o (hk₁ b o (fun q => hb' (by simp [q])) (fun q => hb' (by simp [q])) e)) ?_ rfl)
      · obtain ⟨x, hx, c, m, rfl, eB, e0, e⟩ := ht j y hj
        refine ⟨x, hx, c, m, rfl, eB, e0, hk' _ _ (hk₁ _ _ ?_ ?_ e)⟩
        · rintro rfl
          obtain ⟨_, o, _, _, eo, ed, _⟩ := G.st.ns
          have e1 : s.heap.get? c = _ := e
          rw [eo] at e1; cases e1; cases ed
        · rintro rfl
          obtain ⟨o, eo, ec, _⟩ := G.st.it
          have e1 : s.heap.get? c = _ := e
          rw [eo] at e1; cases e1; simp at ec
      · exact GenOnlyQ.bare (GenOnlyQ.of ((GenOnly.setGen s g .running).trans (GenOnly.setGen _ g .finished)) (setGen_self (gs := .running) (setGen_self hgs)) rfl) hg
  | succ k ih =>
    intro i s base ts n hk hi G hS hb hl ht hnd hkI hg hR
    obtain ⟨gs, hgs, hgo⟩ := G.go
    have hlt : i < items.size := by omega
    refine codeAny_builtin F.entry_extend_loop ?_
    rw [Around.under_plainId F.plain_extend_loop _]
    show wpAny _ A.in1 (pyNext (.ref a) >>= _) _ _ s
    refine wpAny_bind ?_
    rw [hk] at hgo
    refine wpAny_pyNext_genexpQ (A := A.in1) (P := fun n s₀ s₁ => n = 0 ∧ gSince C I s₀ s₁) hh G.lim hroom G.isg hgs (hgo _ G.st) (fun v s₁ gs' hb' hv => ?_) (fun s₁ hp h' hk' => ?_)
    · obtain ⟨i', x, e1, hx, hty, ⟨h₁, tk₁, rfl, hk₁⟩, st', hkap⟩ := hv
      have hii : i' = i := by omega
      subst hii
      dsimp only at hkap st' hty
      have hS' : IsL h₁ S (base ++ ts).toArray n := hk₁ _ _ sC sI hS
      have hz : ((base ++ ts).toArray).size ≤ sizeLine := by simp only [List.size_toArray, List.length_append, sizeLine_eq]; omega
      show wpAny _ A.in1 (updateSeq S (·.push v) >>= _) _ _ _
      refine wpAny_bind ?_
      refine wpAny_updateSeq hS' rfl (wpAny_pure ⟨plainId_quiet F.plain_extend_loop _, ?_⟩) hz
      have hS2 := IsL.update hS' (·.push v)
      rw [show ((base ++ ts).toArray).push v = (base ++ (ts ++ [v])).toArray from by simp] at hS2
      have hs2 : Heap.SameBut S h₁ (h₁.update S (Obj.mapSeq (·.push v))) := Heap.SameBut.update ..
      have up : ∀ b o, b ∉ [C, I, S] → s.heap.get? b = some o → (h₁.update S (Obj.mapSeq (·.push v))).get? b = some o := fun b o h e =>
        (hs2.2 b (fun q => h (by simp [q]))).trans (hk₁ b o (fun q => h (by simp [q])) (fun q => h (by simp [q])) e)
      have tupUp : ∀ {y x : Value}, TupIs C hI s.heap y x dv → TupIs C hI (h₁.update S (Obj.mapSeq (·.push v))) y x dv := fun {y x} h => by
        obtain ⟨c, m, rfl, eB, e0, e⟩ := h
        refine ⟨c, m, rfl, eB, e0, up c _ (fun q => ?_) e⟩
        rcases List.mem_cons.mp q with rfl | q
        · obtain ⟨_, o, _, _, eo, ed, _⟩ := G.st.ns
          rw [eo] at e; cases e; cases ed
        · rcases List.mem_cons.mp q with rfl | q
          · obtain ⟨o, eo, ec, _⟩ := G.st.it
            rw [eo] at e; cases e; simp at ec
          · rw [List.mem_singleton.mp q] at e
            rw [hS] at e; simp at e
      have stUp : ∀ {i}, GSt C I l dc items dv i h₁ → GSt C I l dc items dv i (h₁.update S (Obj.mapSeq (·.push v))) := fun st =>
        ⟨st.it.at fun o e => (hs2.2 _ sI.symm).trans e, st.ls.at fun o e => (hs2.2 _ sl.symm).trans e, (let ⟨m, hm⟩ := st.ns; ⟨m, hm.sameBut hs2 sC.symm⟩), let ⟨o, e, dd⟩ := st.cl; ⟨o, (hs2.2 _ sdc.symm).trans e, dd⟩⟩
      refine ih (i' + 1) _ base (ts ++ [v]) _ (by omega) hlt ⟨?_, ?_, stUp st', gs', setGen_self (gs := .running) (setGen_self hgs), fun s'' st'' => ?_⟩ hS2 hb (by simp [hl]) (fun j y hj => ?_) ?_ (fun b o h e => up b o h (hkI b o h e)) ?_ fun s' ts' n' h1 h2 h3 h3' h4 h5 h6 => ?_
      · obtain ⟨o, nm, qn, ho, r⟩ := G.isg
        exact ⟨o, nm, qn, up a o (by simp [aC, aI, aS]) ho, r⟩
      · obtain ⟨mc, hns, hnn⟩ := G.lim
        exact ⟨mc, hns.at' fun o e => up _ o (by simp [cC, cI, cS]) e, hnn⟩
      · have hks : items.size - (i' + 1) = k := by omega
        rw [hks]
        exact hkap s'' st''
      · by_cases hj' : j < ts.length
        · rw [List.getElem?_append_left hj'] at hj
          obtain ⟨x', hx', ht'⟩ := ht j y hj
          exact ⟨x', hx', tupUp ht'⟩
        · have : j = ts.length := by
            have := (List.getElem?_eq_some_iff.mp hj).1
            simp at this; omega
          subst this
          rw [List.getElem?_append_right (Nat.le_refl _)] at hj
          simp only [Nat.sub_self, List.getElem?_cons_zero, Option.some.injEq] at hj
          subst hj
          refine ⟨x, by rw [hl]; exact hx, ?_⟩
          obtain ⟨c, m, rfl, eB, e0, e⟩ := hty
          refine ⟨c, m, rfl, eB, ?_, (hs2.2 c ?_).trans e⟩
          · cases q : hI.get? c with
            | none => rfl
            | some o =>
              have hcc : c ∉ [C, I, S] := by
                intro hm
                rcases List.mem_cons.mp hm with rfl | hm
                · obtain ⟨_, o, _, _, eo, ed, _⟩ := st'.ns
                  rw [eo] at e; cases e; cases ed
                · rcases List.mem_cons.mp hm with rfl | hm
                  · obtain ⟨o, eo, ec, _⟩ := st'.it
                    rw [eo] at e; cases e; simp at ec
                  · rw [List.mem_singleton.mp hm] at e
                    rw [hS'] at e; simp at e
              have := hkI c o hcc q
              have e0' : s.heap.get? c = none := e0
              rw [this] at e0'; cases e0'
          · rintro rfl
            rw [hS'] at e; simp at e
      · obtain ⟨c, m, rfl, eB, e0, e⟩ := hty
        rw [List.nodup_append]
        refine ⟨hnd, by simp, ?_⟩
        intro y hy z hz hyz
        rw [List.mem_singleton] at hz
        subst hz
        subst hyz
        obtain ⟨j, hj⟩ := List.getElem?_of_mem hy
        obtain ⟨x', _, c', m', hc', _, _, e'⟩ := ht j _ hj
        cases hc'
        have e0' : s.heap.get? c = none := e0
        rw [e'] at e0'; cases e0'
      · exact GenOnlyQ.bare (GenOnlyQ.of ((GenOnly.setGen s g .running).trans (GenOnly.setGen _ g gs')) (setGen_self (gs := .running) (setGen_self hgs)) hb') hg
      · exact hR s' ts' n' h1 h2 h3 h3' (fun b o h e => h4 b o h (up b o h e)) h5 h6
    · exact absurd hp.1 (Nat.succ_ne_zero k)
end
end Mine
namespace Mine

section
variable {prog : Program} {w : World} {A : Around} {E : Value → Shared → Prop}

theorem call_extend_gen {C I l dc a g S : Addr} {items : Array Value} {dv : Value} {s : Shared} {base : List Value} {n : Nat} {Q : Value → Shared → Prop} (hh : A.handled = none) (hroom : A.depth < recursionLimit) (hsz : items.size ≤ 2 ^ 24)
    (aC : a ≠ C) (aI : a ≠ I) (aS : a ≠ S) (sC : S ≠ C) (sI : S ≠ I) (sl : S ≠ l) (sdc : S ≠ dc) (cC : cStatics ≠ C) (cI : cStatics ≠ I) (cS : cStatics ≠ S) (dI : dc ≠ I) (dC : dc ≠ C) (lI : l ≠ I) (lC : l ≠ C) (IC : I ≠ C)
    (G : GRun prog w A.in1.in1 C I l dc a g items dv 0 s) (hS : IsL s.heap S base.toArray n) (hb : base.length + items.size < 2 ^ 24) (hg : AllBare s.gens)
    (hR : ∀ s' ts' n', IsL s'.heap S (base ++ ts').toArray n' → ts'.length = items.size → (∀ (j : Nat) (y : Value), ts'[j]? = some y → ∃ x : Value, items[j]? = some x ∧ TupIs C s.heap s'.heap y x dv) → ts'.Nodup → gKeep [C, I, S] s s' → AllBare s'.gens → s'.os = s.os → Q .none s') :
    wpAny (model prog w) A (call (.builtin "list.extend") [.ref S, .ref a]) Q E s := by
  refine wpAny_call (codeAny_call_builtin PySem.F.slot_list_extend.plain PySem.F.entry_list_extend (PySem.F.slot_list_extend.check _ _ _ _ _ _ _ _ (IsL.isList hS).typeIs (PySem.F.args_list_extend_2 _ _) ?_))
  show wpAny _ A.in1 (Builtin.List.listExtendWith (.ref S) (.ref a) .none) _ _ s
  unfold Builtin.List.listExtendWith
  have hT := G.isg.typeIs
  refine wpAny_bind (wpAny_typeOf hT ?_)
  have h1 : Builtin.List.listSameRef (.ref S) (.ref a) = false := by simp [Builtin.List.listSameRef, Ne.symm aS]
  have h2 : (Value.type "generator" == Value.type "list") = false := by decide
  have h3 : (Value.type "generator" == Value.type "tuple") = false := by decide
  simp only [h1, h2, h3, Bool.or_false, Bool.false_eq_true, if_false]
  refine wpAny_bind (wpAny_pyIter_gen G.isg ?_)
  refine wpAny_bind (wpAny_holding ?_)
  unfold Builtin.List.listLengthHint
  refine wpAny_bind (wpAny_specialOf hT PySem.F.gen_no_len ?_)
  show wpAny _ A.in1 (specialOf (Value.ref a) (Str.ofString "__length_hint__") >>= _) _ _ _
  refine wpAny_bind (wpAny_specialOf hT PySem.F.gen_no_hint ?_)
  refine wpAny_pure ?_
  show wpAny _ A.in1 (rule "list.extend.makes-room" >>= fun _ => Builtin.List.listTouch (.ref S) >>= fun _ =>
    again (.builtin "list.extend.loop" ⟨[.ref S, .ref a, .none], []⟩)) _ _ _
  refine wpAny_bind (wpAny_rule ?_)
  refine wpAny_bind ?_
  show wpAny _ A.in1 (updateSeq S (·.push .none) >>= fun _ => updateSeq S (·.pop)) _ _ _
  have hz : base.toArray.size ≤ sizeLine := by simp only [List.size_toArray, sizeLine_eq]; omega
  refine wpAny_bind (wpAny_updateSeq hS rfl ?_ hz)
  have hS₂ := IsL.update hS (·.push Value.none)
  refine wpAny_updateSeq hS₂ rfl ?_ (by show (base.toArray.push Value.none).size ≤ sizeLine; rw [Array.size_push]; simp only [List.size_toArray, sizeLine_eq]; omega)
  have hS₃ := IsL.update hS₂ (·.pop)
  rw [show (base.toArray.push Value.none).pop = (base ++ []).toArray from by simp] at hS₃
  have oth : ∀ b o, b ≠ S → s.heap.get? b = some o → ((s.heap.update S (Obj.mapSeq (·.push Value.none))).update S (Obj.mapSeq (·.pop))).get? b = some o :=
    fun b o hb e => (Heap.get?_update_other _ _ (Ne.symm hb)).trans ((Heap.get?_update_other _ _ (Ne.symm hb)).trans e)
  refine wpAny_pure ⟨plainId_quiet PySem.F.plain_extend_loop _, gExtend (dv := dv) (g := g) hh hroom hsz aC aI aS sC sI sl sdc cC cI cS dI dC lI lC IC s.heap items.size 0 _ base [] _ (by omega) (Nat.zero_le _) ⟨?_, ?_, ?_, ?_⟩ hS₃ (Nat.le_of_lt hb) rfl (fun j y hj => by simp at hj) .nil (fun b o h e => oth b o (fun q => h (by simp [q])) e) hg fun s' ts' n' e1 e2 e3 e3' e4 e5 e6 => ?_⟩
  · obtain ⟨o, nm, qn, ho, r⟩ := G.isg
    exact ⟨o, nm, qn, oth _ _ aS ho, r⟩
  · obtain ⟨mc, hns, hnn⟩ := G.lim
    exact ⟨mc, hns.at' fun o e => oth _ o cS e, hnn⟩
  · exact ⟨G.st.it.at fun o e => oth _ _ sI.symm e, G.st.ls.at fun o e => oth _ _ sl.symm e, (let ⟨m, hm⟩ := G.st.ns; ⟨m, hm.at' fun o e => oth _ _ sC.symm e⟩), let ⟨o, e, dd⟩ := G.st.cl; ⟨o, oth _ _ sdc.symm e, dd⟩⟩
  · exact G.go
  · exact hR s' ts' n' e1 e2 e3 e3' (fun b o h e => e4 b o h (oth b o (fun q => h (by simp [q])) e)) e5 e6
end

/-! tuples enter -/
def tupsAH : AH → List Addr → List V → V → AH
  | H, c :: cs, y :: ys, dv => tupsAH (H.set c (.tup [y, dv])) cs ys dv
  | H, _, _, _ => H

theorem tupsAH_ne : ∀ {cs : List Addr} {ys : List V} {H : AH} {dv : V} {b : Addr}, b ∉ cs → tupsAH H cs ys dv b = H b
  | [], _, _, _, _, _ => rfl
  | c :: cs, [], _, _, _, _ => rfl
  | c :: cs, y :: ys, H, dv, b, h => by
    simp only [List.mem_cons, not_or] at h
    unfold tupsAH
    rw [tupsAH_ne h.2, AH.set_ne _ _ h.1]
theorem tupsAH_at : ∀ {cs : List Addr} {ys : List V} {H : AH} {dv : V} {j : Nat} {c : Addr} {y : V}, cs.Nodup → cs[j]? = some c → ys[j]? = some y → tupsAH H cs ys dv c = some (.tup [y, dv])
  | [], _, _, _, j, _, _, _, h, _ => by simp at h
  | c :: cs, [], _, _, j, _, _, _, _, h => by simp at h
  | c :: cs, y :: ys, H, dv, 0, c', y', hn, h1, h2 => by
    simp only [List.getElem?_cons_zero, Option.some.injEq] at h1 h2
    subst h1; subst h2
    unfold tupsAH
    rw [tupsAH_ne (List.nodup_cons.mp hn).1, AH.set_self]
  | c :: cs, y :: ys, H, dv, j + 1, c', y', hn, h1, h2 => by
    simp only [List.getElem?_cons_succ] at h1 h2
    unfold tupsAH
    exact tupsAH_at (List.nodup_cons.mp hn).2 h1 h2

structure GenOk (cx : Cx) (sc scope : Scope) (nm : List Str) (x y : Str) (iy : Nat) (pos : Pos) (c P : Addr) (l k : Int) : Prop where
  co : scope.isCoroutine = false
  nocell : ∀ z ∈ scope.names, z.2 ≠ .cell
  zero : scope.names.lookup (".0" : Str) = some .local
  kind : scope.kind = .function
  tgt : scope.names.lookup x = some .local
  fr : scope.names.lookup y = some .free
  mem : (y, NameKind.free) ∈ scope.names
  cls : ∀ z, (z, NameKind.free) ∈ scope.names → sc.names.lookup z = some .cell
  slot : nm[iy]? = some y
  code : cx.codeOf sc = some c
  ln : l = pos.line
  cl : k = pos.col
  xd : (x == ("__debug__" : Str)) = false
  yd : (y == ("__debug__" : Str)) = false
  yc : (y == ("__classdict__" : Str)) = false

section
variable {cx : Cx} {sc : Scope} {nm : List Str} {d : Nat}

theorem codeAmong_one (pos : Pos) (v : Value) : codeAmong pos [rawInt (pos.line : Int), rawInt (pos.col : Int), v] = some v := by
  show (if ((pos.line : Int) == (pos.line : Int) && (pos.col : Int) == (pos.col : Int)) = true then some v else _) = _
  simp
theorem code_step {A : Around} {f : Frm} {s : Shared} {own : Own} {H : AH} {c P : Addr} {l k : Int} {pos : Pos} {qn : Str} {scope : Scope} {Q : Value → Shared → Prop} (hc : f.env.code = .ref c) (g : GRel cx own H s) (hP : H P = some (.tab c l k)) (hl : l = pos.line) (hk : k = pos.col)
    (q : ∀ code h' tk, GRel cx own H { s with heap := h', toks := tk } → (∀ b o, b ≠ P → s.heap.get? b = some o → h'.get? b = some o) → Q code { s with heap := h', toks := tk }) :
    wpAny (model cx.prog cx.w) A (genexprCode f.env pos qn scope) Q NoE s := by
  obtain ⟨ps, e, hd, hps⟩ := g.obj _ _ hP
  have hd' : CodeHd s.heap c P := hd.keeps g.base
  have htab := hd'.tab e
  rcases hps with rfl | ⟨c', rfl⟩
  · have hok := hd'.code e (by show TriplesOk []; trivial)
    refine wpAny_genexprCodeX hc hok htab rfl fun c' h' tk hx _ _ _ _ ht _ => ?_
    have et : h'.get? P = some (tabObj #[rawInt l, rawInt k, .ref c']) := by
      have := ht.2
      rw [hl, hk]; simpa using this
    have kp : ∀ b o, b ≠ P → s.heap.get? b = some o → h'.get? b = some o := fun b o hb e => hx b o hb e
    have h0 := (g.new _ _ hP (by intro _; nofun)).1
    have hPown : ∀ b, own P ≠ some b := fun b hb => by
      obtain ⟨z, _⟩ := g.aux _ _ hb; rw [hP] at z; cases z
    refine q _ h' tk ⟨fun b o eb => ?_, fun b o eb => kp b o (by rintro rfl; rw [h0] at eb; cases eb) (g.base b o eb), g.new, fun D b eD => ?_, g.os, g.gens⟩ kp
    · by_cases hb : b = P
      · subst hb
        rw [hP] at eb; cases eb
        exact ⟨_, et, hd, .inr ⟨c', rfl⟩⟩
      · refine (g.obj b o eb).stable (fun y ob hy ey => kp y ob ?_ ey) (fun _ e => e)
        rcases hy with rfl | hy
        · exact hb
        · rintro rfl; exact hPown _ hy
    · obtain ⟨x, y, ob, z⟩ := g.aux D b eD
      exact ⟨x, y, ob, kp _ _ (by rintro rfl; exact hPown _ eD) z⟩
  · have hok := hd'.code e (by show TriplesOk [rawInt l, rawInt k, .ref c']; trivial)
    refine wpAny_genexprCode_hit (c' := .ref c') hc hok (by rw [hl, hk]; exact codeAmong_one pos _) ?_
    exact q _ s.heap s.toks g (fun _ _ _ e => e)

def tExtGen (To Tit : TE) (iy : Nat) (c P : Addr) (l k : Int) : TS := fun ρ H Q => To ρ H fun ov H1 => isL ov H1 ∧ Tit ρ H1 fun iv H2 => match ov, iv with
  | .ref a, .ref lc => ∃ xs ys dv, H2 a = some (.list xs) ∧ isLst lc ys H2 ∧ a ≠ lc ∧ ρ[iy]? = some (some dv) ∧ H2 P = some (.tab c l k) ∧ xs.length + ys.length < 2 ^ 24 ∧
      ∀ cs : List Addr, cs.length = ys.length → cs.Nodup → (∀ b ∈ cs, H2 b = none) → Q .next ρ ((tupsAH H2 cs ys dv).set a (.list (xs ++ cs.map .ref)))
  | _, _ => False
end
end Mine
namespace Mine
section
variable {cx : Cx} {sc : Scope} {nm : List Str} {d : Nat}

def adr : Value → Addr
  | .ref c => c
  | _ => 0
theorem nodup_of_map : ∀ {cs : List Addr}, (cs.map Value.ref).Nodup → cs.Nodup
  | [], _ => .nil
  | c :: cs, h => by
    rw [List.map_cons, List.nodup_cons] at h
    exact List.nodup_cons.mpr ⟨fun m => h.1 (List.mem_map.mpr ⟨c, m, rfl⟩), nodup_of_map h.2⟩
theorem GRel.put {own H} {s s' : Shared} {S : Addr} {o o' : MO} (g : GRel cx own H s) (e : H S = some o) (hr : ∀ xs, o ≠ .ro xs) (hk : ∀ b ob, b ≠ S → (H b ≠ none ∨ own b ≠ none ∨ cx.h0.get? b ≠ none) → s.heap.get? b = some ob → s'.heap.get? b = some ob)
    (ho : Holds cx own S s'.heap o') (hos : s'.os = s.os) (hg : AllBare s'.gens) : GRel cx own (H.set S o') s' := by
  have h0 := g.new S o e hr
  have nS : ∀ b, own b ≠ none → b ≠ S := fun b hb q => by
    subst q
    cases q2 : own b with
    | none => exact hb q2
    | some c => obtain ⟨z, _⟩ := g.aux _ _ q2; rw [e] at z; cases z
  refine ⟨fun b o₂ eb => ?_, fun b ob eb => hk b ob (by rintro rfl; rw [h0.1] at eb; cases eb) (.inr (.inr (by rw [eb]; nofun))) (g.base b ob eb), fun b o₂ eb hr' => ?_, fun D b eD => ?_, hos.trans g.os, hg⟩
  · by_cases hb : b = S
    · subst hb; rw [AH.set_self] at eb; cases eb; exact ho
    · rw [AH.set_ne _ _ hb] at eb
      refine (g.obj b o₂ eb).stable (fun c ob hc ec => hk c ob ?_ ?_ ec) (fun _ e => e)
      · rcases hc with rfl | hc
        · exact hb
        · exact nS c (by rw [hc]; nofun)
      · rcases hc with rfl | hc
        · exact .inl (by rw [eb]; nofun)
        · exact .inr (.inl (by rw [hc]; nofun))
  · by_cases hb : b = S
    · subst hb; exact h0
    · rw [AH.set_ne _ _ hb] at eb; exact g.new b o₂ eb hr'
  · obtain ⟨x, y, ob, z⟩ := g.aux D b eD
    have hD := nS D (by rw [eD]; nofun)
    exact ⟨by rw [AH.set_ne _ _ hD]; exact x, y, ob, hk _ _ hD (.inr (.inl (by rw [eD]; nofun))) z⟩
theorem set_comm {H : AH} {a b : Addr} {o o' : MO} (h : a ≠ b) : (H.set a o).set b o' = (H.set b o').set a o := by
  funext x
  unfold AH.set
  by_cases h1 : x = b
  · subst h1; rw [if_pos rfl, if_neg (Ne.symm h), if_pos rfl]
  · rw [if_neg h1]
    by_cases h2 : x = a
    · subst h2; rw [if_pos rfl, if_pos rfl]
    · rw [if_neg h2, if_neg h2, if_neg h1]
theorem tups_comm : ∀ {cs : List Addr} {ys : List V} {H : AH} {dv : V} {S : Addr} {o : MO}, S ∉ cs → tupsAH (H.set S o) cs ys dv = (tupsAH H cs ys dv).set S o
  | [], _, _, _, _, _, _ => rfl
  | c :: cs, [], _, _, _, _, _ => rfl
  | c :: cs, y :: ys, H, dv, S, o, h => by
    simp only [List.mem_cons, not_or] at h
    unfold tupsAH
    rw [set_comm h.1, tups_comm h.2]
theorem GRel.tups {own} : ∀ {cs : List Addr} {ys : List V} {H : AH} {dv : V} {s : Shared} (g : GRel cx own H s), cs.Nodup → (∀ b ∈ cs, H b = none ∧ own b = none ∧ cx.h0.get? b = none ∧ sysModules < b) →
    (∀ (j : Nat) (c : Addr) (y : V), cs[j]? = some c → ys[j]? = some y → ∃ rs n, VRs [y, dv] rs ∧ s.heap.get? c = some { cls := .type "tuple", data := .seq rs.toArray n }) → GRel cx own (tupsAH H cs ys dv) s
  | [], _, _, _, _, g, _, _, _ => g
  | c :: cs, [], _, _, _, g, _, _, _ => g
  | c :: cs, y :: ys, H, dv, s, g, hn, hf, ht => by
    unfold tupsAH
    obtain ⟨h1, h2⟩ := List.nodup_cons.mp hn
    obtain ⟨f1, f2, f3, f4⟩ := hf c List.mem_cons_self
    obtain ⟨rs, n, v, e⟩ := ht 0 c y rfl rfl
    have g1 : GRel cx own (H.set c (.tup [y, dv])) s := GRel.enter (s := s) (h' := s.heap) (tk := s.toks) g f1 f2 ⟨f3, f4⟩ ⟨rfl, fun _ _ => rfl⟩ ⟨rs, n, v, e⟩
    refine GRel.tups g1 h2 (fun b hb => ?_) fun j c' y' e1 e2 => ht (j + 1) c' y' (by simpa using e1) (by simpa using e2)
    obtain ⟨k1, k2, k3, k4⟩ := hf b (List.mem_cons_of_mem _ hb)
    have hbc : b ≠ c := by rintro rfl; exact h1 hb
    exact ⟨by rw [AH.set_ne _ _ hbc]; exact k1, k2, k3, k4⟩

theorem sden_extgen {o iter : Expr} {x y : Str} {iy kt : Nat} {px p1 p2 pt ap p q gpos : Pos} {scope : Scope} {c P : Addr} {l k : Int} {To Tit : TE} (h : GenOk cx sc scope nm x y iy gpos c P l k) (Do : EDen cx sc nm d o To) (Dit : EDen cx sc nm d iter Tit)
    (hbase : ∀ env, attributeBase o "extend" env (eval o env) = eval o env := by intro _; with_unfolding_all rfl)
    (hs : ∀ env, starEach [.GeneratorExp (.Tuple [.Name x p1, .Name y p2] kt pt) [⟨.Name x px, iter, [], 0⟩] scope gpos] env = [(false, eval (.GeneratorExp (.Tuple [.Name x p1, .Name y p2] kt pt) [⟨.Name x px, iter, [], 0⟩] scope gpos) env)] := by intro _; rfl)
    (hline : (ap.endLine == p.line) = true := by decide) (hf : ∀ env x, genFold iter env x = pure x := by intros; rfl)
    (hi : ∀ env : Env, env.scope.kind = .function → interactive env = false := by intro env h; unfold interactive; rw [h]; rfl)
    (hsw : ∀ env, swapsWith (.Call (.Attribute o "extend" ap) [.GeneratorExp (.Tuple [.Name x p1, .Name y p2] kt pt) [⟨.Name x px, iter, [], 0⟩] scope gpos] [] p) none q.line env = pure false := by intro _; rfl) :
    S1Den cx sc nm d (.Expr (.Call (.Attribute o "extend" ap) [.GeneratorExp (.Tuple [.Name x p1, .Name y p2] kt pt) [⟨.Name x px, iter, [], 0⟩] scope gpos] [] p) q) (tExtGen To Tit iy c P l k) := by
  intro A f s own H ρ Q a ok hn g F t
  refine wpAny_Expr ?_ (hi _ ok.fn) (hsw _)
  refine Call_method1 (hbase _) (hs _) hline (wp_then (Do A f s own H ρ _ a ok hn g F t) fun ov ro s1 own1 H1 e1 g1 x1 t1 => ?_)
  obtain ⟨t0, t1⟩ := t1
  have F1 := F.ext ok x1
  cases e1 with
  | ref S =>
    obtain ⟨xs0, hx0⟩ := t0
    obtain ⟨hT, hd⟩ := list_self g1 hx0
    refine ⟨"list", _, PySem.F.plainAttrs_list, PySem.F.slot_list_extend, PySem.F.type_list_extend, hT, hd, ?_⟩
    refine callWith_builtin rfl (evalArgs_plain (Calls.spliced_cons ?_))
    have hroom : A.depth < recursionLimit := by have := a.dep; omega
    have hfr : ∀ z, (z, NameKind.free) ∈ scope.names → ∃ cc, f.env.cells.lookup z = some cc := fun z hz => ok.cex z (by rw [kindOf_eq ok]; exact h.cls z hz)
    refine wpAny_GeneratorExp_make h.co (closureFor_eq hfr) h.nocell h.zero h.kind hroom (wp_then (Dit A f s1 own1 H1 ρ _ a ok hn g1 F1 t1) fun iv ri s2 own2 H2 e2 g2 x2 t2 => ?_) (hf _)
    have F2 := F1.ext ok x2
    cases e2 with
    | ref lc =>
      obtain ⟨xs, ys, dv, hxs, hys, hne, hdv, hP, hlen, q⟩ := t2
      obtain ⟨rys, vys, iys⟩ := g2.anyList hys
      refine wpAny_pyIter_list iys ?_
      have kp3 : ∀ b o, s2.heap.get? b = some o → (s2.heap.push { cls := .type "list_iterator", data := .fields #[.ref lc, .int 0 0] }).get? b = some o := fun b o e => Heap.get?_push_of_some _ e
      have g3 : GRel cx own2 H2 { s2 with heap := s2.heap.push { cls := .type "list_iterator", data := .fields #[.ref lc, .int 0 0] } } := g2.grow kp3
      refine ⟨cx.lim.keeps g3.base, code_step (ok.cd _ h.code) g3 hP h.ln h.cl fun code h4 tk4 g4 kp4 => ?_⟩
      dsimp only at kp4
      rw [ok.gl, ok.bl]
      refine cx.bf _ _ _ _ g4.base fun h5 ns5 sb5 => ?_
      dsimp only at ns5 sb5 ⊢
      -- the addresses
      generalize hI : s2.heap.objs.size = I at *
      have hIget : h4.get? I = some { cls := .type "list_iterator", data := .fields #[.ref lc, .int 0 0] } := by
        refine kp4 _ _ ?_ (hI ▸ Heap.get?_push_size _ rfl)
        rintro rfl
        exact absurd (g2.lt hP) (by rw [hI]; exact Nat.lt_irrefl _)
      generalize hC : h4.objs.size = C at *
      have hIC : I < C := by rw [← hC]; exact Heap.lt_size hIget
      have kp24 : ∀ b o, b ≠ P → s2.heap.get? b = some o → h4.get? b = some o := fun b o hb e => kp4 b o hb (kp3 b o e)
      have kp5 : ∀ b o, h4.get? b = some o → h5.get? b = some o := fun b o e => (sb5.2 b (fun q => by subst q; exact absurd (Heap.lt_size e) (by rw [hC]; exact Nat.lt_irrefl _))).trans (Heap.get?_push_of_some _ e)
      have sz5 : h5.objs.size = C + 1 := by rw [sb5.1, Heap.size_push, hC]
      generalize hG : ({ cls := .type "generator", data := .fields #[.int s2.gens.size 0, .str "<genexpr>" (tk4 + 1), .str (f.env.qual ++ "<genexpr>") (tk4 + 1 + 1)] } : Obj) = go
      have kp6 : ∀ b o, h5.get? b = some o → (h5.push go).get? b = some o := fun b o e => Heap.get?_push_of_some _ e
      rw [sz5]
      have kp46 : ∀ b o, h4.get? b = some o → (h5.push go).get? b = some o := fun b o e => kp6 b o (kp5 b o e)
      -- the name that the element reads beside
      obtain ⟨rdv, hvd, look⟩ := F2.vars iy y dv (hn ▸ h.slot) hdv
      have hyc : f.env.kindOf y = some .cell := by rw [kindOf_eq ok]; exact h.cls y h.mem
      obtain ⟨dc, od, hdc, edc, ddc⟩ : ∃ dc od, f.env.cells.lookup y = some dc ∧ s2.heap.get? dc = some od ∧ od.data = .cell (some rdv) := by
        rcases look with ⟨k1, _⟩ | ⟨_, c', o', hc', e', d'⟩
        · rw [hyc] at k1; cases k1
        · exact ⟨c', o', hc', e', d'⟩
      obtain ⟨_, hdcH, hdcO⟩ := F2.mine dc (ok.cfo _ _ hdc).1
      obtain ⟨cy, hcy⟩ := closOf_has (acc := []) (.inl ⟨hfr y h.mem, h.mem⟩)
      have hcy2 := closOf_sound (by intro n c e; cases e) hcy
      rw [hdc] at hcy2; cases hcy2
      -- who is who
      have ltS := g2.lt hxs
      have ltP := g2.lt hP
      rw [hI] at ltS ltP
      have ltdc : dc < I := hI ▸ Heap.lt_size edc
      obtain ⟨_, _, _, ols⟩ : ∃ ol, s2.heap.get? lc = some ol ∧ True ∧ True := by obtain ⟨ol, e, _⟩ := iys; exact ⟨ol, e, trivial, trivial⟩
      have ltl : lc < I := by obtain ⟨ol, e, _⟩ := iys; exact hI ▸ Heap.lt_size e
      have hPd : dc ≠ P := by rintro rfl; rw [hP] at hdcH; cases hdcH
      have hPS : S ≠ P := by rintro rfl; rw [hP] at hxs; cases hxs
      have hPl : lc ≠ P := by rintro rfl; rcases hys with e | e <;> (rw [hP] at e; cases e)
      have hSd : S ≠ dc := by rintro rfl; rw [hxs] at hdcH; cases hdcH
      obtain ⟨mcs, nscs, _⟩ := cx.lim
      obtain ⟨ocs, _, _, ecs, _⟩ := nscs
      have ltcs : cStatics < I := hI ▸ Heap.lt_size (g2.base _ _ ecs)
      have hcsS : cStatics ≠ S := by rintro rfl; rw [(g2.new _ _ hxs (by intro _; nofun)).1] at ecs; cases ecs
      obtain ⟨rxs, nx, vxs, ixs⟩ := g2.list hxs
      have up : ∀ b ob, b ≠ P → s2.heap.get? b = some ob → (h5.push go).get? b = some ob := fun b ob hb e => kp46 b ob (kp24 b ob hb e)
      have ne1 : ∀ {b}, b < I → b ≠ I ∧ b ≠ C ∧ b ≠ C + 1 := fun {b} hb => ⟨Nat.ne_of_lt hb, Nat.ne_of_lt (Nat.lt_trans hb hIC), Nat.ne_of_lt (Nat.lt_succ_of_lt (Nat.lt_trans hb hIC))⟩
      refine Calls.spliced_nil ?_
      have st0 : ∀ hh : Heap, (∀ b ob, (h5.push go).get? b = some ob → hh.get? b = some ob) → True := fun _ _ => trivial
      refine call_extend_gen (C := C) (I := I) (l := lc) (dc := dc) (a := C + 1) (g := s2.gens.size) (items := rys.toArray) (dv := rdv) (base := rxs) (n := nx) a.han hroom (by rw [size_of vys]; omega)
        (Nat.succ_ne_self _) (Nat.ne_of_gt (Nat.lt_succ_of_lt hIC)) (ne1 ltS).2.2.symm (ne1 ltS).2.1 (ne1 ltS).1 hne hSd (ne1 ltcs).2.1 (ne1 ltcs).1 hcsS (ne1 ltdc).1 (ne1 ltdc).2.1 (ne1 ltl).1 (ne1 ltl).2.1 (Nat.ne_of_lt hIC) ?_ ?_ ?_ ?_ ?_
      · have stG : GSt C I lc dc rys.toArray rdv 0 (h5.push go) := by
          refine ⟨⟨_, kp46 _ _ hIget, rfl, rfl⟩, ?_, ⟨_, ns5.keeps kp6⟩, ⟨od, up _ _ hPd edc, ddc⟩⟩
          obtain ⟨ol, e, r⟩ := iys
          exact ⟨ol, up _ _ hPl e, r⟩
        refine ⟨⟨go, _, _, ?_, by rw [← hG], by rw [← hG], by rw [← hG]⟩, (cx.lim.keeps g4.base).keeps kp46, stG, ⟨_, Array.getElem?_push_size .., fun s'' st'' => ⟨rfl, ?_⟩⟩⟩
        · have := Heap.get?_push_size h5 (o := go) (by rw [← hG]; rfl)
          rwa [sz5] at this
        · refine gStart (A := A.in1.in1) (cenv := genEnv scope (closOf f.env scope.names []) C code builtinsNs f.env) a.han h.tgt ?_ h.co (ne1 ltl).1 (ne1 ltl).2.1 (Nat.ne_of_lt hIC) (ne1 ltdc).1 (ne1 ltdc).2.1 ?_ s'' s'' st'' (gSince.refl _ _ _)
          · simp [genEnv, h.kind]
          · intro A' E' v s m hA' hm hmx hcell
            have hkf : (genEnv scope (closOf f.env scope.names []) C code builtinsNs f.env).scope.kind = .function := h.kind
            refine Tuple_ (PyProof.Rows.args_cons (wpAny_Name (wpAny_loadName_local hkf h.tgt hm hmx ?_) h.xd))
            refine PyProof.Rows.args_cons (wpAny_Name (wpAny_loadName_free hkf h.fr hcy hcell ?_ h.yc) h.yd)
            refine PyProof.Rows.args_nil ?_
            refine wpAny_newObj_type ?_ (by show [v, rdv].toArray.size ≤ sizeLine; simp [sizeLine_eq])
            exact ⟨⟨_, _, rfl, hm.lt, Heap.get?_none_of_le (Nat.le_refl _), Heap.get?_push_size _ rfl⟩, _, _, rfl, fun b ob e => Heap.get?_push_of_some _ e⟩
      · exact up _ _ hPS ixs
      · have h1 := vxs.length; rw [size_of vys, h1]; omega
      · exact g4.gens.push rfl
      · intro s' ts n' hS' hlen' htup hnd hkeep hbare hos
        obtain ⟨cs, rfl⟩ : ∃ cs : List Addr, ts = cs.map Value.ref := by
          refine ⟨ts.map adr, ?_⟩
          rw [List.map_map]
          have key : ∀ z ∈ ts, (Value.ref ∘ adr) z = id z := fun z hz => by
            obtain ⟨j, hj⟩ := List.getElem?_of_mem hz
            obtain ⟨_, _, c, _, rfl, _⟩ := htup j z hj
            rfl
          exact ((List.map_congr_left key).trans (List.map_id ts)).symm
        have hcl : cs.length = ys.length := by
          have : cs.length = rys.length := by simpa using hlen'
          rw [this, vys.length]
        have hcn : cs.Nodup := nodup_of_map hnd
        have tup : ∀ (j : Nat) (b : Addr), cs[j]? = some b → ∃ x m, rys[j]? = some x ∧ C < b ∧ s'.heap.get? b = some { cls := .type "tuple", data := .seq #[x, rdv] m } := fun j b hj => by
          obtain ⟨x, hx, c', m, hc', e1, _, e3⟩ := htup j (.ref b) (by rw [List.getElem?_map, hj]; rfl)
          cases hc'
          exact ⟨x, m, by simpa using hx, e1, e3⟩
        have csgt : ∀ b ∈ cs, C < b := fun b hb => by
          obtain ⟨j, hj⟩ := List.getElem?_of_mem hb
          obtain ⟨_, _, _, e, _⟩ := tup j b hj
          exact e
        have csI : ∀ b ∈ cs, I < b := fun b hb => Nat.lt_trans hIC (csgt b hb)
        have deadH : ∀ b, I ≤ b → H2 b = none := fun b hb => by
          cases q : H2 b with
          | none => rfl
          | some ob => exact absurd (g2.lt q) (by rw [hI]; exact Nat.not_lt.mpr hb)
        have deadO : ∀ b, I ≤ b → own2 b = none := fun b hb => by
          cases q : own2 b with
          | none => rfl
          | some ob => obtain ⟨_, _, _, z⟩ := g2.aux _ _ q; exact absurd (Heap.lt_size z) (by rw [hI]; exact Nat.not_lt.mpr hb)
        have dead0 : ∀ b, I ≤ b → cx.h0.get? b = none := fun b hb => by
          cases q : cx.h0.get? b with
          | none => rfl
          | some ob => exact absurd (Heap.lt_size (g2.base _ _ q)) (by rw [hI]; exact Nat.not_lt.mpr hb)
        have dead2 : ∀ b, I ≤ b → s2.heap.get? b = none := fun b hb => Heap.get?_none_of_le (by rw [hI]; exact hb)
        -- what stood stands
        have keep2 : ∀ b ob, b ≠ P → b ≠ S → s2.heap.get? b = some ob → s'.heap.get? b = some ob := fun b ob hb hbS e => by
          have hlt : b < I := hI ▸ Heap.lt_size e
          exact hkeep b ob (by simp [(ne1 hlt).1, (ne1 hlt).2.1, hbS]) (up b ob hb e)
        have keep4 : ∀ b ob, b < I → b ≠ S → h4.get? b = some ob → s'.heap.get? b = some ob := fun b ob hlt hbS e =>
          hkeep b ob (by simp [(ne1 hlt).1, (ne1 hlt).2.1, hbS]) (kp46 b ob e)
        have hS3 : Holds cx own2 S s'.heap (.list (xs ++ cs.map .ref)) := by
          refine ⟨_, _, vxs.append ?_, hS'⟩
          have : ∀ l : List Addr, VRs (l.map V.ref) (l.map Value.ref) := fun l => by
            induction l with
            | nil => exact .nil
            | cons b l ih => exact .cons (.ref b) ih
          exact this cs
        have gA : GRel cx own2 (H2.set S (.list (xs ++ cs.map .ref))) s' := GRel.put (s := { s2 with heap := h4, toks := tk4 }) g4 hxs (by intro _; nofun) (fun b ob hbS hb e => by
          refine keep4 b ob ?_ hbS e
          rcases hb with hb | hb | hb
          · exact Nat.lt_of_not_le fun q => hb (deadH b q)
          · exact Nat.lt_of_not_le fun q => hb (deadO b q)
          · exact Nat.lt_of_not_le fun q => hb (dead0 b q)) hS3 hos hbare
        have hScs : S ∉ cs := fun m => absurd (csI S m) (Nat.not_lt.mpr (Nat.le_of_lt ltS))
        have gB := gA.tups (cs := cs) (ys := ys) (dv := dv) hcn (fun b hb => ⟨by
            have hbS : b ≠ S := by rintro rfl; exact hScs hb
            rw [AH.set_ne _ _ hbS]; exact deadH b (Nat.le_of_lt (csI b hb)), deadO b (Nat.le_of_lt (csI b hb)), dead0 b (Nat.le_of_lt (csI b hb)), Nat.lt_trans (hI ▸ g2.hiSys) (csI b hb)⟩) fun j b y hj hy => by
          obtain ⟨x, m, hx, _, e⟩ := tup j b hj
          obtain ⟨r, hr, hvr⟩ := vys.get hy
          rw [hx] at hr; cases hr
          exact ⟨[x, rdv], m, .cons hvr (.cons hvd .nil), e⟩
        rw [tups_comm hScs] at gB
        have xB : Ext own2 H2 s2.heap own2 ((tupsAH H2 cs ys dv).set S (.list (xs ++ cs.map .ref))) s'.heap := ⟨fun b ob e1 e2 e3 => by
          have hlt : b < I := hI ▸ Heap.lt_size e3
          have hbS : b ≠ S := by rintro rfl; rw [hxs] at e1; cases e1
          have hbP : b ≠ P := by rintro rfl; rw [hP] at e1; cases e1
          have hbc : b ∉ cs := fun m => absurd (csI b m) (Nat.not_lt.mpr (Nat.le_of_lt hlt))
          exact ⟨by rw [AH.set_ne _ _ hbS, tupsAH_ne hbc]; exact e1, e2, keep2 b ob hbP hbS e3⟩, fun b c' l' k' ob e1 e3 => by
          have hlt : b < I := hI ▸ Heap.lt_size e3
          have hbS : b ≠ S := by rintro rfl; rw [hxs] at e1; cases e1
          have hbc : b ∉ cs := fun m => absurd (csI b m) (Nat.not_lt.mpr (Nat.le_of_lt hlt))
          have e5 : ((tupsAH H2 cs ys dv).set S (.list (xs ++ cs.map .ref))) b = some (.tab c' l' k') := by rw [AH.set_ne _ _ hbS, tupsAH_ne hbc]; exact e1
          exact ⟨e5, (gB.obj _ _ e5).live⟩⟩
        exact ⟨.next, ρ, own2, _, .next, gB, ((x1.trans x2).trans xB).toW, F2.ext ok xB, q cs hcl hcn fun b hb => deadH b (Nat.le_of_lt (csI b hb))⟩
    | _ => exact t2.elim
  | _ => exact t0.elim
end
end Mine
namespace Mine

/-! what is never reached -/
def tDeadE : TE := fun _ _ _ => False
def tDeadB : TB := fun _ _ _ => False
def tDeadS : TS := fun _ _ _ => False
section
variable {cx : Cx} {sc : Scope} {nm : List Str} {d : Nat}
theorem den_dead {e : Expr} : EDen cx sc nm d e tDeadE := fun _ _ _ _ _ _ _ _ _ _ _ _ t => t.elim
theorem bden_dead {e : Expr} : BDen cx sc nm d e tDeadB := fun _ _ _ _ _ _ _ _ _ _ _ _ t => t.elim
theorem s1den_dead {s : Stmt} : S1Den cx sc nm d s tDeadS := fun _ _ _ _ _ _ _ _ _ _ _ _ t => t.elim
theorem sden_dead {s : List Stmt} : SDen cx sc nm d s tDeadS := fun _ _ _ _ _ _ _ _ _ _ _ _ t => t.elim
end

theorem mem_len : (("len" : Str), Value.builtin "len") ∈ bList := by simp [bList]
theorem mem_max : (("max" : Str), Value.builtin "max") ∈ bList := by simp [bList]
theorem mem_bool : (("bool" : Str), Value.type "bool") ∈ bList := by simp [bList]

/-- the code of the one def with a generator in it -/
def codeOf0 (s : Scope) : Option Addr := if s.names.any (fun x => x.1 == (Str.ofString "maximum")) then some 42 else none

def compB (sc scope : Scope) (nm : List Str) (x : Str) (fr : List Nat) (fnm : List Str) : Bool :=
  decide (scope.kind = .function) && scope.names.all (fun y => !decide (y.2 = .cell)) && scope.names.all (fun y => !decide (y.2 = .local) || decide (scope.names.lookup y.1 = some .local)) &&
  decide (scope.names.lookup x = some .local) && scope.names.all (fun y => !decide (y.2 = .free) || decide (sc.names.lookup y.1 = some .cell)) && decide (fnm = fr.map fun i => (nm[i]?).getD Str.empty) &&
  fr.all (fun i => match nm[i]? with | some y => decide ((y, NameKind.free) ∈ scope.names) && decide ((relabelSc scope sc).names.lookup y = some .cell) | none => false) &&
  decide ((relabelSc scope sc).names.lookup x = some .local) && decide ((x :: fnm).Nodup) && (relabelSc scope sc).names.all (fun y => !decide (y.2 = .cell) || decide ((y.1, NameKind.free) ∈ scope.names))

theorem compOk_of {cx : Cx} {sc scope : Scope} {nm : List Str} {x : Str} {fr : List Nat} {fnm : List Str} (hcd : cx.codeOf = codeOf0) (h : compB sc scope nm x fr fnm = true) (hc : codeOf0 (relabelSc scope sc) = none) : CompOk cx sc scope nm x fr fnm := by
  unfold compB at h
  simp only [Bool.and_eq_true, decide_eq_true_eq, List.all_eq_true, Bool.or_eq_true, Bool.not_eq_true', decide_eq_false_iff_not] at h
  obtain ⟨⟨⟨⟨⟨⟨⟨⟨⟨h1, h2⟩, h3⟩, h4⟩, h5⟩, h6⟩, h7⟩, h8⟩, h9⟩, h10⟩ := h
  have key : ∀ y, (y, NameKind.free) ∈ scope.names → sc.names.lookup y = some .cell := fun y hy => (h5 _ hy).resolve_left fun q => q rfl
  refine ⟨h1, h2, fun y hy hl => (h3 y hy).resolve_left fun q => q hl, h4, fun y hy => .inl (key y hy), key, h6, fun i hi => ?_, h8, h9, by rw [hcd]; exact hc, fun y hy => ?_⟩
  · have := h7 i hi
    split at this
    · rename_i y hy
      simp only [Bool.and_eq_true, decide_eq_true_eq] at this
      exact ⟨y, hy, this.1, this.2⟩
    · cases this
  · have := h10 _ (mem_of_lookup hy)
    exact this.resolve_left fun q => q rfl

def genB (sc scope : Scope) (nm : List Str) (x y : Str) (iy : Nat) : Bool :=
  !scope.isCoroutine && scope.names.all (fun z => !decide (z.2 = .cell)) && decide (scope.names.lookup (".0" : Str) = some .local) && decide (scope.kind = .function) && decide (scope.names.lookup x = some .local) &&
  decide (scope.names.lookup y = some .free) && decide ((y, NameKind.free) ∈ scope.names) && scope.names.all (fun z => !decide (z.2 = .free) || decide (sc.names.lookup z.1 = some .cell)) && decide (nm[iy]? = some y) &&
  !(x == ("__debug__" : Str)) && !(y == ("__debug__" : Str)) && !(y == ("__classdict__" : Str))
theorem genOk_of {cx : Cx} {sc scope : Scope} {nm : List Str} {x y : Str} {iy : Nat} {pos : Pos} {c P : Addr} {l k : Int} (hcd : cx.codeOf = codeOf0) (h : genB sc scope nm x y iy = true) (hc : codeOf0 sc = some c) (hl : l = pos.line) (hk : k = pos.col) : GenOk cx sc scope nm x y iy pos c P l k := by
  unfold genB at h
  simp only [Bool.and_eq_true, decide_eq_true_eq, List.all_eq_true, Bool.or_eq_true, Bool.not_eq_true', decide_eq_false_iff_not] at h
  obtain ⟨⟨⟨⟨⟨⟨⟨⟨⟨⟨⟨h1, h2⟩, h3⟩, h4⟩, h5⟩, h6⟩, h7⟩, h8⟩, h9⟩, h10⟩, h11⟩, h12⟩ := h
  exact ⟨h1, h2, h3, h4, h5, h6, h7, fun z hz => (h8 _ hz).resolve_left fun q => q rfl, h9, by rw [hcd]; exact hc, hl, hk, h10, h11, h12⟩

abbrev cD : Addr := 106
abbrev cI : Addr := 162
abbrev cTD : Addr := 42
abbrev pTD : Addr := 40
end Mine
namespace Mine

abbrev S (x : String) : Str := Str.ofString x

/-! a delimiter -/
structure Dl where
  index : Nat
  marker : Str
  length : Nat
  co : Bool
  cc : Bool
  orig : Nat
  order : Nat

def dF (x : Dl) : List (Str × V) := [(Str.ofString "index", .int x.index), (Str.ofString "marker", .str x.marker), (Str.ofString "length", .int x.length), (Str.ofString "can_open", .bool x.co), (Str.ofString "can_close", .bool x.cc), (Str.ofString "orig_length", .int x.orig), (Str.ofString "order", .int x.order)]

theorem pget_hit (k : Str) (v : V) (r : List (Str × V)) : pget ((k, v) :: r) k = some v := by simp [pget]
theorem pget_miss {k x : Str} (v : V) (r : List (Str × V)) (h : x ≠ k) : pget ((x, v) :: r) k = pget r k := by simp [pget, h]

@[simp] theorem dF_index (x : Dl) : pget (dF x) (Str.ofString "index") = some (.int x.index) := by
  unfold dF; exact pget_hit ..
@[simp] theorem dF_marker (x : Dl) : pget (dF x) (Str.ofString "marker") = some (.str x.marker) := by
  unfold dF; rw [pget_miss _ _ (by decide)]; exact pget_hit ..
@[simp] theorem dF_length (x : Dl) : pget (dF x) (Str.ofString "length") = some (.int x.length) := by
  unfold dF; rw [pget_miss _ _ (by decide), pget_miss _ _ (by decide)]; exact pget_hit ..
@[simp] theorem dF_co (x : Dl) : pget (dF x) (Str.ofString "can_open") = some (.bool x.co) := by
  unfold dF; rw [pget_miss _ _ (by decide), pget_miss _ _ (by decide), pget_miss _ _ (by decide)]; exact pget_hit ..
@[simp] theorem dF_cc (x : Dl) : pget (dF x) (Str.ofString "can_close") = some (.bool x.cc) := by
  unfold dF; rw [pget_miss _ _ (by decide), pget_miss _ _ (by decide), pget_miss _ _ (by decide), pget_miss _ _ (by decide)]; exact pget_hit ..
@[simp] theorem dF_orig (x : Dl) : pget (dF x) (Str.ofString "orig_length") = some (.int x.orig) := by
  unfold dF; rw [pget_miss _ _ (by decide), pget_miss _ _ (by decide), pget_miss _ _ (by decide), pget_miss _ _ (by decide), pget_miss _ _ (by decide)]; exact pget_hit ..
@[simp] theorem dF_order (x : Dl) : pget (dF x) (Str.ofString "order") = some (.int x.order) := by
  unfold dF; rw [pget_miss _ _ (by decide), pget_miss _ _ (by decide), pget_miss _ _ (by decide), pget_miss _ _ (by decide), pget_miss _ _ (by decide), pget_miss _ _ (by decide)]; exact pget_hit ..

/-! a token, seen from above -/
inductive Sh where
  | text (x : Str)
  | node (ty : Str) (l : Addr)
def shF : Sh → List (Str × V)
  | .text x => [(Str.ofString "type", .str (Str.ofString "text")), (Str.ofString "raw", .str x)]
  | .node ty l => [(Str.ofString "type", .str ty), (Str.ofString "children", .ref l)]
def Sh.ty : Sh → Str
  | .text _ => Str.ofString "text"
  | .node ty _ => ty
def Sh.raw : Sh → Str
  | .text x => x
  | .node _ _ => Str.ofString ""
def Sh.isText : Sh → Bool
  | .text _ => true
  | .node _ _ => false
def Sh.good : Sh → Prop
  | .text _ => True
  | .node ty _ => ty ≠ Str.ofString "text"
@[simp] theorem shF_type (s : Sh) : pget (shF s) (Str.ofString "type") = some (.str s.ty) := by
  cases s <;> exact pget_hit ..
@[simp] theorem shF_raw (x : Str) : pget (shF (.text x)) (Str.ofString "raw") = some (.str x) := by
  unfold shF; rw [pget_miss _ _ (by decide)]; exact pget_hit ..
@[simp] theorem shF_kids (ty : Str) (l : Addr) : pget (shF (.node ty l)) (Str.ofString "children") = some (.ref l) := by
  unfold shF; rw [pget_miss _ _ (by decide)]; exact pget_hit ..
@[simp] theorem shF_nokids (x : Str) : pget (shF (.text x)) (Str.ofString "children") = none := by
  unfold shF; rw [pget_miss _ _ (by decide), pget_miss _ _ (by decide)]; rfl
@[simp] theorem shF_emph (s : Sh) : pget (shF s) (Str.ofString "_emphasis") = none := by
  cases s <;> (unfold shF; rw [pget_miss _ _ (by decide), pget_miss _ _ (by decide)]; rfl)
@[simp] theorem shF_auto (s : Sh) : pget (shF s) (Str.ofString "_autolink") = none := by
  cases s <;> (unfold shF; rw [pget_miss _ _ (by decide), pget_miss _ _ (by decide)]; rfl)
theorem Sh.ty_text {s : Sh} (h : s.good) : (s.ty == Str.ofString "text") = s.isText := by
  cases s with
  | text x => simp [Sh.ty, Sh.isText]
  | node ty l =>
    have h' : ty ≠ Str.ofString "text" := h
    simpa [Sh.ty, Sh.isText] using h'

def tokAt (H : AH) (a : Addr) (s : Sh) : Prop := H a = some (.dict (shF s)) ∧ s.good
def Grow (H H' : AH) : Prop := ∀ a o, H a = some o → H' a = some o
theorem Grow.refl (H : AH) : Grow H H := fun _ _ e => e
theorem Grow.trans {H1 H2 H3 : AH} (x : Grow H1 H2) (y : Grow H2 H3) : Grow H1 H3 := fun a o e => y a o (x a o e)
theorem Grow.set {H : AH} {c : Addr} {o : MO} (h : H c = none) : Grow H (H.set c o) := fun a o' e => by
  have : a ≠ c := by rintro rfl; rw [h] at e; cases e
  rw [AH.set_ne _ _ this]; exact e
theorem tokAt.grow {H H' : AH} {a s} (x : tokAt H a s) (g : Grow H H') : tokAt H' a s := ⟨g _ _ x.1, x.2⟩

inductive Toks (H : AH) : List V → List Sh → Prop
  | nil : Toks H [] []
  | cons {a s vs ss} : tokAt H a s → Toks H vs ss → Toks H (.ref a :: vs) (s :: ss)
theorem Toks.grow {H H' : AH} (g : Grow H H') : ∀ {vs ss}, Toks H vs ss → Toks H' vs ss
  | _, _, .nil => .nil
  | _, _, .cons h1 h2 => .cons (h1.grow g) (h2.grow g)
theorem Toks.length {H : AH} : ∀ {vs ss}, Toks H vs ss → vs.length = ss.length
  | _, _, .nil => rfl
  | _, _, .cons h1 h2 => by simp [h2.length]
theorem Toks.get {H : AH} : ∀ {vs ss}, Toks H vs ss → ∀ {i : Nat} {s}, ss[i]? = some s → ∃ a, vs[i]? = some (.ref a) ∧ tokAt H a s
  | _, _, .nil, i, s, h => by simp at h
  | _, _, .cons h1 h2, 0, s, h => by simp at h; subst h; exact ⟨_, rfl, h1⟩
  | _, _, .cons h1 h2, i + 1, s, h => by
    simp only [List.getElem?_cons_succ] at h ⊢
    exact h2.get h
theorem Toks.take {H : AH} : ∀ {vs ss} (n : Nat), Toks H vs ss → Toks H (vs.take n) (ss.take n)
  | _, _, 0, _ => by simpa using Toks.nil
  | _, _, n + 1, .nil => by simpa using Toks.nil
  | _, _, n + 1, .cons h1 h2 => by simpa using Toks.cons h1 (h2.take n)
theorem Toks.drop {H : AH} : ∀ {vs ss} (n : Nat), Toks H vs ss → Toks H (vs.drop n) (ss.drop n)
  | _, _, 0, h => by simpa using h
  | _, _, n + 1, .nil => by simpa using Toks.nil
  | _, _, n + 1, .cons h1 h2 => by simpa using h2.drop n
theorem Toks.append {H : AH} : ∀ {vs ss vs' ss'}, Toks H vs ss → Toks H vs' ss' → Toks H (vs ++ vs') (ss ++ ss')
  | _, _, _, _, .nil, h => h
  | _, _, _, _, .cons h1 h2, h => .cons h1 (h2.append h)
theorem Toks.slice {H : AH} {vs ss} (h : Toks H vs ss) (lo hi : Option Int) : Toks H (sliceV vs lo hi) (sliceV ss lo hi) := by
  unfold sliceV; rw [h.length]; exact (h.drop _).take _
theorem Toks.getV {H : AH} {vs ss} (h : Toks H vs ss) {i : Int} {s : Sh} (e : Mine.getV ss i = some s) : ∃ a, Mine.getV vs i = some (.ref a) ∧ tokAt H a s := by
  unfold Mine.getV at e ⊢
  rw [h.length]
  split at e
  · rename_i h0
    rw [if_pos h0]; exact h.get e
  · rename_i h0
    rw [if_neg h0]
    split at e
    · rename_i h1
      rw [if_pos h1]; exact h.get e
    · cases e

/-! the small functions -/
def P_text_raw : FnP := fun vs H Q => ∃ a s, vs = [.ref a] ∧ tokAt H a s ∧ Q (.str s.raw) H
def P_srclen : FnP := fun vs H Q => ∃ a x, vs = [.ref a] ∧ tokAt H a (.text x) ∧ x.length < 1000000 ∧ Q (.int x.length) H
def P_clean : FnP := fun vs H Q => ∃ a s, vs = [.ref a] ∧ tokAt H a s ∧ Q (.ref a) H
def P_entity : FnP := fun vs H Q => ∃ l r, vs = [.str l, .str r] ∧ Txt.endswith l (Str.ofString "&") = false ∧ Q (.bool false) H
def canMatch (x y : Dl) : Bool := if x.cc || y.co then (x.orig + y.orig) % 3 != 0 || (x.orig % 3 == 0 && y.orig % 3 == 0) else true
def isDl (H : AH) (a : Addr) (x : Dl) : Prop := H a = some (.inst cD (dF x))
def P_can_match : FnP := fun vs H Q => ∃ a b x y, vs = [.ref a, .ref b] ∧ isDl H a x ∧ isDl H b y ∧ Q (.bool (canMatch x y)) H
def isPunct (c : Str) : Bool := !Txt.isspace c && !Txt.isalnum c
def P_is_punct : FnP := fun vs H Q => ∃ c, vs = [.str c] ∧ Q (.bool (isPunct c)) H

end Mine
namespace Mine
/-- bounds, held together -/
def Bnd (n : Int) : Prop := -(2 ^ 62) < n ∧ n < 2 ^ 62
def L62 (n : Nat) : Prop := n < 2 ^ 62
def L24 (n : Nat) : Prop := n ≤ 2 ^ 24
def M24 (n : Nat) : Prop := n < 2 ^ 24
def L20 (n : Nat) : Prop := n ≤ 2 ^ 20
theorem Bnd.of {n : Int} (h1 : -1000000 ≤ n) (h2 : n ≤ 1000000) : Bnd n := ⟨by omega, by omega⟩
theorem L62.of {n : Nat} (h : n ≤ 1000000) : L62 n := by unfold L62; omega
theorem L24.of {n : Nat} (h : n ≤ 1000000) : L24 n := by unfold L24; omega
theorem M24.of {n : Nat} (h : n ≤ 1000000) : M24 n := by unfold M24; omega
theorem L20.of {n : Nat} (h : n ≤ 1000000) : L20 n := by unfold L20; omega
@[simp] theorem L24_0 : L24 0 := by unfold L24; omega
@[simp] theorem M24_0 : M24 0 := by unfold M24; omega
@[simp] theorem L62_0 : L62 0 := by unfold L62; omega
@[simp] theorem L20_0 : L20 0 := by unfold L20; omega
@[simp] theorem L24_1 : L24 1 := by unfold L24; omega
@[simp] theorem M24_1 : M24 1 := by unfold M24; omega
@[simp] theorem L62_1 : L62 1 := by unfold L62; omega
@[simp] theorem L20_1 : L20 1 := by unfold L20; omega
@[simp] theorem L24_2 : L24 2 := by unfold L24; omega
@[simp] theorem M24_2 : M24 2 := by unfold M24; omega
@[simp] theorem L62_2 : L62 2 := by unfold L62; omega
@[simp] theorem L20_2 : L20 2 := by unfold L20; omega
@[simp] theorem L24_3 : L24 3 := by unfold L24; omega
@[simp] theorem M24_3 : M24 3 := by unfold M24; omega
@[simp] theorem L62_3 : L62 3 := by unfold L62; omega
@[simp] theorem L20_3 : L20 3 := by unfold L20; omega
@[simp] theorem L24_4 : L24 4 := by unfold L24; omega
@[simp] theorem M24_4 : M24 4 := by unfold M24; omega
@[simp] theorem L62_4 : L62 4 := by unfold L62; omega
@[simp] theorem L20_4 : L20 4 := by unfold L20; omega
@[simp] theorem L24_5 : L24 5 := by unfold L24; omega
@[simp] theorem M24_5 : M24 5 := by unfold M24; omega
@[simp] theorem L62_5 : L62 5 := by unfold L62; omega
@[simp] theorem L20_5 : L20 5 := by unfold L20; omega
@[simp] theorem Bnd_0 : Bnd 0 := by unfold Bnd; omega
@[simp] theorem Bnd_1 : Bnd 1 := by unfold Bnd; omega
@[simp] theorem Bnd_2 : Bnd 2 := by unfold Bnd; omega
@[simp] theorem Bnd_3 : Bnd 3 := by unfold Bnd; omega
@[simp] theorem Bnd_m1 : Bnd (-1) := by unfold Bnd; omega
section
variable {i j : Nat} {ρ : Loc} {H : AH} {Q : V → AH → Prop} {QB : Bool → AH → Prop} {QS : Fl → Loc → AH → Prop} {v v1 v2 : V} {T T1 T2 T3 : TE} {C : TB} {S1 S2 : TS} {P : BinP} {PC : CmpP} {Ts : List TE} {Cs : List TB} {F : FnP} {U : UnP}
@[simp] theorem s_tVar : tVar i ρ H Q = ∃ v, ρ[i]? = some (some v) ∧ Q v H := rfl
@[simp] theorem s_tK : tK v ρ H Q = Q v H := rfl
@[simp] theorem s_tBin : tBin P T1 T2 ρ H Q = T1 ρ H fun v1 H1 => T2 ρ H1 fun v2 H2 => P v1 v2 H2 Q := rfl
@[simp] theorem s_tCmp : tCmp PC T1 T2 ρ H QB = T1 ρ H fun v1 H1 => T2 ρ H1 fun v2 H2 => PC v1 v2 H2 QB := rfl
@[simp] theorem s_tCmpE : tCmpE PC T1 T2 ρ H Q = T1 ρ H fun v1 H1 => T2 ρ H1 fun v2 H2 => PC v1 v2 H2 fun b H3 => Q (.bool b) H3 := rfl
@[simp] theorem s_tTest : tTest T ρ H QB = T ρ H fun v H1 => tTruth v H1 QB := rfl
@[simp] theorem s_tNotB : tNotB C ρ H QB = C ρ H fun b H1 => QB (!b) H1 := rfl
@[simp] theorem s_tNotE : tNotE T ρ H Q = T ρ H fun v H1 => tTruth v H1 fun b H2 => Q (.bool (!b)) H2 := rfl
@[simp] theorem s_tAndB0 : tAndB [] ρ H QB = QB true H := rfl
@[simp] theorem s_tAndB : tAndB (C :: Cs) ρ H QB = C ρ H fun b H1 => if b = true then tAndB Cs ρ H1 QB else QB false H1 := rfl
@[simp] theorem s_tOrB0 : tOrB [] ρ H QB = QB false H := rfl
@[simp] theorem s_tOrB : tOrB (C :: Cs) ρ H QB = C ρ H fun b H1 => if b = true then QB true H1 else tOrB Cs ρ H1 QB := rfl
@[simp] theorem s_tAndE0 : tAndE T [] ρ H Q = T ρ H Q := rfl
@[simp] theorem s_tAndE : tAndE T (T1 :: Ts) ρ H Q = T ρ H fun v H1 => tTruth v H1 fun b H2 => if b = true then tAndE T1 Ts ρ H2 Q else Q v H2 := rfl
@[simp] theorem s_tOrE0 : tOrE T [] ρ H Q = T ρ H Q := rfl
@[simp] theorem s_tOrE : tOrE T (T1 :: Ts) ρ H Q = T ρ H fun v H1 => tTruth v H1 fun b H2 => if b = true then Q v H2 else tOrE T1 Ts ρ H2 Q := rfl
@[simp] theorem s_tIf : tIf C T1 T2 ρ H Q = C ρ H fun b H1 => if b = true then T1 ρ H1 Q else T2 ρ H1 Q := rfl
@[simp] theorem s_tNeg : tNeg T ρ H Q = T ρ H fun v H1 => match v with | .int i => Q (.int (-i)) H1 | _ => False := rfl
@[simp] theorem s_tMeth0 : tMeth0 U T ρ H Q = T ρ H fun v H1 => U v H1 Q := rfl
@[simp] theorem s_tMeth1 {P0 : V → AH → Prop} : tMeth1 P0 P T T1 ρ H Q = T ρ H fun v H1 => P0 v H1 ∧ T1 ρ H1 fun v2 H2 => P v v2 H2 Q := rfl
@[simp] theorem s_tAttr {C : Addr} {n : Str} : tAttr C n T ρ H Q = T ρ H fun v H1 => pAttr C n v H1 Q := rfl
@[simp] theorem s_tAll0 {QL : List V → AH → Prop} : tAll [] ρ H QL = QL [] H := rfl
@[simp] theorem s_tAll {QL : List V → AH → Prop} : tAll (T :: Ts) ρ H QL = T ρ H fun v H1 => tAll Ts ρ H1 fun vs H2 => QL (v :: vs) H2 := rfl
@[simp] theorem s_tCall : tCall F Ts ρ H Q = tAll Ts ρ H fun vs H1 => F vs H1 Q := rfl
@[simp] theorem s_tTuple : tTuple Ts ρ H Q = tAll Ts ρ H fun vs H1 => L24 vs.length ∧ ∀ c, H1 c = none → Q (.ref c) (H1.set c (.tup vs)) := rfl
@[simp] theorem s_tList : tList Ts ρ H Q = tAll Ts ρ H fun vs H1 => L24 vs.length ∧ ∀ c, H1 c = none → Q (.ref c) (H1.set c (.list vs)) := rfl
@[simp] theorem s_tDict2 {k1 k2 : Str} : tDict2 k1 T1 k2 T2 ρ H Q = T1 ρ H fun v1 H1 => T2 ρ H1 fun v2 H2 => ∀ c, H2 c = none → Q (.ref c) (H2.set c (.dict [(k1, v1), (k2, v2)])) := rfl
@[simp] theorem s_tBots : tBots ρ H Q = ∀ c, H c = none → Q (.ref c) (H.set c (.bots [])) := rfl
@[simp] theorem s_tMCall {C : Addr} {n : Str} : tMCall C n F T Ts ρ H Q = T ρ H fun v H1 => match v with
  | .ref a => (∃ fs, H1 a = some (.inst C fs) ∧ pget fs n = none) ∧ tAll Ts ρ H1 fun vs H2 => F (.ref a :: vs) H2 Q
  | _ => False := rfl
@[simp] theorem s_tNil : tNil ρ H QS = QS .next ρ H := rfl
@[simp] theorem s_tSeq : tSeq S1 S2 ρ H QS = S1 ρ H fun fl ρ1 H1 => match fl with
  | .next => S2 ρ1 H1 QS
  | .brk => QS .brk ρ1 H1
  | .cont => QS .cont ρ1 H1
  | .ret v => QS (.ret v) ρ1 H1 := rfl
@[simp] theorem s_tIfS : tIfS C S1 S2 ρ H QS = C ρ H fun b H1 => if b = true then S1 ρ H1 QS else S2 ρ H1 QS := rfl
@[simp] theorem s_tSet : tSet i T ρ H QS = T ρ H fun v H1 => QS .next (ρ.set i (some v)) H1 := rfl
@[simp] theorem s_tRet : tRet T ρ H QS = T ρ H fun v H1 => QS (.ret v) ρ H1 := rfl
@[simp] theorem s_tRet0 : tRet0 ρ H QS = QS (.ret .none) ρ H := rfl
@[simp] theorem s_tCont : tCont ρ H QS = QS .cont ρ H := rfl
@[simp] theorem s_tBrk : tBrk ρ H QS = QS .brk ρ H := rfl
@[simp] theorem s_tExpr : tExpr T ρ H QS = T ρ H fun v H1 => (match v with | .none => True | _ => False) ∧ QS .next ρ H1 := rfl
@[simp] theorem s_tAug : tAug i P T ρ H QS = ∃ v, ρ[i]? = some (some v) ∧ T ρ H fun v2 H1 => P v v2 H1 fun r H2 => QS .next (ρ.set i (some r)) H2 := rfl
@[simp] theorem s_tSetItem : tSetItem T T1 T2 ρ H QS = T ρ H fun v H1 => T1 ρ H1 fun ov H2 => T2 ρ H2 fun iv H3 => pStore ov iv v H3 fun H4 => QS .next ρ H4 := rfl
@[simp] theorem s_tSetBots : tSetBots T T1 T2 ρ H QS = T ρ H fun v H1 => T1 ρ H1 fun ov H2 => T2 ρ H2 fun iv H3 => pStoreB ov iv v H3 fun H4 => QS .next ρ H4 := rfl
@[simp] theorem s_tAugItem : tAugItem T i P T1 ρ H QS = T ρ H fun ov H1 => ∃ iv, ρ[i]? = some (some iv) ∧ pItem ov iv H1 fun old H2 => T1 ρ H2 fun v H3 => P old v H3 fun r H4 => pStore ov iv r H4 fun H5 => QS .next ρ H5 := rfl
@[simp] theorem s_tSetAttr {C : Addr} {n : Str} : tSetAttr C n T T1 ρ H QS = T ρ H fun v H1 => T1 ρ H1 fun ov H2 => pSetAttr C n ov v H2 fun H3 => QS .next ρ H3 := rfl
@[simp] theorem s_tAugAttr {C : Addr} {n : Str} : tAugAttr C n T P T1 ρ H QS = T ρ H fun ov H1 => pAttr C n ov H1 fun old H2 => T1 ρ H2 fun v H3 => P old v H3 fun r H4 => pSetAttr C n ov r H4 fun H5 => QS .next ρ H5 := rfl
@[simp] theorem s_tUnpack {is : List Nat} : tUnpack is T ρ H QS = T ρ H fun v H1 => match v with
  | .ref t => ∃ vs, H1 t = some (.tup vs) ∧ vs.length = is.length ∧ QS .next (setAll ρ is vs) H1
  | _ => False := rfl
@[simp] theorem s_retR {Q : V → AH → Prop} : retQ Q (.ret v) ρ H = Q v H := rfl
@[simp] theorem s_retN {Q : V → AH → Prop} : retQ Q .next ρ H = Q .none H := rfl
@[simp] theorem s_truN : tTruth .none H QB = QB false H := rfl
@[simp] theorem s_truB {b : Bool} : tTruth (.bool b) H QB = QB b H := rfl
@[simp] theorem s_truI {n : Int} : tTruth (.int n) H QB = QB (n != 0) H := rfl
@[simp] theorem s_truS {x : Str} : tTruth (.str x) H QB = (L62 x.length ∧ QB ((x.length : Int) != 0) H) := rfl
@[simp] theorem s_partN {QO : Option Int → AH → Prop} : tPart none ρ H QO = QO none H := rfl
@[simp] theorem s_partS {QO : Option Int → AH → Prop} : tPart (some T) ρ H QO = T ρ H fun v H1 => match v with | .int i => QO (some i) H1 | _ => False := rfl
@[simp] theorem s_eqS {x y : Str} : pEqS (.str x) (.str y) H QB = QB (x == y) H := rfl
@[simp] theorem s_neS {x y : Str} : pNeS (.str x) (.str y) H QB = QB (x != y) H := rfl
@[simp] theorem s_addI {m n : Int} : pAddI (.int m) (.int n) H Q = Q (.int (m + n)) H := rfl
@[simp] theorem s_subI {m n : Int} : pSubI (.int m) (.int n) H Q = Q (.int (m - n)) H := rfl
@[simp] theorem s_modI {m n : Int} : pModI (.int m) (.int n) H Q = (n ≠ 0 ∧ Q (.int (m.fmod n)) H) := rfl
@[simp] theorem s_attrR {C a : Addr} {n : Str} : pAttr C n (.ref a) H Q = ∃ fs x, H a = some (.inst C fs) ∧ pget fs n = some x ∧ Q x H := rfl
@[simp] theorem s_setAttrR {C a : Addr} {n : Str} {QH : AH → Prop} : pSetAttr C n (.ref a) v H QH = ∃ fs, H a = some (.inst C fs) ∧ fs.length ≤ 100 ∧ QH (H.set a (.inst C (pput fs n v))) := rfl
@[simp] theorem s_itemI {a : Addr} {n : Int} : pItem (.ref a) (.int n) H Q = (Bnd n ∧ ∃ xs x, (H a = some (.list xs) ∨ H a = some (.tup xs)) ∧ getV xs n = some x ∧ Q x H) := by
  show (_ ∧ _ ∧ _) = _
  rw [Bnd, and_assoc]
@[simp] theorem s_itemK {a : Addr} {k : Str} : pItem (.ref a) (.str k) H Q = ∃ es v, H a = some (.dict es) ∧ pget es k = some v ∧ Q v H := rfl
@[simp] theorem s_itemS {x : Str} {n : Int} : pItem (.str x) (.int n) H Q = (Bnd n ∧ ∃ c, getV x.cps.toList n = some c ∧ Q (.str ⟨#[c]⟩) H) := by
  show (_ ∧ _ ∧ _) = _
  rw [Bnd, and_assoc]
@[simp] theorem s_lenS {x : Str} : pLen [.str x] H Q = (L62 x.length ∧ Q (.int x.length) H) := rfl
@[simp] theorem s_lenR {a : Addr} : pLen [.ref a] H Q = ∃ xs, (H a = some (.list xs) ∨ H a = some (.ro xs)) ∧ L62 xs.length ∧ Q (.int xs.length) H := rfl
@[simp] theorem s_max {m n : Int} : pMax [.int m, .int n] H Q = Q (.int (max m n)) H := rfl
@[simp] theorem s_boolS {x : Str} : pBool [.str x] H Q = (L62 x.length ∧ Q (.bool ((x.length : Int) != 0)) H) := rfl
@[simp] theorem s_isspace {x : Str} : pIsspace (.str x) H Q = Q (.bool (Txt.isspace x)) H := rfl
@[simp] theorem s_isalnum {x : Str} : pIsalnum (.str x) H Q = Q (.bool (Txt.isalnum x)) H := rfl
@[simp] theorem s_endswith {x y : Str} : pEndswith (.str x) (.str y) H Q = Q (.bool (Txt.endswith x y)) H := rfl
@[simp] theorem s_isS {x : Str} : isS (.str x) H = True := rfl
@[simp] theorem s_isL {a : Addr} : isL (.ref a) H = ∃ xs, H a = some (.list xs) := rfl
@[simp] theorem s_append {a : Addr} : pAppend (.ref a) v H Q = ∃ xs, H a = some (.list xs) ∧ M24 xs.length ∧ Q .none (H.set a (.list (xs ++ [v]))) := rfl
@[simp] theorem s_inS {x y : Str} : pInS (.str y) (.str x) H QB = QB (strIn y x) H := rfl
@[simp] theorem s_notInS {x y : Str} : pNotInS (.str y) (.str x) H QB = QB (!strIn y x) H := rfl
@[simp] theorem s_inD {k : Str} {a : Addr} : pInD (.str k) (.ref a) H QB = ∃ es, H a = some (.dict es) ∧ QB (pget es k).isSome H := rfl
@[simp] theorem s_notInD {k : Str} {a : Addr} : pNotInD (.str k) (.ref a) H QB = ∃ es, H a = some (.dict es) ∧ QB (!(pget es k).isSome) H := rfl
@[simp] theorem s_isNone : pIsNone v .none H QB = QB (isNone v) H := rfl
@[simp] theorem s_storeI {a : Addr} {n : Int} {QH : AH → Prop} : pStore (.ref a) (.int n) v H QH = (0 ≤ n ∧ ∃ xs, H a = some (.list xs) ∧ n < xs.length ∧ L24 xs.length ∧ QH (H.set a (.list (xs.set n.toNat v)))) := rfl
@[simp] theorem s_storeK {a : Addr} {k : Str} {QH : AH → Prop} : pStore (.ref a) (.str k) v H QH = ∃ es, H a = some (.dict es) ∧ L20 es.length ∧ QH (H.set a (.dict (pput es k v))) := rfl
@[simp] theorem s_lt {m n : Int} : pLt (.int m) (.int n) H QB = QB (decide (m < n)) H := rfl
@[simp] theorem s_le {m n : Int} : pLe (.int m) (.int n) H QB = QB (decide (m ≤ n)) H := rfl
@[simp] theorem s_gt {m n : Int} : pGt (.int m) (.int n) H QB = QB (decide (n < m)) H := rfl
@[simp] theorem s_ge {m n : Int} : pGe (.int m) (.int n) H QB = QB (decide (n ≤ m)) H := rfl
@[simp] theorem s_eqI {m n : Int} : pEqI (.int m) (.int n) H QB = QB (m == n) H := rfl
@[simp] theorem s_neI {m n : Int} : pNeI (.int m) (.int n) H QB = QB (m != n) H := rfl
@[simp] theorem s_andI {m n : Int} : pAndI (.int m) (.int n) H Q = Q (.int (Builtin.bitAnd m n)) H := rfl
@[simp] theorem s_divI {m n : Int} : pDivI (.int m) (.int n) H Q = (n ≠ 0 ∧ n.natAbs < 2 ^ 62 ∧ Q (.int (m.fdiv n)) H) := rfl
@[simp] theorem s_addS {x y : Str} : pAddS (.str x) (.str y) H Q = (L24 (x.length + y.length) ∧ Q (.str (x ++ y)) H) := rfl
@[simp] theorem s_addL {a b : Addr} : pAddL (.ref a) (.ref b) H Q = ∃ xs ys, H a = some (.list xs) ∧ H b = some (.list ys) ∧ L24 (xs.length + ys.length) ∧ ∀ c, H c = none → Q (.ref c) (H.set c (.list (xs ++ ys))) := rfl
@[simp] theorem s_slice {lo hi : Option TE} : tSlice T lo hi ρ H Q = T ρ H fun v H1 => tPart lo ρ H1 fun l H2 => tPart hi ρ H2 fun u H3 => match v with
  | .str x => L24 x.length ∧ Q (.str (Txt.slice x l u)) H3
  | .ref a => ∃ xs, (H3 a = some (.list xs) ∨ H3 a = some (.ro xs)) ∧ L24 xs.length ∧ ∀ c, H3 c = none → Q (.ref c) (H3.set c (.list (sliceV xs l u)))
  | _ => False := rfl
@[simp] theorem s_pop {a : Addr} : pPop (.ref a) H Q = ∃ xs y, H a = some (.list (xs ++ [y])) ∧ M24 xs.length ∧ Q y (H.set a (.list xs)) := rfl
@[simp] theorem s_join {x : Str} {a : Addr} : pJoin (.str x) (.ref a) H Q = ∃ l, H a = some (.list (strvs l)) ∧ L24 ((l.map (·.length)).sum + l.length * x.length) ∧ Q (.str (Str.join x l)) H := rfl
@[simp] theorem s_notInT {x : Str} {a : Addr} : pNotInT (.str x) (.ref a) H QB = ∃ l, H a = some (.tup (strvs l)) ∧ QB (!l.any (fun y => y == x)) H := rfl
@[simp] theorem s_mulL {a : Addr} {n : Int} : pMulL (.ref a) (.int n) H Q = ∃ x, H a = some (.list [x]) ∧ 0 ≤ n ∧ n ≤ 2 ^ 24 ∧ ∀ c, H c = none → Q (.ref c) (H.set c (.list (List.replicate n.toNat x))) := rfl
@[simp] theorem s_mulI {m n : Int} : pMulL (.int m) (.int n) H Q = (Bnd n ∧ Q (.int (m * n)) H) := by
  show (_ ∧ _ ∧ _) = _
  rw [Bnd, and_assoc]
@[simp] theorem s_listRange : tListRange T ρ H Q = T ρ H fun v H1 => match v with
  | .int n => n ≤ 2 ^ 24 ∧ -(2 ^ 62) ≤ n ∧ ∀ c, H1 c = none → Q (.ref c) (H1.set c (.list (upV n.toNat)))
  | _ => False := rfl
end
theorem set_old {H : AH} {a c : Addr} {o o' : MO} (hc : H c = none) (ha : H a = some o') : (H.set c o) a = some o' := by
  rw [AH.set_ne]
  · exact ha
  · rintro rfl; rw [hc] at ha; cases ha
theorem ne_old {H : AH} {a c : Addr} {o' : MO} (hc : H c = none) (ha : H a = some o') : a ≠ c := by
  rintro rfl; rw [hc] at ha; cases ha
end Mine
namespace Mine

/-! the pure model -/
inductive Nd where
  | text (x : Str)
  | node (ty : Str) (kids : List Nd)
def Nd.raw : Nd → Str
  | .text x => x
  | .node _ _ => Str.ofString ""
def Nd.isText : Nd → Bool
  | .text _ => true
  | .node _ _ => false
def Nd.content (n : Nd) : Bool := !n.isText || n.raw != Str.ofString ""

mutual
def depthN : Nd → Nat
  | .text _ => 0
  | .node _ ks => 1 + depthL ks
def depthL : List Nd → Nat
  | [] => 0
  | n :: r => max (depthN n) (depthL r)
end
mutual
def sizeN : Nd → Nat
  | .text _ => 1
  | .node _ ks => 1 + sizeL ks
def sizeL : List Nd → Nat
  | [] => 0
  | n :: r => sizeN n + sizeL r
end

/-! the delimiters -/
def okOpener (c x : Dl) : Bool := x.marker == c.marker && x.co && decide (0 < x.length) && canMatch x c
def findOp (ds : List Dl) (c : Dl) (ob : Nat) : Nat → Option Nat
  | 0 => none
  | k + 1 => if k < ob then none else match ds[k]? with
    | some x => if okOpener c x then some k else findOp ds c ob k
    | none => none

/-! the index -/
def lowb (c : Nat) : Nat := (Builtin.bitAnd (c : Int) (-(c : Int))).toNat
def lowOk (c : Nat) : Bool := decide (Builtin.bitAnd (c : Int) (-(c : Int)) = (lowb c : Int)) && decide (0 < lowb c) && decide (lowb c ≤ c)
def qSum (tree : List Nat) : Nat → Nat → Option Nat
  | _, 0 => some 0
  | 0, _ + 1 => none
  | f + 1, c + 1 => match tree[c + 1]? with
    | none => none
    | some t => if lowOk (c + 1) then (qSum tree f (c + 1 - lowb (c + 1))).map (t + ·) else none
def addT (r : Nat) : Nat → List Nat → Nat → Option (List Nat)
  | 0, _, _ => none
  | f + 1, tree, c => match tree[c]? with
    | none => some tree
    | some t => if lowOk c then addT r f (tree.set c (t + r)) (c + lowb c) else none
def rootOf (nxt : List Nat) : Nat → Nat → Option Nat
  | 0, _ => none
  | f + 1, o => match nxt[o]? with
    | none => none
    | some p => if p = o then some o else rootOf nxt f p
def squash (root : Nat) : Nat → List Nat → Nat → Option (List Nat)
  | 0, _, _ => none
  | f + 1, nxt, o => match nxt[o]? with
    | none => none
    | some p => if p = o then some nxt else squash root f (nxt.set o root) p
/-- self._find: the root, and the table after -/
def findM (nxt : List Nat) (o : Nat) : Option (Nat × List Nat) :=
  match rootOf nxt (nxt.length + 1) o with
  | none => none
  | some r => (squash r (nxt.length + 1) nxt o).map fun n => (r, n)
def deactM (nxt : List Nat) (o : Nat) : Option (List Nat) :=
  match findM nxt (o + 1) with
  | none => none
  | some (r, n) => if o < n.length then some (n.set o r) else none
def zeroLen (ds : List Dl) (o : Nat) : Option (List Dl) := match ds[o]? with
  | none => none
  | some x => some (ds.set o { x with length := 0 })
def rangeM (e : Nat) : Nat → List Dl → List Nat → Nat → Option (List Dl × List Nat)
  | 0, _, _, _ => none
  | f + 1, ds, nxt, o => if e ≤ o then some (ds, nxt) else match zeroLen ds o with
    | none => none
    | some ds1 => match deactM nxt o with
      | none => none
      | some n1 => match findM n1 o with
        | none => none
        | some (r, n2) => rangeM e f ds1 n2 r

structure St where
  ns : List Nd
  ds : List Dl
  tree : List Nat
  nxt : List Nat

def curM (tree : List Nat) (x : Dl) : Option Nat := match qSum tree (tree.length + 1) (x.index + 1) with
  | none => none
  | some s => if s ≤ x.index then some (x.index - s) else none

def useLenN (x y : Dl) (n1 n2 : Nd) : Option Nat :=
  if (2 ≤ x.length ∧ 2 ≤ y.length) ∧ 2 ≤ n1.raw.length ∧ 2 ≤ n2.raw.length then some 2 else if 0 < n1.raw.length ∧ 0 < n2.raw.length then some 1 else none
def kidsM (ns : List Nd) (oi ci : Nat) (n1 n2 : Nd) (maxd : Nat) : Option (List Nd) :=
  let ks := (ns.drop (oi + 1)).take (ci - (oi + 1))
  if !ks.any Nd.content then none else if !n1.isText || !n2.isText then none else if 0 < maxd ∧ maxd ≤ depthL ks then none else some ks

def cutEnd (x : Str) (u : Nat) : Str := ⟨(x.cps.toList.take (x.length - u)).toArray⟩
def cutFront (x : Str) (u : Nat) : Str := ⟨(x.cps.toList.drop u).toArray⟩
def nodeTy (u : Nat) : Str := if u = 2 then Str.ofString "strong" else Str.ofString "emphasis"

/-- one end of a match gives up u of its signs -/
def spend (u : Nat) (x : Dl) : Dl := { x with length := x.length - u }
def closeDl (opens : Bool) (x : Dl) : Dl := if x.length = 0 then (if opens then { x with co := false } else { x with cc := false }) else x
def closeNxt (x : Dl) (nxt : List Nat) : Option (List Nat) := if x.length = 0 then deactM nxt x.order else some nxt

def rangeStep (st : St) (op cp k : Nat) : Option ((List Dl × List Nat) × List Nat) :=
  if k = 0 then some ((st.ds, st.nxt), st.tree) else match findM st.nxt (op + 1) with
    | none => none
    | some (r, n1) => match rangeM cp (st.ds.length + 1) st.ds n1 r with
      | none => none
      | some (ds1, n2) => match ds1[cp]? with
        | none => none
        | some y => match addT k (st.tree.length + 1) st.tree (y.index + 1) with
          | none => none
          | some t1 => some ((ds1, n2), t1)
def closeStep (ds : List Dl) (nxt : List Nat) (op cp u : Nat) : Option (List Dl × List Nat) := match ds[op]?, ds[cp]? with
  | some x, some y => if u ≤ x.length ∧ u ≤ y.length then match closeNxt (spend u x) nxt with
      | none => none
      | some n2 => match closeNxt (spend u y) n2 with
        | none => none
        | some n3 => some ((ds.set op (closeDl true (spend u x))).set cp (closeDl false (spend u y)), n3)
    else none
  | _, _ => none
def putNode (ns : List Nd) (oi ci u : Nat) (x1 x2 : Str) (kids : List Nd) : List Nd := ns.take oi ++ [.text (cutEnd x1 u), .node (nodeTy u) kids, .text (cutFront x2 u)] ++ ns.drop (ci + 1)
def applyM (st : St) (op cp oi ci u : Nat) (kids : List Nd) : Option St :=
  match st.ns[oi]?, st.ns[ci]? with
  | some (.text x1), some (.text x2) =>
    if oi + 2 ≤ ci ∧ op < cp ∧ u ≤ x1.length ∧ u ≤ x2.length then
      match rangeStep st op cp (ci - oi - 2) with
      | none => none
      | some ((ds1, n1), t1) => match closeStep ds1 n1 op cp u with
        | none => none
        | some (ds2, n3) => some ⟨putNode st.ns oi ci u x1 x2 kids, ds2, t1, n3⟩
    else none
  | _, _ => none

def botsAt (bots : List (BKey × Nat)) (k : BKey) : Nat := ((bots.find? fun x => decide (x.1 = k)).map (·.2)).getD 0
def botsPut (bots : List (BKey × Nat)) (k : BKey) (n : Nat) : List (BKey × Nat) := match bots with
  | [] => [(k, n)]
  | (x, m) :: r => if x = k then (x, n) :: r else (x, m) :: botsPut r k n

def keyOf (y : Dl) : BKey := (y.marker, ((y.length % 3 : Nat) : Int), y.co)

def procM (maxd : Nat) : Nat → St → Nat → List (BKey × Nat) → Option (List Nd)
  | 0, _, _, _ => none
  | f + 1, st, cp, bots => match st.ds[cp]? with
    | none => some st.ns
    | some y => if !y.cc || decide (y.length = 0) then procM maxd f st (cp + 1) bots
      else match findOp st.ds y (botsAt bots (keyOf y)) cp with
        | none => procM maxd f st (cp + 1) (botsPut bots (keyOf y) cp)
        | some op => match st.ds[op]? with
          | none => none
          | some x => match curM st.tree x, curM st.tree y with
            | some oi, some ci => match st.ns[oi]?, st.ns[ci]? with
              | some n1, some n2 => if oi < ci then match useLenN x y n1 n2, kidsM st.ns oi ci n1 n2 maxd with
                  | some u, some ks => match applyM st op cp oi ci u ks with
                    | none => none
                    | some st' => match st'.ds[op]?, st'.ds[cp]? with
                      | some x', some y' => if x'.co || y'.cc then procM maxd f st' (max op (botsAt bots (keyOf y))) bots else procM maxd f st' (cp + 1) bots
                      | _, _ => none
                  | _, _ => procM maxd f st (cp + 1) bots
                else none
              | _, _ => none
            | _, _ => none

def start (ns : List Nd) (ds : List Dl) : St := ⟨ns, ds, List.replicate (ns.length + 1) 0, List.range (ds.length + 1)⟩

/-! the dense road -/
def densePair (ns : List Nd) (ds : List Dl) (p : Nat) : Option (List Nd) := match ds[2 * p]?, ds[2 * p + 1]? with
  | some x, some y => if x.co && y.cc && canMatch x y && ((ns.drop (x.index + 1)).take (y.index - (x.index + 1))).any Nd.content then
      match ns[x.index + 1]? with
      | some k => if p = 0 then some [.node (Str.ofString "emphasis") [k]] else match ns[x.index - 1]? with
        | some b => some [b, .node (Str.ofString "emphasis") [k]]
        | none => none
      | none => none
    else none
  | _, _ => none
def densePairs (ns : List Nd) (ds : List Dl) : Nat → Nat → Option (List Nd)
  | _, 0 => some []
  | p, n + 1 => match densePair ns ds p, densePairs ns ds (p + 1) n with
    | some a, some b => some (a ++ b)
    | _, _ => none
def denseOk (ns : List Nd) (m : Str) : Nat → List Dl → Bool
  | _, [] => true
  | i, x :: r => x.marker == m && decide (x.length = 1) && decide (x.index = 2 * i) && (match ns[2 * i]?, ns[2 * i + 1]? with | some a, some b => a.isText && b.isText | _, _ => false) && denseOk ns m (i + 1) r
def denseM (ns : List Nd) (ds : List Dl) : Option (List Nd) := match ds with
  | [] => none
  | x :: r => if 4 ≤ ds.length ∧ (x.marker = Str.ofString "*" ∨ x.marker = Str.ofString "_") ∧ ns.length = ds.length * 2 ∧ denseOk ns x.marker 0 ds = true then
      (densePairs ns ds 0 (ds.length / 2)).map (· ++ ns.drop (4 * (ds.length / 2) - 1))
    else none

/-! the signs -/
def chS (c : Nat) : Str := ⟨#[c]⟩
def isSign (c : Nat) : Bool := c == 42 || c == 95
def prevC (src : List Nat) (s : Nat) : Nat := if 0 < s then src[s - 1]?.getD 10 else 10
def nextC (src : List Nat) (e : Nat) : Nat := src[e]?.getD 10
def canOpenM (m p n : Nat) : Bool :=
  if m == 95 && Txt.isalnum (chS p) && Txt.isalnum (chS n) then false else if Txt.isspace (chS n) then false else if isPunct (chS n) && !Txt.isspace (chS p) && !isPunct (chS p) then false else true
def canCloseM (m p n : Nat) : Bool :=
  if m == 95 && Txt.isalnum (chS p) && Txt.isalnum (chS n) then false else if Txt.isspace (chS p) then false else if isPunct (chS p) && !Txt.isspace (chS n) && !isPunct (chS n) then false else true

def strOf (l : List Nat) : Str := ⟨l.toArray⟩
/-- what comes of a text: parts and delimiters behind those that stand -/
def splitM (src : List Nat) (start : Nat) (t : List Nat) : Nat → Nat → List Nd → List Dl → Option (List Nd × List Dl)
  | 0, _, _, _ => none
  | f + 1, pos, ns, ds => match t[pos]? with
    | none => some (ns, ds)
    | some c => if !isSign c then
        let n := ((t.drop pos).takeWhile fun x => !isSign x).length
        splitM src start t f (pos + n) (ns ++ [.text (strOf ((t.drop pos).take n))]) ds
      else
        let n := ((t.drop pos).takeWhile fun x => x == c).length
        let co := canOpenM c (prevC src (start + pos)) (nextC src (start + pos + n))
        let cc := canCloseM c (prevC src (start + pos)) (nextC src (start + pos + n))
        splitM src start t f (pos + n) (ns ++ [.text (strOf ((t.drop pos).take n))]) (if co || cc then ds ++ [⟨ns.length, chS c, n, co, cc, n, ds.length⟩] else ds)

/-! the end -/
def flushM (chunks : List Str) : List Nd := if chunks = [] then [] else [.text (Str.join (Str.ofString "") chunks)]
def mergeM : List Nd → List Str → List Nd
  | [], chunks => flushM chunks
  | .text x :: r, chunks => if x = Str.ofString "" then mergeM r chunks else mergeM r (chunks ++ [x])
  | .node ty ks :: r, chunks => flushM chunks ++ .node ty ks :: mergeM r []

def hasSign (x : Str) : Bool := x.cps.toList.any isSign
/-- one token of text, enabled -/
def finM (x : Str) (maxd : Nat) (fuel : Nat) : Option (List Nd) :=
  if !hasSign x then some [.text x] else
    match splitM x.cps.toList 0 x.cps.toList (x.length + 1) 0 [] [] with
    | none => none
    | some (ns, ds) => match denseM ns ds with
      | some ns' => some (mergeM ns' [])
      | none => (procM maxd fuel (start ns ds) 0 []).map (mergeM · [])
end Mine
namespace Mine

/-! a forest in the heap, with the addresses that it takes -/
mutual
inductive RepN (H : AH) : V → Nd → List Addr → Prop
  | text {a x} : H a = some (.dict (shF (.text x))) → RepN H (.ref a) (.text x) [a]
  | node {a ty l vs ns fp} : H a = some (.dict (shF (.node ty l))) → ty ≠ Str.ofString "text" → H l = some (.list vs) → RepL H vs ns fp → RepN H (.ref a) (.node ty ns) (a :: l :: fp)
inductive RepL (H : AH) : List V → List Nd → List Addr → Prop
  | nil : RepL H [] [] []
  | cons {v n vs ns f1 f2} : RepN H v n f1 → RepL H vs ns f2 → RepL H (v :: vs) (n :: ns) (f1 ++ f2)
end
theorem RepL.frame {H H' : AH} {vs ns fp} (r : RepL H vs ns fp) (h : ∀ a ∈ fp, H' a = H a) : RepL H' vs ns fp := by
  refine RepL.rec (H := H) (motive_1 := fun v n fp _ => (∀ a ∈ fp, H' a = H a) → RepN H' v n fp) (motive_2 := fun vs ns fp _ => (∀ a ∈ fp, H' a = H a) → RepL H' vs ns fp) ?_ ?_ ?_ ?_ r h
  · intro a x e h; exact .text ((h a (by simp)).trans e)
  · intro a ty l vs ns fp e1 e2 e3 _ ih h
    exact .node ((h a (by simp)).trans e1) e2 ((h l (by simp)).trans e3) (ih fun b hb => h b (by simp [hb]))
  · intro _; exact .nil
  · intro v n vs ns f1 f2 _ _ ih1 ih2 h
    exact .cons (ih1 fun b hb => h b (by simp [hb])) (ih2 fun b hb => h b (by simp [hb]))
theorem RepN.frame {H H' : AH} {v n fp} (r : RepN H v n fp) (h : ∀ a ∈ fp, H' a = H a) : RepN H' v n fp := by
  cases r with
  | text e => exact .text ((h _ (by simp)).trans e)
  | node e1 e2 e3 r => exact .node ((h _ (by simp)).trans e1) e2 ((h _ (by simp)).trans e3) (r.frame fun b hb => h b (by simp [hb]))
theorem RepL.live {H : AH} {vs ns fp} (r : RepL H vs ns fp) : ∀ a ∈ fp, (∃ es, H a = some (.dict es)) ∨ (∃ xs, H a = some (.list xs)) := by
  refine RepL.rec (H := H) (motive_1 := fun v n fp _ => ∀ a ∈ fp, (∃ es, H a = some (.dict es)) ∨ (∃ xs, H a = some (.list xs))) (motive_2 := fun vs ns fp _ => ∀ a ∈ fp, (∃ es, H a = some (.dict es)) ∨ (∃ xs, H a = some (.list xs))) ?_ ?_ ?_ ?_ r
  · intro a x e b hb; simp at hb; subst hb; exact .inl ⟨_, e⟩
  · intro a ty l vs ns fp e1 e2 e3 _ ih b hb
    simp only [List.mem_cons] at hb
    rcases hb with rfl | rfl | hb
    · exact .inl ⟨_, e1⟩
    · exact .inr ⟨_, e3⟩
    · exact ih b hb
  · intro a ha; simp at ha
  · intro v n vs ns f1 f2 _ _ ih1 ih2 a ha
    rcases List.mem_append.mp ha with ha | ha
    · exact ih1 a ha
    · exact ih2 a ha
theorem RepL.grow {H H' : AH} {vs ns fp} (r : RepL H vs ns fp) (g : Grow H H') : RepL H' vs ns fp := r.frame fun a ha => by
  rcases r.live a ha with ⟨es, e⟩ | ⟨xs, e⟩ <;> rw [e, g _ _ e]
theorem RepL.length {H : AH} : ∀ {vs ns fp}, RepL H vs ns fp → vs.length = ns.length
  | _, _, _, .nil => rfl
  | _, _, _, .cons _ h => by simp [h.length]
theorem RepL.append {H : AH} : ∀ {vs ns fp vs' ns' fp'}, RepL H vs ns fp → RepL H vs' ns' fp' → RepL H (vs ++ vs') (ns ++ ns') (fp ++ fp')
  | _, _, _, _, _, _, .nil, h => h
  | _, _, _, _, _, _, .cons h1 h2, h => by
    rw [List.append_assoc]
    exact .cons h1 (h2.append h)
theorem RepL.split {H : AH} : ∀ (n : Nat) {vs ns fp}, RepL H vs ns fp → ∃ f1 f2, fp = f1 ++ f2 ∧ RepL H (vs.take n) (ns.take n) f1 ∧ RepL H (vs.drop n) (ns.drop n) f2
  | 0, vs, ns, fp, h => ⟨[], fp, rfl, by simpa using RepL.nil, by simpa using h⟩
  | n + 1, _, _, _, .nil => ⟨[], [], rfl, by simpa using RepL.nil, by simpa using RepL.nil⟩
  | n + 1, _, _, _, .cons (f1 := f) h1 h2 => by
    obtain ⟨f1, f2, e, r1, r2⟩ := h2.split n
    exact ⟨f ++ f1, f2, by rw [e, List.append_assoc], by simpa using RepL.cons h1 r1, by simpa using r2⟩
theorem RepL.one {H : AH} {v n fp} (r : RepN H v n fp) : RepL H [v] [n] fp := by simpa using RepL.cons r .nil

/-- seen from above -/
inductive ShN : Sh → Nd → Prop
  | text (x : Str) : ShN (.text x) (.text x)
  | node (ty : Str) (l : Addr) (ks : List Nd) : ShN (.node ty l) (.node ty ks)
inductive ShNs : List Sh → List Nd → Prop
  | nil : ShNs [] []
  | cons {s n ss ns} : ShN s n → ShNs ss ns → ShNs (s :: ss) (n :: ns)
theorem ShN.raw {s n} (h : ShN s n) : s.raw = n.raw := by cases h <;> rfl
theorem ShN.isText {s n} (h : ShN s n) : s.isText = n.isText := by cases h <;> rfl
theorem RepL.toks {H : AH} : ∀ {vs ns fp}, RepL H vs ns fp → ∃ ss, Toks H vs ss ∧ ShNs ss ns
  | _, _, _, .nil => ⟨[], .nil, .nil⟩
  | _, _, _, .cons h1 h2 => by
    obtain ⟨ss, t, s⟩ := h2.toks
    cases h1 with
    | text e => exact ⟨_, .cons ⟨e, trivial⟩ t, .cons (.text _) s⟩
    | node e1 e2 e3 _ => exact ⟨_, .cons ⟨e1, e2⟩ t, .cons (.node _ _ _) s⟩
theorem ShNs.get : ∀ {ss ns}, ShNs ss ns → ∀ {i : Nat} {n}, ns[i]? = some n → ∃ s, ss[i]? = some s ∧ ShN s n
  | _, _, .nil, i, n, h => by simp at h
  | _, _, .cons h1 h2, 0, n, h => by simp at h; subst h; exact ⟨_, rfl, h1⟩
  | _, _, .cons h1 h2, i + 1, n, h => by
    simp only [List.getElem?_cons_succ] at h ⊢
    exact h2.get h
theorem ShNs.length : ∀ {ss ns}, ShNs ss ns → ss.length = ns.length
  | _, _, .nil => rfl
  | _, _, .cons _ h => by simp [h.length]
theorem ShNs.take : ∀ {ss ns} (k : Nat), ShNs ss ns → ShNs (ss.take k) (ns.take k)
  | _, _, 0, _ => by simpa using ShNs.nil
  | _, _, k + 1, .nil => by simpa using ShNs.nil
  | _, _, k + 1, .cons h1 h2 => by simpa using ShNs.cons h1 (h2.take k)
theorem ShNs.drop : ∀ {ss ns} (k : Nat), ShNs ss ns → ShNs (ss.drop k) (ns.drop k)
  | _, _, 0, h => by simpa using h
  | _, _, k + 1, .nil => by simpa using ShNs.nil
  | _, _, k + 1, .cons h1 h2 => by simpa using h2.drop k
def Sh.content (s : Sh) : Bool := !s.isText || s.raw != Str.ofString ""
theorem ShNs.any : ∀ {ss ns}, ShNs ss ns → ss.any Sh.content = ns.any Nd.content
  | _, _, .nil => rfl
  | _, _, .cons h1 h2 => by
    simp only [List.any_cons, h2.any]
    congr 1
    unfold Sh.content Nd.content
    rw [h1.raw, h1.isText]

/-! delimiters in the heap -/
inductive Dls (H : AH) : List Addr → List Dl → Prop
  | nil : Dls H [] []
  | cons {a x as xs} : isDl H a x → Dls H as xs → Dls H (a :: as) (x :: xs)
theorem Dls.length {H : AH} : ∀ {as xs}, Dls H as xs → as.length = xs.length
  | _, _, .nil => rfl
  | _, _, .cons _ h => by simp [h.length]
theorem Dls.get {H : AH} : ∀ {as xs}, Dls H as xs → ∀ {i : Nat} {x}, xs[i]? = some x → ∃ a, as[i]? = some a ∧ isDl H a x
  | _, _, .nil, i, x, h => by simp at h
  | _, _, .cons h1 h2, 0, x, h => by simp at h; subst h; exact ⟨_, rfl, h1⟩
  | _, _, .cons h1 h2, i + 1, x, h => by
    simp only [List.getElem?_cons_succ] at h ⊢
    exact h2.get h
theorem Dls.mem {H : AH} : ∀ {as xs}, Dls H as xs → ∀ a ∈ as, ∃ x, isDl H a x
  | _, _, .cons h1 h2, a, ha => by
    rcases List.mem_cons.mp ha with rfl | ha
    · exact ⟨_, h1⟩
    · exact h2.mem a ha
theorem Dls.frame {H H' : AH} : ∀ {as xs}, Dls H as xs → (∀ a ∈ as, H' a = H a) → Dls H' as xs
  | _, _, .nil, _ => .nil
  | _, _, .cons h1 h2, h => .cons ((h _ (by simp)).trans h1) (h2.frame fun a ha => h a (by simp [ha]))
theorem Dls.grow {H H' : AH} {as xs} (d : Dls H as xs) (g : Grow H H') : Dls H' as xs := d.frame fun a ha => by
  obtain ⟨x, e⟩ := d.mem a ha
  have e' : H a = _ := e
  rw [e', g _ _ e']
theorem Dls.append {H : AH} : ∀ {as xs as' xs'}, Dls H as xs → Dls H as' xs' → Dls H (as ++ as') (xs ++ xs')
  | _, _, _, _, .nil, h => h
  | _, _, _, _, .cons h1 h2, h => .cons h1 (h2.append h)
theorem Dls.set {H : AH} : ∀ {as xs} {i : Nat} {a : Addr} {y : Dl}, Dls H as xs → as.Nodup → as[i]? = some a → Dls (H.set a (.inst cD (dF y))) as (xs.set i y)
  | _, _, i, a, y, .nil, _, h => by simp at h
  | _, _, 0, a, y, .cons h1 h2, hn, h => by
    simp only [List.getElem?_cons_zero, Option.some.injEq] at h
    subst h
    refine .cons (AH.set_self ..) (h2.frame fun b hb => AH.set_ne _ _ ?_)
    rintro rfl
    exact (List.nodup_cons.mp hn).1 hb
  | _, _, i + 1, a, y, .cons h1 h2, hn, h => by
    simp only [List.getElem?_cons_succ] at h
    refine .cons ?_ (h2.set (List.nodup_cons.mp hn).2 h)
    unfold isDl at h1 ⊢
    rw [AH.set_ne _ _ (by rintro rfl; exact (List.nodup_cons.mp hn).1 (List.mem_of_getElem? h))]
    exact h1

/-! the index in the heap -/
def natsV (l : List Nat) : List V := l.map fun (n : Nat) => V.int n
def iF (at' an : Addr) : List (Str × V) := [(Str.ofString "_tree", .ref at'), (Str.ofString "_next", .ref an)]
@[simp] theorem iF_tree (x y : Addr) : pget (iF x y) (Str.ofString "_tree") = some (.ref x) := by unfold iF; exact pget_hit ..
@[simp] theorem iF_next (x y : Addr) : pget (iF x y) (Str.ofString "_next") = some (.ref y) := by unfold iF; rw [pget_miss _ _ (by decide)]; exact pget_hit ..
theorem iF_none (x y : Addr) (k : Str) (h1 : Str.ofString "_tree" ≠ k) (h2 : Str.ofString "_next" ≠ k) : pget (iF x y) k = none := by unfold iF; rw [pget_miss _ _ h1, pget_miss _ _ h2]; rfl

theorem set_same {H : AH} {a : Addr} {o : MO} (h : H a = some o) : H.set a o = H := by
  funext b
  unfold AH.set
  by_cases e : b = a
  · subst e; rw [if_pos rfl, h]
  · rw [if_neg e]
theorem set_set {H : AH} {a : Addr} {o o' : MO} : (H.set a o).set a o' = H.set a o' := by
  funext b
  unfold AH.set
  by_cases e : b = a
  · rw [if_pos e, if_pos e]
  · rw [if_neg e, if_neg e, if_neg e]
end Mine
namespace Mine

abbrev lTD : Int := 14
abbrev kTD : Int := 25
def tabOk (H : AH) : Prop := H pTD = some (.tab cTD lTD kTD)

/-! what each def answers -/
def twoAt (H : AH) (ap : Addr) (oi ci : Int) (s1 s2 : Sh) : Prop := ∃ pv ss, H ap = some (.list pv) ∧ Toks H pv ss ∧ getV ss oi = some s1 ∧ getV ss ci = some s2 ∧ Bnd oi ∧ Bnd ci ∧ L62 s1.raw.length ∧ L62 s2.raw.length
theorem twoAt.get {H ap oi ci s1 s2} (h : twoAt H ap oi ci s1 s2) : ∃ pv a b, H ap = some (.list pv) ∧ getV pv oi = some (.ref a) ∧ getV pv ci = some (.ref b) ∧ tokAt H a s1 ∧ tokAt H b s2 ∧ Bnd oi ∧ Bnd ci ∧ L62 s1.raw.length ∧ L62 s2.raw.length := by
  obtain ⟨pv, ss, h1, h2, h3, h4, r⟩ := h
  obtain ⟨a, e1, k1⟩ := h2.getV h3
  obtain ⟨b, e2, k2⟩ := h2.getV h4
  exact ⟨pv, a, b, h1, e1, e2, k1, k2, r⟩
def P_has_strong : FnP := fun vs H Q => ∃ ap oi ci s1 s2, vs = [.ref ap, .int oi, .int ci] ∧ twoAt H ap oi ci s1 s2 ∧ Q (.bool (decide (2 ≤ s1.raw.length) && decide (2 ≤ s2.raw.length))) H
def P_has_emph : FnP := fun vs H Q => ∃ ap oi ci s1 s2, vs = [.ref ap, .int oi, .int ci] ∧ twoAt H ap oi ci s1 s2 ∧ Q (.bool (decide (0 < s1.raw.length) && decide (0 < s2.raw.length))) H
def useLen (x y : Dl) (s1 s2 : Sh) : Option Nat :=
  if (2 ≤ x.length ∧ 2 ≤ y.length) ∧ 2 ≤ s1.raw.length ∧ 2 ≤ s2.raw.length then some 2 else if 0 < s1.raw.length ∧ 0 < s2.raw.length then some 1 else none
def optV : Option Nat → V
  | none => .none
  | some n => .int n
def P_use_length : FnP := fun vs H Q => ∃ ap a b oi ci s1 s2 x y, vs = [.ref ap, .ref a, .ref b, .int oi, .int ci] ∧ twoAt H ap oi ci s1 s2 ∧ isDl H a x ∧ isDl H b y ∧ Q (optV (useLen x y s1 s2)) H
def P_init : FnP := fun vs H Q => ∃ (a : Addr) (x : Dl), vs = [.ref a, .int x.index, .str x.marker, .int x.length, .bool x.co, .bool x.cc, .int x.orig, .int x.order] ∧ H a = some (.inst cD []) ∧ Q .none (H.set a (.inst cD (dF x)))
def P_new : FnP := pNew cD P_init
def P_initidx : FnP := fun vs H Q => ∃ (a ad : Addr) (xs : List V) (n : Nat), vs = [.ref a, .ref ad, .int n] ∧ a ≠ ad ∧ H a = some (.inst cI []) ∧ H ad = some (.list xs) ∧ n ≤ 100000 ∧ xs.length ≤ 100000 ∧
  ∀ H' at' an, (∀ b o, b ≠ a → H b = some o → H' b = some o) → H at' = none → H an = none → at' ≠ an → H' at' = some (.list (natsV (List.replicate (n + 1) 0))) → H' an = some (.list (natsV (List.range (xs.length + 1)))) → H' a = some (.inst cI (iF at' an)) → Q .none H'
def P_newidx : FnP := pNew cI P_initidx
def P_has_content : FnP := fun vs H Q => ∃ (ap : Addr) (pv : List V) (ss : List Sh) (st en : Int), vs = [.ref ap, .int st, .int en] ∧ H ap = some (.list pv) ∧ Toks H pv ss ∧ pv.length ≤ 1000000 ∧ ∀ H', Grow H H' → Q (.bool ((sliceV ss (some st) (some en)).any Sh.content)) H'
def P_token_depth : FnP := fun vs H Q => ∃ l vs' ns fp, vs = [.ref l] ∧ H l = some (.list vs') ∧ RepL H vs' ns fp ∧ tabOk H ∧ sizeL ns ≤ 100000 ∧ ∀ H', Grow H H' → Q (.int (depthL ns)) H'
def P_children : FnP := fun vs H Q => ∃ (ap : Addr) (pv : List V) (ns : List Nd) (fp : List Addr) (oi ci maxd : Nat) (n1 n2 : Nd), vs = [.ref ap, .int oi, .int ci, .int maxd] ∧ H ap = some (.list pv) ∧ RepL H pv ns fp ∧ ns[oi]? = some n1 ∧ ns[ci]? = some n2 ∧ oi < ci ∧
  tabOk H ∧ sizeL ns ≤ 100000 ∧ (kidsM ns oi ci n1 n2 maxd = none → ∀ H', Grow H H' → Q .none H') ∧
  (∀ ks, kidsM ns oi ci n1 n2 maxd = some ks → ∀ H' c, Grow H H' → H c = none → H' c = some (.list ((pv.drop (oi + 1)).take (ci - (oi + 1)))) → Q (.ref c) H')
def P_find_opener : FnP := fun vs H Q => ∃ (ad a : Addr) (cp ob : Nat) (c : Dl) (das : List Addr) (ds : List Dl), vs = [.ref ad, .int cp, .ref a, .int ob] ∧ H ad = some (.list (das.map .ref)) ∧ Dls H das ds ∧ isDl H a c ∧ cp ≤ ds.length ∧ ds.length ≤ 100000 ∧ ob ≤ 100000 ∧
  (findOp ds c ob cp = none → Q .none H) ∧ (∀ k b, findOp ds c ob cp = some k → das[k]? = some b → ∀ t, H t = none → Q (.ref t) (H.set t (.tup [.int k, .ref b])))
def P_current : FnP := fun vs H Q => ∃ (ai a at' an : Addr) (tree : List Nat) (x : Dl) (n : Nat), vs = [.ref ai, .ref a] ∧ H ai = some (.inst cI (iF at' an)) ∧ H at' = some (.list (natsV tree)) ∧ tree.length ≤ 100000 ∧ isDl H a x ∧ curM tree x = some n ∧ Q (.int n) H
def P_collapse : FnP := fun vs H Q => ∃ (ai a at' an : Addr) (tree t1 : List Nat) (y : Dl) (r : Nat), vs = [.ref ai, .ref a, .int r] ∧ 0 < r ∧ H ai = some (.inst cI (iF at' an)) ∧ H at' = some (.list (natsV tree)) ∧ tree.length ≤ 100000 ∧ isDl H a y ∧ y.index ≤ 100000 ∧ addT r (tree.length + 1) tree (y.index + 1) = some t1 ∧ Q .none (H.set at' (.list (natsV t1)))
def P_find : FnP := fun vs H Q => ∃ (ai at' an : Addr) (nxt n1 : List Nat) (o r : Nat), vs = [.ref ai, .int o] ∧ H ai = some (.inst cI (iF at' an)) ∧ H an = some (.list (natsV nxt)) ∧ nxt.length ≤ 100000 ∧ findM nxt o = some (r, n1) ∧ Q (.int r) (H.set an (.list (natsV n1)))
def P_deactivate : FnP := fun vs H Q => ∃ (ai at' an : Addr) (nxt n1 : List Nat) (o : Nat), vs = [.ref ai, .int o] ∧ H ai = some (.inst cI (iF at' an)) ∧ H an = some (.list (natsV nxt)) ∧ nxt.length ≤ 100000 ∧ deactM nxt o = some n1 ∧ Q .none (H.set an (.list (natsV n1)))
def P_deactivate_range : FnP := fun vs H Q => ∃ (ai ad at' an : Addr) (nxt n1 n2 : List Nat) (ds ds' : List Dl) (das : List Addr) (s e r : Nat), vs = [.ref ai, .ref ad, .int s, .int e] ∧ H ai = some (.inst cI (iF at' an)) ∧ H an = some (.list (natsV nxt)) ∧ an ≠ ad ∧ nxt.length ≤ 100000 ∧ H ad = some (.list (das.map .ref)) ∧ Dls H das ds ∧ das.Nodup ∧ ds.length ≤ 100000 ∧
  findM nxt s = some (r, n1) ∧ rangeM e (ds.length + 1) ds n1 r = some (ds', n2) ∧ ∀ H', H' an = some (.list (natsV n2)) → Dls H' das ds' → (∀ b, b ≠ an → b ∉ das → H' b = H b) → Q .none H'

/-- all that the match of one pair turns -/
structure Wld (H : AH) (ap ad ai at' an : Addr) (das : List Addr) (st : St) (fp : List Addr) : Prop where
  parts : ∃ pv, H ap = some (.list pv) ∧ RepL H pv st.ns fp
  ls : H ad = some (.list (das.map .ref))
  dl : Dls H das st.ds
  ix : H ai = some (.inst cI (iF at' an))
  tr : H at' = some (.list (natsV st.tree))
  nx : H an = some (.list (natsV st.nxt))
  nfp : fp.Nodup
  nds : das.Nodup
  nls : [ap, ad, at', an].Nodup
  dis : ∀ a ∈ [ap, ad, at', an], a ∉ fp
  tab : tabOk H
/-- what lies outside stays -/
def KeepB (H H' : AH) : Prop := ∀ a o, H a = some o → ((∃ es, o = .bots es) ∨ ∃ vs, o = .tup vs) → H' a = some o
def P_apply : FnP := fun vs H Q => ∃ (ap ad ai at' an l : Addr) (das : List Addr) (st st' : St) (fp : List Addr) (pv : List V) (op cp oi ci u : Nat) (kids : List Nd) (a b : Addr),
  vs = [.ref ap, .ref ad, .ref ai, .ref a, .ref b, .int op, .int cp, .int oi, .int ci, .int u, .ref l] ∧ Wld H ap ad ai at' an das st fp ∧ H ap = some (.list pv) ∧ das[op]? = some a ∧ das[cp]? = some b ∧
  kids = (st.ns.drop (oi + 1)).take (ci - (oi + 1)) ∧ H l = some (.list ((pv.drop (oi + 1)).take (ci - (oi + 1)))) ∧ l ∉ fp ∧ l ∉ [ap, ad, at', an] ∧ (u = 1 ∨ u = 2) ∧ st.ns.length ≤ 10000 ∧ st.ds.length ≤ 10000 ∧ st.tree.length ≤ 10000 ∧ st.nxt.length ≤ 10000 ∧ (∀ y, st.ds[cp]? = some y → y.index ≤ 10000) ∧
  (∀ n ∈ st.ns, n.raw.length ≤ 100000) ∧ applyM st op cp oi ci u kids = some st' ∧ ∀ H' fp', Wld H' ap ad ai at' an das st' fp' → KeepB H H' → Q .none H'
def P_dense : FnP := fun vs H Q => ∃ (ap ad : Addr) (pv : List V) (ns : List Nd) (fp das : List Addr) (ds : List Dl), vs = [.ref ap, .ref ad] ∧ ap ≠ ad ∧ H ap = some (.list pv) ∧ RepL H pv ns fp ∧ fp.Nodup ∧ ap ∉ fp ∧ H ad = some (.list (das.map .ref)) ∧ Dls H das ds ∧ ns.length ≤ 10000 ∧ ds.length ≤ 10000 ∧ (∀ x ∈ ds, x.index ≤ 10000) ∧ (∀ n ∈ ns, n.raw.length ≤ 100000) ∧
  (denseM ns ds = none → ∀ H', Grow H H' → Q (.bool false) H') ∧
  (∀ ns', denseM ns ds = some ns' → ∀ H' pv' fp', H' ap = some (.list pv') → RepL H' pv' ns' fp' → Q (.bool true) H')
mutual
/-- the signs and the tokens of a forest -/
def wtN : Nd → Nat
  | .text x => 1 + x.length
  | .node _ ks => 1 + wtL ks
def wtL : List Nd → Nat
  | [] => 0
  | n :: r => wtN n + wtL r
end
def isMark (m : Str) : Prop := m = chS 42 ∨ m = chS 95
def P_process : FnP := fun vs H Q => ∃ (ap ad : Addr) (pv : List V) (ns ns' : List Nd) (fp das : List Addr) (ds : List Dl) (maxd fuel : Nat), vs = [.ref ap, .ref ad, .int maxd] ∧ ap ≠ ad ∧ H ap = some (.list pv) ∧ RepL H pv ns fp ∧ fp.Nodup ∧ ap ∉ fp ∧ ad ∉ fp ∧ H ad = some (.list (das.map .ref)) ∧ Dls H das ds ∧ das.Nodup ∧ tabOk H ∧
  procM maxd fuel (start ns ds) 0 [] = some ns' ∧ wtL ns ≤ 5000 ∧ ds.length ≤ 5000 ∧ (∀ x ∈ ds, x.index ≤ 5000 ∧ isMark x.marker) ∧ ∀ H' pv' fp', H' ap = some (.list pv') → RepL H' pv' ns' fp' → Q .none H'
def noAmp (n : Nd) : Prop := Txt.endswith n.raw (Str.ofString "&") = false
def P_merge : FnP := fun vs H Q => ∃ (ap : Addr) (pv : List V) (ns : List Nd) (fp : List Addr), vs = [.ref ap] ∧ H ap = some (.list pv) ∧ RepL H pv ns fp ∧ (∀ n ∈ ns, noAmp n) ∧ ns.length ≤ 10000 ∧ (ns.map fun n => n.raw.length).sum ≤ 100000 ∧ ∀ H' c pv' fp', H' c = some (.list pv') → RepL H' pv' (mergeM ns []) fp' → Q (.ref c) H'
def P_contains : FnP := fun vs H Q => ∃ (l a : Addr) (x : Str), vs = [.ref l] ∧ H l = some (.list [.ref a]) ∧ tokAt H a (.text x) ∧ Q (.bool (hasSign x)) H
def P_source : FnP := fun vs H Q => ∃ (l a : Addr) (x : Str), vs = [.ref l] ∧ H l = some (.list [.ref a]) ∧ tokAt H a (.text x) ∧ x.length ≤ 100000 ∧ ∀ H', Grow H H' → Q (.str x) H'
def P_next_run : FnP := fun vs H Q => ∃ (x : Str) (pos : Nat), vs = [.str x, .int pos] ∧ x.length ≤ 100000 ∧ pos ≤ x.length ∧ Q (.int ((pos + ((x.cps.toList.drop pos).takeWhile fun c => !isSign c).length : Nat) : Int)) H
def P_can_open : FnP := fun vs H Q => ∃ (src : Str) (s n m : Nat), vs = [.str src, .int s, .int n, .str (chS m)] ∧ src.length ≤ 100000 ∧ s + n ≤ src.length ∧ Q (.bool (canOpenM m (prevC src.cps.toList s) (nextC src.cps.toList (s + n)))) H
def P_can_close : FnP := fun vs H Q => ∃ (src : Str) (s n m : Nat), vs = [.str src, .int s, .int n, .str (chS m)] ∧ src.length ≤ 100000 ∧ s + n ≤ src.length ∧ Q (.bool (canCloseM m (prevC src.cps.toList s) (nextC src.cps.toList (s + n)))) H
def P_split : FnP := fun vs H Q => ∃ (a ap ad : Addr) (x : Str) (ns' : List Nd) (ds' : List Dl), vs = [.ref a, .str x, .int 0, .ref ap, .ref ad] ∧ ap ≠ ad ∧ tokAt H a (.text x) ∧ H ap = some (.list []) ∧ H ad = some (.list []) ∧ x.length ≤ 1000 ∧ splitM x.cps.toList 0 x.cps.toList (x.length + 1) 0 [] [] = some (ns', ds') ∧
  ∀ H' pv fp das, H' ap = some (.list pv) → RepL H' pv ns' fp → fp.Nodup → ap ∉ fp → ad ∉ fp → H' ad = some (.list (das.map .ref)) → Dls H' das ds' → das.Nodup → (∀ b o, b ≠ ap → b ≠ ad → H b = some o → H' b = some o) → Q .none H'
def P_finalize : FnP := fun vs H Q => ∃ (l a : Addr) (x : Str) (maxd fuel : Nat) (ns : List Nd), vs = [.ref l, .bool true, .int maxd] ∧ H l = some (.list [.ref a]) ∧ tokAt H a (.text x) ∧ tabOk H ∧ x.length ≤ 100 ∧ (∀ c ∈ x.cps.toList, c ≠ 38) ∧ finM x maxd fuel = some ns ∧
  ∀ H' c pv fp, H' c = some (.list pv) → RepL H' pv ns fp → Q (.ref c) H'
end Mine
namespace Mine
def WOk (P : FnP) (n k : Nat) (T : TS) : Prop := ∀ vs H Q, P vs H Q → vs.length = n ∧ T (vs.map some ++ List.replicate k none) H (retQ Q)
def nm_token_depth : List Str := [Str.ofString "tokens", Str.ofString "maximum", Str.ofString "stack", Str.ofString "token", Str.ofString "depth"]
def T_token_depth : TS := (tSeq (tSet 1 (tK (.int 0))) (tSeq (tSetComp 2 (tVar 0) [] tTrueB (tTuple [(tVar 0), (tK (.int 0))])) (tSeq (tWhile (tTest (tVar 2)) (tSeq (tUnpack [3, 4] (tMeth0 pPop (tVar 2))) (tSeq (tIfS (tCmp pInD (tK (.str (Str.ofString "children"))) (tVar 3)) (tSeq (tAug 4 pAddI (tK (.int 1))) (tSeq (tSet 1 (tCall pMax [(tVar 1), (tVar 4)])) (tSeq (tExtGen (tVar 2) (tBin pItem (tVar 3) (tK (.str (Str.ofString "children")))) 4 cTD pTD lTD kTD) tNil))) tNil) tNil))) (tSeq (tRet (tVar 1)) tNil))))
def nm_entity : List Str := [Str.ofString "left", Str.ofString "right"]
def T_entity : TS := (tSeq (tRet (tAndE (tMeth1 isS pEndswith (tVar 0) (tK (.str (Str.ofString "&")))) [tDeadE])) tNil)
def nm_init : List Str := [Str.ofString "self", Str.ofString "index", Str.ofString "marker", Str.ofString "length", Str.ofString "can_open", Str.ofString "can_close", Str.ofString "orig_length", Str.ofString "order"]
def T_init : TS := (tSeq (tSetAttr cD (Str.ofString "index") (tVar 1) (tVar 0)) (tSeq (tSetAttr cD (Str.ofString "marker") (tVar 2) (tVar 0)) (tSeq (tSetAttr cD (Str.ofString "length") (tVar 3) (tVar 0)) (tSeq (tSetAttr cD (Str.ofString "can_open") (tVar 4) (tVar 0)) (tSeq (tSetAttr cD (Str.ofString "can_close") (tVar 5) (tVar 0)) (tSeq (tSetAttr cD (Str.ofString "orig_length") (tVar 6) (tVar 0)) (tSeq (tSetAttr cD (Str.ofString "order") (tVar 7) (tVar 0)) tNil)))))))
def nm_initidx : List Str := [Str.ofString "self", Str.ofString "delimiters", Str.ofString "part_count"]
def T_initidx : TS := (tSeq (tSetAttr cI (Str.ofString "_tree") (tBin pMulL (tList [(tK (.int 0))]) (tBin pAddI (tVar 2) (tK (.int 1)))) (tVar 0)) (tSeq (tSetAttr cI (Str.ofString "_next") (tListRange (tBin pAddI (tCall pLen [(tVar 1)]) (tK (.int 1)))) (tVar 0)) tNil))
def nm_current : List Str := [Str.ofString "self", Str.ofString "delimiter", Str.ofString "index", Str.ofString "total", Str.ofString "cursor"]
def T_current : TS := (tSeq (tSet 2 (tAttr cD (Str.ofString "index") (tVar 1))) (tSeq (tSet 3 (tK (.int 0))) (tSeq (tSet 4 (tBin pAddI (tVar 2) (tK (.int 1)))) (tSeq (tWhile (tTest (tVar 4)) (tSeq (tAug 3 pAddI (tBin pItem (tAttr cI (Str.ofString "_tree") (tVar 0)) (tVar 4))) (tSeq (tAug 4 pSubI (tBin pAndI (tVar 4) (tNeg (tVar 4)))) tNil))) (tSeq (tRet (tBin pSubI (tVar 2) (tVar 3))) tNil)))))
def nm_collapse : List Str := [Str.ofString "self", Str.ofString "closer", Str.ofString "removed", Str.ofString "cursor"]
def T_collapse : TS := (tSeq (tIfS (tNotB (tTest (tVar 2))) (tSeq tRet0 tNil) tNil) (tSeq (tSet 3 (tBin pAddI (tAttr cD (Str.ofString "index") (tVar 1)) (tK (.int 1)))) (tSeq (tWhile (tCmp pLt (tVar 3) (tCall pLen [(tAttr cI (Str.ofString "_tree") (tVar 0))])) (tSeq (tAugItem (tAttr cI (Str.ofString "_tree") (tVar 0)) 3 pAddI (tVar 2)) (tSeq (tAug 3 pAddI (tBin pAndI (tVar 3) (tNeg (tVar 3)))) tNil))) tNil)))
def nm_deactivate : List Str := [Str.ofString "self", Str.ofString "order"]
def T_deactivate : TS := (tSeq (tSetItem (tMCall cI (Str.ofString "_find") P_find (tVar 0) [(tBin pAddI (tVar 1) (tK (.int 1)))]) (tAttr cI (Str.ofString "_next") (tVar 0)) (tVar 1)) tNil)
def nm_deactivate_range : List Str := [Str.ofString "self", Str.ofString "delimiters", Str.ofString "start", Str.ofString "end", Str.ofString "order"]
def T_deactivate_range : TS := (tSeq (tSet 4 (tMCall cI (Str.ofString "_find") P_find (tVar 0) [(tVar 2)])) (tSeq (tWhile (tCmp pLt (tVar 4) (tVar 3)) (tSeq (tSetAttr cD (Str.ofString "length") (tK (.int 0)) (tBin pItem (tVar 1) (tVar 4))) (tSeq (tSetItem (tMCall cI (Str.ofString "_find") P_find (tVar 0) [(tBin pAddI (tVar 4) (tK (.int 1)))]) (tAttr cI (Str.ofString "_next") (tVar 0)) (tVar 4)) (tSeq (tSet 4 (tMCall cI (Str.ofString "_find") P_find (tVar 0) [(tVar 4)])) tNil)))) tNil))
def nm_find : List Str := [Str.ofString "self", Str.ofString "order", Str.ofString "root", Str.ofString "parent"]
def T_find : TS := (tSeq (tSet 2 (tVar 1)) (tSeq (tWhile (tCmp pNeI (tBin pItem (tAttr cI (Str.ofString "_next") (tVar 0)) (tVar 2)) (tVar 2)) (tSeq (tSet 2 (tBin pItem (tAttr cI (Str.ofString "_next") (tVar 0)) (tVar 2))) tNil)) (tSeq (tWhile (tCmp pNeI (tBin pItem (tAttr cI (Str.ofString "_next") (tVar 0)) (tVar 1)) (tVar 1)) (tSeq (tSet 3 (tBin pItem (tAttr cI (Str.ofString "_next") (tVar 0)) (tVar 1))) (tSeq (tSetItem (tVar 2) (tAttr cI (Str.ofString "_next") (tVar 0)) (tVar 1)) (tSeq (tSet 1 (tVar 3)) tNil)))) (tSeq (tRet (tVar 2)) tNil))))
def nm_finalize : List Str := [Str.ofString "tokens", Str.ofString "enabled", Str.ofString "max_depth", Str.ofString "parts", Str.ofString "delimiters", Str.ofString "source", Str.ofString "source_pos", Str.ofString "token"]
def T_finalize : TS := (tSeq (tIfS (tCmp pGt (tCall pLen [(tVar 0)]) (tK (.int 1))) (tSeq tDeadS tNil) tNil) (tSeq (tIfS (tOrB [(tNotB (tTest (tVar 1))), (tNotB (tTest (tCall P_contains [(tVar 0)])))]) (tSeq (tRet (tComp (tVar 0) [] tTrueB (tCall P_clean [(tVar 0)]))) tNil) tNil) (tSeq (tSet 3 (tList [])) (tSeq (tSet 4 (tList [])) (tSeq (tSet 5 (tCall P_source [(tVar 0)])) (tSeq (tSet 6 (tK (.int 0))) (tSeq (tForL (tVar 0) 7 (tSeq (tIfS (tAndB [(tCmp pEqS (tBin pItem (tVar 7) (tK (.str (Str.ofString "type")))) (tK (.str (Str.ofString "text")))), (tTest (tDictGet2 (tVar 7) (tK (.str (Str.ofString "_emphasis"))) (tK (.bool true))))]) (tSeq (tExpr (tCall P_split [(tVar 7), (tVar 5), (tVar 6), (tVar 3), (tVar 4)])) tNil) (tSeq tDeadS tNil)) (tSeq (tAug 6 pAddI (tCall P_srclen [(tVar 7)])) tNil))) (tSeq (tIfS (tTest (tCall P_dense [(tVar 3), (tVar 4)])) (tSeq (tRet (tCall P_merge [(tVar 3)])) tNil) tNil) (tSeq (tExpr (tCall P_process [(tVar 3), (tVar 4), (tVar 2)])) (tSeq (tRet (tCall P_merge [(tVar 3)])) tNil))))))))))
def nm_dense : List Str := [Str.ofString "parts", Str.ofString "delimiters", Str.ofString "marker", Str.ofString "index", Str.ofString "delimiter", Str.ofString "pair_count", Str.ofString "processed", Str.ofString "pair_index", Str.ofString "opener", Str.ofString "closer", Str.ofString "last_close"]
def T_dense : TS := (tSeq (tIfS (tCmp pLt (tCall pLen [(tVar 1)]) (tK (.int 4))) (tSeq (tRet (tK (.bool false))) tNil) tNil) (tSeq (tSet 2 (tAttr cD (Str.ofString "marker") (tBin pItem (tVar 1) (tK (.int 0))))) (tSeq (tIfS (tOrB [(tCmp pNotInT (tVar 2) (tTuple [(tK (.str (Str.ofString "*"))), (tK (.str (Str.ofString "_")))])), (tCmp pNeI (tCall pLen [(tVar 0)]) (tBin pMulL (tCall pLen [(tVar 1)]) (tK (.int 2))))]) (tSeq (tRet (tK (.bool false))) tNil) tNil) (tSeq (tForE (tVar 1) 3 4 (tSeq (tIfS (tOrB [(tCmp pNeS (tAttr cD (Str.ofString "marker") (tVar 4)) (tVar 2)), (tCmp pNeI (tAttr cD (Str.ofString "length") (tVar 4)) (tK (.int 1))), (tCmp pNeI (tAttr cD (Str.ofString "index") (tVar 4)) (tBin pMulL (tVar 3) (tK (.int 2)))), (tCmp pNeS (tBin pItem (tBin pItem (tVar 0) (tAttr cD (Str.ofString "index") (tVar 4))) (tK (.str (Str.ofString "type")))) (tK (.str (Str.ofString "text")))), (tCmp pNeS (tBin pItem (tBin pItem (tVar 0) (tBin pAddI (tAttr cD (Str.ofString "index") (tVar 4)) (tK (.int 1)))) (tK (.str (Str.ofString "type")))) (tK (.str (Str.ofString "text"))))]) (tSeq (tRet (tK (.bool false))) tNil) tNil) tNil)) (tSeq (tSet 5 (tBin pDivI (tCall pLen [(tVar 1)]) (tK (.int 2)))) (tSeq (tSet 6 (tList [])) (tSeq (tForR (tVar 5) 7 (tSeq (tSet 8 (tBin pItem (tVar 1) (tBin pMulL (tVar 7) (tK (.int 2))))) (tSeq (tSet 9 (tBin pItem (tVar 1) (tBin pAddI (tBin pMulL (tVar 7) (tK (.int 2))) (tK (.int 1))))) (tSeq (tIfS (tOrB [(tNotB (tTest (tAttr cD (Str.ofString "can_open") (tVar 8)))), (tNotB (tTest (tAttr cD (Str.ofString "can_close") (tVar 9)))), (tNotB (tTest (tCall P_can_match [(tVar 8), (tVar 9)]))), (tNotB (tTest (tCall P_has_content [(tVar 0), (tBin pAddI (tAttr cD (Str.ofString "index") (tVar 8)) (tK (.int 1))), (tAttr cD (Str.ofString "index") (tVar 9))])))]) (tSeq (tRet (tK (.bool false))) tNil) tNil) (tSeq (tIfS (tTest (tVar 7)) (tSeq (tExpr (tMeth1 isL pAppend (tVar 6) (tBin pItem (tVar 0) (tBin pSubI (tAttr cD (Str.ofString "index") (tVar 8)) (tK (.int 1)))))) tNil) tNil) (tSeq (tExpr (tMeth1 isL pAppend (tVar 6) (tDict2 (Str.ofString "type") (tK (.str (Str.ofString "emphasis"))) (Str.ofString "children") (tList [(tBin pItem (tVar 0) (tBin pAddI (tAttr cD (Str.ofString "index") (tVar 8)) (tK (.int 1))))])))) tNil)))))) (tSeq (tIfS (tTest (tVar 5)) (tSeq (tSet 10 (tAttr cD (Str.ofString "index") (tBin pItem (tVar 1) (tBin pSubI (tBin pMulL (tVar 5) (tK (.int 2))) (tK (.int 1)))))) (tSeq (tSetSlice (tBin pAddL (tVar 6) (tSlice (tVar 0) (some (tBin pAddI (tVar 10) (tK (.int 1)))) none)) (tVar 0) none none) tNil)) tNil) (tSeq (tRet (tK (.bool true))) tNil)))))))))
def nm_contains : List Str := [Str.ofString "tokens", Str.ofString "token", Str.ofString "raw"]
def T_contains : TS := (tSeq (tForL (tVar 0) 1 (tSeq (tIfS (tAndB [(tCmp pEqS (tBin pItem (tVar 1) (tK (.str (Str.ofString "type")))) (tK (.str (Str.ofString "text")))), (tTest (tDictGet2 (tVar 1) (tK (.str (Str.ofString "_emphasis"))) (tK (.bool true))))]) (tSeq (tSet 2 (tBin pItem (tVar 1) (tK (.str (Str.ofString "raw"))))) (tSeq (tIfS (tOrB [(tCmp pInS (tK (.str (Str.ofString "*"))) (tVar 2)), (tCmp pInS (tK (.str (Str.ofString "_"))) (tVar 2))]) (tSeq (tRet (tK (.bool true))) tNil) tNil) tNil)) tNil) tNil)) (tSeq (tRet (tK (.bool false))) tNil))
def nm_clean : List Str := [Str.ofString "token"]
def T_clean : TS := (tSeq (tIfS (tAndB [(tCmp pNotInD (tK (.str (Str.ofString "_emphasis"))) (tVar 0)), (tCmp pNotInD (tK (.str (Str.ofString "_autolink"))) (tVar 0))]) (tSeq (tRet (tVar 0)) tNil) tNil) (tSeq tDeadS (tSeq tDeadS (tSeq tDeadS (tSeq (tRet (tVar 0)) tNil)))))
def nm_source : List Str := [Str.ofString "tokens", Str.ofString "values", Str.ofString "token"]
def T_source : TS := (tSeq (tSet 1 (tList [])) (tSeq (tForL (tVar 0) 2 (tSeq (tIfS (tCmp pEqS (tBin pItem (tVar 2) (tK (.str (Str.ofString "type")))) (tK (.str (Str.ofString "text")))) (tSeq (tExpr (tMeth1 isL pAppend (tVar 1) (tBin pItem (tVar 2) (tK (.str (Str.ofString "raw")))))) tNil) (tSeq tDeadS tNil)) tNil)) (tSeq (tRet (tMeth1 isS pJoin (tK (.str (Str.ofString ""))) (tVar 1))) tNil)))
def nm_srclen : List Str := [Str.ofString "token"]
def T_srclen : TS := (tSeq (tIfS (tCmp pEqS (tBin pItem (tVar 0) (tK (.str (Str.ofString "type")))) (tK (.str (Str.ofString "text")))) (tSeq (tRet (tCall pLen [(tBin pItem (tVar 0) (tK (.str (Str.ofString "raw"))))])) tNil) tNil) (tSeq tDeadS tNil))
def nm_split : List Str := [Str.ofString "token", Str.ofString "source", Str.ofString "source_start", Str.ofString "parts", Str.ofString "delimiters", Str.ofString "text", Str.ofString "pos", Str.ofString "end", Str.ofString "marker", Str.ofString "length", Str.ofString "absolute", Str.ofString "can_open", Str.ofString "can_close", Str.ofString "index"]
def T_split : TS := (tSeq (tSet 5 (tBin pItem (tVar 0) (tK (.str (Str.ofString "raw"))))) (tSeq (tSet 6 (tK (.int 0))) (tSeq (tWhile (tCmp pLt (tVar 6) (tCall pLen [(tVar 5)])) (tSeq (tIfS (tCmp pNotInS (tBin pItem (tVar 5) (tVar 6)) (tK (.str (Str.ofString "*_")))) (tSeq (tSet 7 (tCall P_next_run [(tVar 5), (tVar 6)])) (tSeq (tExpr (tMeth1 isL pAppend (tVar 3) (tDict2 (Str.ofString "type") (tK (.str (Str.ofString "text"))) (Str.ofString "raw") (tSlice (tVar 5) (some (tVar 6)) (some (tVar 7)))))) (tSeq (tSet 6 (tVar 7)) (tSeq tCont tNil)))) tNil) (tSeq (tSet 8 (tBin pItem (tVar 5) (tVar 6))) (tSeq (tSet 7 (tVar 6)) (tSeq (tWhile (tAndB [(tCmp pLt (tVar 7) (tCall pLen [(tVar 5)])), (tCmp pEqS (tBin pItem (tVar 5) (tVar 7)) (tVar 8))]) (tSeq (tAug 7 pAddI (tK (.int 1))) tNil)) (tSeq (tSet 9 (tBin pSubI (tVar 7) (tVar 6))) (tSeq (tSet 10 (tBin pAddI (tVar 2) (tVar 6))) (tSeq (tSet 11 (tCall P_can_open [(tVar 1), (tVar 10), (tVar 9), (tVar 8)])) (tSeq (tSet 12 (tCall P_can_close [(tVar 1), (tVar 10), (tVar 9), (tVar 8)])) (tSeq (tSet 13 (tCall pLen [(tVar 3)])) (tSeq (tExpr (tMeth1 isL pAppend (tVar 3) (tDict2 (Str.ofString "type") (tK (.str (Str.ofString "text"))) (Str.ofString "raw") (tSlice (tVar 5) (some (tVar 6)) (some (tVar 7)))))) (tSeq (tIfS (tOrB [(tTest (tVar 11)), (tTest (tVar 12))]) (tSeq (tExpr (tMeth1 isL pAppend (tVar 4) (tCall P_new [(tVar 13), (tVar 8), (tVar 9), (tVar 11), (tVar 12), (tVar 9), (tCall pLen [(tVar 4)])]))) tNil) tNil) (tSeq (tSet 6 (tVar 7)) tNil))))))))))))) tNil)))
def nm_next_run : List Str := [Str.ofString "text", Str.ofString "pos"]
def T_next_run : TS := (tSeq (tWhile (tAndB [(tCmp pLt (tVar 1) (tCall pLen [(tVar 0)])), (tCmp pNotInS (tBin pItem (tVar 0) (tVar 1)) (tK (.str (Str.ofString "*_"))))]) (tSeq (tAug 1 pAddI (tK (.int 1))) tNil)) (tSeq (tRet (tVar 1)) tNil))
def nm_process : List Str := [Str.ofString "parts", Str.ofString "delimiters", Str.ofString "max_depth", Str.ofString "index_map", Str.ofString "closer_pos", Str.ofString "openers_bottom", Str.ofString "closer", Str.ofString "opener_key", Str.ofString "opener_bottom", Str.ofString "match", Str.ofString "opener_pos", Str.ofString "opener", Str.ofString "opener_index", Str.ofString "closer_index", Str.ofString "use_length", Str.ofString "children"]
def T_process : TS := (tSeq (tSet 3 (tCall P_newidx [(tVar 1), (tCall pLen [(tVar 0)])])) (tSeq (tSet 4 (tK (.int 0))) (tSeq (tSet 5 tBots) (tSeq (tWhile (tCmp pLt (tVar 4) (tCall pLen [(tVar 1)])) (tSeq (tSet 6 (tBin pItem (tVar 1) (tVar 4))) (tSeq (tIfS (tOrB [(tNotB (tTest (tAttr cD (Str.ofString "can_close") (tVar 6)))), (tCmp pEqI (tAttr cD (Str.ofString "length") (tVar 6)) (tK (.int 0)))]) (tSeq (tAug 4 pAddI (tK (.int 1))) (tSeq tCont tNil)) tNil) (tSeq (tSet 7 (tTuple [(tAttr cD (Str.ofString "marker") (tVar 6)), (tBin pModI (tAttr cD (Str.ofString "length") (tVar 6)) (tK (.int 3))), (tAttr cD (Str.ofString "can_open") (tVar 6))])) (tSeq (tSet 8 (tBotsGet (tVar 5) (tVar 7) (tK (.int 0)))) (tSeq (tSet 9 (tCall P_find_opener [(tVar 1), (tVar 4), (tVar 6), (tVar 8)])) (tSeq (tIfS (tCmp pIsNone (tVar 9) (tK .none)) (tSeq (tSetBots (tVar 4) (tVar 5) (tVar 7)) (tSeq (tAug 4 pAddI (tK (.int 1))) (tSeq tCont tNil))) tNil) (tSeq (tUnpack [10, 11] (tVar 9)) (tSeq (tSet 12 (tMCall cI (Str.ofString "current") P_current (tVar 3) [(tVar 11)])) (tSeq (tSet 13 (tMCall cI (Str.ofString "current") P_current (tVar 3) [(tVar 6)])) (tSeq (tSet 14 (tCall P_use_length [(tVar 0), (tVar 11), (tVar 6), (tVar 12), (tVar 13)])) (tSeq (tSet 15 (tCall P_children [(tVar 0), (tVar 12), (tVar 13), (tVar 2)])) (tSeq (tIfS (tOrB [(tCmp pIsNone (tVar 14) (tK .none)), (tCmp pIsNone (tVar 15) (tK .none))]) (tSeq (tAug 4 pAddI (tK (.int 1))) (tSeq tCont tNil)) tNil) (tSeq (tExpr (tCall P_apply [(tVar 0), (tVar 1), (tVar 3), (tVar 11), (tVar 6), (tVar 10), (tVar 4), (tVar 12), (tVar 13), (tVar 14), (tVar 15)])) (tSeq (tIfS (tOrB [(tTest (tAttr cD (Str.ofString "can_open") (tVar 11))), (tTest (tAttr cD (Str.ofString "can_close") (tVar 6)))]) (tSeq (tSet 4 (tCall pMax [(tVar 10), (tBotsGet (tVar 5) (tVar 7) (tK (.int 0)))])) tNil) (tSeq (tAug 4 pAddI (tK (.int 1))) tNil)) tNil))))))))))))))) tNil))))
def nm_find_opener : List Str := [Str.ofString "delimiters", Str.ofString "closer_pos", Str.ofString "closer", Str.ofString "opener_bottom", Str.ofString "opener_pos", Str.ofString "opener"]
def T_find_opener : TS := (tSeq (tSet 4 (tBin pSubI (tVar 1) (tK (.int 1)))) (tSeq (tWhile (tCmp pGe (tVar 4) (tVar 3)) (tSeq (tSet 5 (tBin pItem (tVar 0) (tVar 4))) (tSeq (tIfS (tAndB [(tCmp pEqS (tAttr cD (Str.ofString "marker") (tVar 5)) (tAttr cD (Str.ofString "marker") (tVar 2))), (tTest (tAttr cD (Str.ofString "can_open") (tVar 5))), (tCmp pGt (tAttr cD (Str.ofString "length") (tVar 5)) (tK (.int 0))), (tTest (tCall P_can_match [(tVar 5), (tVar 2)]))]) (tSeq (tRet (tTuple [(tVar 4), (tVar 5)])) tNil) tNil) (tSeq (tAug 4 pSubI (tK (.int 1))) tNil)))) (tSeq (tRet (tK .none)) tNil)))
def nm_use_length : List Str := [Str.ofString "parts", Str.ofString "opener", Str.ofString "closer", Str.ofString "opener_index", Str.ofString "closer_index", Str.ofString "use_length"]
def T_use_length : TS := (tSeq (tSet 5 (tIf (tAndB [(tCmp pGe (tAttr cD (Str.ofString "length") (tVar 1)) (tK (.int 2))), (tCmp pGe (tAttr cD (Str.ofString "length") (tVar 2)) (tK (.int 2)))]) (tK (.int 2)) (tK (.int 1)))) (tSeq (tIfS (tAndB [(tCmp pEqI (tVar 5) (tK (.int 2))), (tNotB (tTest (tCall P_has_strong [(tVar 0), (tVar 3), (tVar 4)])))]) (tSeq (tSet 5 (tK (.int 1))) tNil) tNil) (tSeq (tIfS (tAndB [(tCmp pEqI (tVar 5) (tK (.int 1))), (tNotB (tTest (tCall P_has_emph [(tVar 0), (tVar 3), (tVar 4)])))]) (tSeq (tRet (tK .none)) tNil) tNil) (tSeq (tRet (tVar 5)) tNil))))
def nm_children : List Str := [Str.ofString "parts", Str.ofString "opener_index", Str.ofString "closer_index", Str.ofString "max_depth", Str.ofString "opener_text", Str.ofString "closer_text", Str.ofString "children"]
def T_children : TS := (tSeq (tIfS (tNotB (tTest (tCall P_has_content [(tVar 0), (tBin pAddI (tVar 1) (tK (.int 1))), (tVar 2)]))) (tSeq (tRet (tK .none)) tNil) tNil) (tSeq (tSet 4 (tBin pItem (tVar 0) (tVar 1))) (tSeq (tSet 5 (tBin pItem (tVar 0) (tVar 2))) (tSeq (tIfS (tOrB [(tCmp pNeS (tBin pItem (tVar 4) (tK (.str (Str.ofString "type")))) (tK (.str (Str.ofString "text")))), (tCmp pNeS (tBin pItem (tVar 5) (tK (.str (Str.ofString "type")))) (tK (.str (Str.ofString "text"))))]) (tSeq (tRet (tK .none)) tNil) tNil) (tSeq (tSet 6 (tSlice (tVar 0) (some (tBin pAddI (tVar 1) (tK (.int 1)))) (some (tVar 2)))) (tSeq (tIfS (tAndB [(tCmp pGt (tVar 3) (tK (.int 0))), (tCmp pGe (tCall P_token_depth [(tVar 6)]) (tVar 3))]) (tSeq (tRet (tK .none)) tNil) tNil) (tSeq (tRet (tVar 6)) tNil)))))))
def nm_apply : List Str := [Str.ofString "parts", Str.ofString "delimiters", Str.ofString "index_map", Str.ofString "opener", Str.ofString "closer", Str.ofString "opener_pos", Str.ofString "closer_pos", Str.ofString "opener_index", Str.ofString "closer_index", Str.ofString "use_length", Str.ofString "children", Str.ofString "opener_text", Str.ofString "closer_text", Str.ofString "node_type", Str.ofString "removed"]
def T_apply : TS := (tSeq (tSet 11 (tBin pItem (tVar 0) (tVar 7))) (tSeq (tSet 12 (tBin pItem (tVar 0) (tVar 8))) (tSeq (tSetItem (tSlice (tBin pItem (tVar 11) (tK (.str (Str.ofString "raw")))) none (some (tNeg (tVar 9)))) (tVar 11) (tK (.str (Str.ofString "raw")))) (tSeq (tSetItem (tSlice (tBin pItem (tVar 12) (tK (.str (Str.ofString "raw")))) (some (tVar 9)) none) (tVar 12) (tK (.str (Str.ofString "raw")))) (tSeq (tSet 13 (tIf (tCmp pEqI (tVar 9) (tK (.int 2))) (tK (.str (Str.ofString "strong"))) (tK (.str (Str.ofString "emphasis"))))) (tSeq (tSetSlice (tList [(tDict2 (Str.ofString "type") (tVar 13) (Str.ofString "children") (tVar 10))]) (tVar 0) (some (tBin pAddI (tVar 7) (tK (.int 1)))) (some (tVar 8))) (tSeq (tSet 14 (tBin pSubI (tBin pSubI (tVar 8) (tVar 7)) (tK (.int 2)))) (tSeq (tIfS (tTest (tVar 14)) (tSeq (tExpr (tMCall cI (Str.ofString "deactivate_range") P_deactivate_range (tVar 2) [(tVar 1), (tBin pAddI (tVar 5) (tK (.int 1))), (tVar 6)])) (tSeq (tExpr (tMCall cI (Str.ofString "collapse") P_collapse (tVar 2) [(tVar 4), (tVar 14)])) tNil)) tNil) (tSeq (tAugAttr cD (Str.ofString "length") (tVar 3) pSubI (tVar 9)) (tSeq (tAugAttr cD (Str.ofString "length") (tVar 4) pSubI (tVar 9)) (tSeq (tIfS (tCmp pEqI (tAttr cD (Str.ofString "length") (tVar 3)) (tK (.int 0))) (tSeq (tSetAttr cD (Str.ofString "can_open") (tK (.bool false)) (tVar 3)) (tSeq (tExpr (tMCall cI (Str.ofString "deactivate") P_deactivate (tVar 2) [(tAttr cD (Str.ofString "order") (tVar 3))])) tNil)) tNil) (tSeq (tIfS (tCmp pEqI (tAttr cD (Str.ofString "length") (tVar 4)) (tK (.int 0))) (tSeq (tSetAttr cD (Str.ofString "can_close") (tK (.bool false)) (tVar 4)) (tSeq (tExpr (tMCall cI (Str.ofString "deactivate") P_deactivate (tVar 2) [(tAttr cD (Str.ofString "order") (tVar 4))])) tNil)) tNil) tNil))))))))))))
def nm_has_strong : List Str := [Str.ofString "parts", Str.ofString "opener_index", Str.ofString "closer_index"]
def T_has_strong : TS := (tSeq (tRet (tAndE (tCmpE pGe (tCall pLen [(tCall P_text_raw [(tBin pItem (tVar 0) (tVar 1))])]) (tK (.int 2))) [(tCmpE pGe (tCall pLen [(tCall P_text_raw [(tBin pItem (tVar 0) (tVar 2))])]) (tK (.int 2)))])) tNil)
def nm_has_emph : List Str := [Str.ofString "parts", Str.ofString "opener_index", Str.ofString "closer_index"]
def T_has_emph : TS := (tSeq (tRet (tCall pBool [(tAndE (tCall P_text_raw [(tBin pItem (tVar 0) (tVar 1))]) [(tCall P_text_raw [(tBin pItem (tVar 0) (tVar 2))])])])) tNil)
def nm_text_raw : List Str := [Str.ofString "token"]
def T_text_raw : TS := (tSeq (tIfS (tCmp pEqS (tBin pItem (tVar 0) (tK (.str (Str.ofString "type")))) (tK (.str (Str.ofString "text")))) (tSeq (tRet (tBin pItem (tVar 0) (tK (.str (Str.ofString "raw"))))) tNil) tNil) (tSeq (tRet (tK (.str (Str.ofString "")))) tNil))
def nm_has_content : List Str := [Str.ofString "parts", Str.ofString "start", Str.ofString "end", Str.ofString "part"]
def T_has_content : TS := (tSeq (tForL (tSlice (tVar 0) (some (tVar 1)) (some (tVar 2))) 3 (tSeq (tIfS (tOrB [(tCmp pNeS (tBin pItem (tVar 3) (tK (.str (Str.ofString "type")))) (tK (.str (Str.ofString "text")))), (tCmp pNeS (tBin pItem (tVar 3) (tK (.str (Str.ofString "raw")))) (tK (.str (Str.ofString ""))))]) (tSeq (tRet (tK (.bool true))) tNil) tNil) tNil)) (tSeq (tRet (tK (.bool false))) tNil))
def nm_can_match : List Str := [Str.ofString "opener", Str.ofString "closer", Str.ofString "open_len", Str.ofString "close_len"]
def T_can_match : TS := (tSeq (tIfS (tOrB [(tTest (tAttr cD (Str.ofString "can_close") (tVar 0))), (tTest (tAttr cD (Str.ofString "can_open") (tVar 1)))]) (tSeq (tSet 2 (tAttr cD (Str.ofString "orig_length") (tVar 0))) (tSeq (tSet 3 (tAttr cD (Str.ofString "orig_length") (tVar 1))) (tSeq (tRet (tOrE (tCmpE pNeI (tBin pModI (tBin pAddI (tVar 2) (tVar 3)) (tK (.int 3))) (tK (.int 0))) [(tAndE (tCmpE pEqI (tBin pModI (tVar 2) (tK (.int 3))) (tK (.int 0))) [(tCmpE pEqI (tBin pModI (tVar 3) (tK (.int 3))) (tK (.int 0)))])])) tNil))) tNil) (tSeq (tRet (tK (.bool true))) tNil))
def nm_can_open : List Str := [Str.ofString "text", Str.ofString "start", Str.ofString "size", Str.ofString "marker", Str.ofString "previous", Str.ofString "next_char"]
def T_can_open : TS := (tSeq (tSet 4 (tIf (tCmp pGt (tVar 1) (tK (.int 0))) (tBin pItem (tVar 0) (tBin pSubI (tVar 1) (tK (.int 1)))) (tK (.str (Str.ofString "\n"))))) (tSeq (tSet 5 (tIf (tCmp pLt (tBin pAddI (tVar 1) (tVar 2)) (tCall pLen [(tVar 0)])) (tBin pItem (tVar 0) (tBin pAddI (tVar 1) (tVar 2))) (tK (.str (Str.ofString "\n"))))) (tSeq (tIfS (tAndB [(tCmp pEqS (tVar 3) (tK (.str (Str.ofString "_")))), (tTest (tMeth0 pIsalnum (tVar 4))), (tTest (tMeth0 pIsalnum (tVar 5)))]) (tSeq (tRet (tK (.bool false))) tNil) tNil) (tSeq (tIfS (tTest (tMeth0 pIsspace (tVar 5))) (tSeq (tRet (tK (.bool false))) tNil) tNil) (tSeq (tIfS (tAndB [(tTest (tCall P_is_punct [(tVar 5)])), (tNotB (tTest (tMeth0 pIsspace (tVar 4)))), (tNotB (tTest (tCall P_is_punct [(tVar 4)])))]) (tSeq (tRet (tK (.bool false))) tNil) tNil) (tSeq (tRet (tK (.bool true))) tNil))))))
def nm_can_close : List Str := [Str.ofString "text", Str.ofString "start", Str.ofString "size", Str.ofString "marker", Str.ofString "previous", Str.ofString "next_char"]
def T_can_close : TS := (tSeq (tSet 4 (tIf (tCmp pGt (tVar 1) (tK (.int 0))) (tBin pItem (tVar 0) (tBin pSubI (tVar 1) (tK (.int 1)))) (tK (.str (Str.ofString "\n"))))) (tSeq (tSet 5 (tIf (tCmp pLt (tBin pAddI (tVar 1) (tVar 2)) (tCall pLen [(tVar 0)])) (tBin pItem (tVar 0) (tBin pAddI (tVar 1) (tVar 2))) (tK (.str (Str.ofString "\n"))))) (tSeq (tIfS (tAndB [(tCmp pEqS (tVar 3) (tK (.str (Str.ofString "_")))), (tTest (tMeth0 pIsalnum (tVar 4))), (tTest (tMeth0 pIsalnum (tVar 5)))]) (tSeq (tRet (tK (.bool false))) tNil) tNil) (tSeq (tIfS (tTest (tMeth0 pIsspace (tVar 4))) (tSeq (tRet (tK (.bool false))) tNil) tNil) (tSeq (tIfS (tAndB [(tTest (tCall P_is_punct [(tVar 4)])), (tNotB (tTest (tMeth0 pIsspace (tVar 5)))), (tNotB (tTest (tCall P_is_punct [(tVar 5)])))]) (tSeq (tRet (tK (.bool false))) tNil) tNil) (tSeq (tRet (tK (.bool true))) tNil))))))
def nm_is_punct : List Str := [Str.ofString "char"]
def T_is_punct : TS := (tSeq (tRet (tAndE (tNotE (tMeth0 pIsspace (tVar 0))) [(tNotE (tMeth0 pIsalnum (tVar 0)))])) tNil)
def nm_merge : List Str := [Str.ofString "tokens", Str.ofString "result", Str.ofString "chunks", Str.ofString "token", Str.ofString "raw"]
def T_merge : TS := (tSeq (tSet 1 (tList [])) (tSeq (tSet 2 (tList [])) (tSeq (tForL (tVar 0) 3 (tSeq (tIfS (tCmp pEqS (tBin pItem (tVar 3) (tK (.str (Str.ofString "type")))) (tK (.str (Str.ofString "text")))) (tSeq (tSet 4 (tBin pItem (tVar 3) (tK (.str (Str.ofString "raw"))))) (tSeq (tIfS (tNotB (tTest (tVar 4))) (tSeq tCont tNil) tNil) (tSeq (tIfS (tAndB [(tTest (tVar 2)), (tTest (tCall P_entity [(tBin pItem (tVar 2) (tNeg (tK (.int 1)))), (tVar 4)]))]) (tSeq (tExpr (tMeth1 isL pAppend (tVar 1) (tDict2 (Str.ofString "type") (tK (.str (Str.ofString "text"))) (Str.ofString "raw") (tMeth1 isS pJoin (tK (.str (Str.ofString ""))) (tVar 2))))) (tSeq (tSet 2 (tList [])) tNil)) tNil) (tSeq (tExpr (tMeth1 isL pAppend (tVar 2) (tVar 4))) tNil)))) (tSeq (tIfS (tTest (tVar 2)) (tSeq (tExpr (tMeth1 isL pAppend (tVar 1) (tDict2 (Str.ofString "type") (tK (.str (Str.ofString "text"))) (Str.ofString "raw") (tMeth1 isS pJoin (tK (.str (Str.ofString ""))) (tVar 2))))) (tSeq (tSet 2 (tList [])) tNil)) tNil) (tSeq (tExpr (tMeth1 isL pAppend (tVar 1) (tCall P_clean [(tVar 3)]))) tNil))) tNil)) (tSeq (tIfS (tTest (tVar 2)) (tSeq (tExpr (tMeth1 isL pAppend (tVar 1) (tDict2 (Str.ofString "type") (tK (.str (Str.ofString "text"))) (Str.ofString "raw") (tMeth1 isS pJoin (tK (.str (Str.ofString ""))) (tVar 2))))) tNil) tNil) (tSeq (tRet (tVar 1)) tNil)))))
end Mine
namespace Mine
section
variable {cx : Cx} {sc : Scope} {nm : List Str} {d : Nat}
/-- over a range -/
def qCompR (fr : List Nat) (TC : TB) (TElt : TE) (ρ : Loc) (R : List V → AH → Prop) (a c : Int) (N : Nat) (H1 : AH) : Prop :=
  N ≤ 2 ^ 24 ∧ ∃ J : Nat → List V → AH → Prop, J 0 [] H1 ∧
    (∀ k acc H, k < N → J k acc H → TC (some (.int (a + (k : Int) * c)) :: frees fr ρ) H fun b H2 => if b = true then TElt (some (.int (a + (k : Int) * c)) :: frees fr ρ) H2 fun y H3 => J (k + 1) (acc ++ [y]) H3 else J (k + 1) acc H2) ∧
    (∀ acc H, J N acc H → R acc H)

theorem comp_coreR {A : Around} {f : Frm} {elt iter : Expr} {ifs : List Expr} {x : Str} {px pos : Pos} {scope : Scope} {fr : List Nat} {fnm : List Str} {TC : TB} {TElt : TE} {RR : Value → Addr → Result → Shared → Prop} {R : List V → AH → Prop}
    (a : AOk d A) (ok : f.Ok cx sc) (hn : f.nm = nm) (h : CompOk cx sc scope nm x fr fnm) (DI : IDen cx (relabelSc scope sc) (x :: fnm) d ifs TC) (DE : EDen cx (relabelSc scope sc) (x :: fnm) d elt TElt)
    {s : Shared} {own : Own} {H : AH} {ρ : Loc} (g : GRel cx own H s) (F : FRel cx own H f ρ s.heap) {r : Addr} {ra rb rc : Int} {q1 q2 q3 : Tok} (ir : IsRange s.heap r ra rb rc q1 q2 q3) (hsm : Builtin.Range.small ra rb rc = true) {N : Nat} (hN : Builtin.Range.rangeSize ra rb rc = N) (t : qCompR fr TC TElt ρ R ra rc N H)
    (hend : ∀ D C s' own' H' acc rs n, D ≠ C → s.heap.get? D = none → s.heap.get? C = none → cx.h0.get? D = none ∧ sysModules < D → Hid cx f own' H' s'.heap D → Hid cx f own' H' s'.heap C → GRel cx own' H' s' → Ext own H s.heap own' H' s'.heap → FRel cx own' H' f ρ s'.heap → (∃ m, s'.heap.Ns C m) →
      IsL s'.heap D rs.toArray n → VRs acc rs → R acc H' → RR (.ref D) C (.ok .next) s') :
    wpAny (model cx.prog cx.w) A (pyIter (.ref r)) (fun it s2 => wpAny (model cx.prog cx.w) A (newList []) (fun acc s₃ => wpAny (model cx.prog cx.w) A (newFunctionEnv scope f.env.globals (closOf f.env scope.names []) [] f.env.qual none .none (some f.env)) (fun cenv s₄ =>
      codeAny (model cx.prog cx.w) A (.compStart (.ListComp elt [⟨.Name x px, iter, ifs, 0⟩] scope pos) 0 it acc { cenv with scope := relabel scope f.env }) (RR acc cenv.locals) s₄) NoE s₃) NoE s2) NoE s := by
  obtain ⟨hxs, J, j0, hJ, hJn⟩ := t
  refine wpAny_pyIter_range ir hsm ?_
  rw [hN]
  refine (wpAny_newObj_type (hd := by show ([] : List Value).toArray.size ≤ sizeLine; simp) (wpAny_newFunctionEnv h.nocell (by intro y hy; simp at hy) (fun h₁ hns₁ hsb₁ => ?_) h.kind))
  dsimp only at hns₁ hsb₁ ⊢
  generalize hH1 : s.heap.push { cls := .type "range_iterator", data := .fields #[rawInt ra, rawInt (N : Int), rawInt rc] } = HA at hns₁ hsb₁ ⊢
  have eD : HA.objs.size = s.heap.objs.size + 1 := by rw [← hH1, Heap.size_push]
  generalize hH2 : HA.push { cls := .type "list", dict := none, data := .seq ([] : List Value).toArray } = HB at hns₁ hsb₁ ⊢
  have eC : HB.objs.size = s.heap.objs.size + 2 := by rw [← hH2, Heap.size_push, eD]
  generalize hI : s.heap.objs.size = I at *
  generalize hD : HA.objs.size = D at *
  generalize hC : HB.objs.size = C at *
  subst eD eC
  have nDI : I + 1 ≠ I := Nat.succ_ne_self _
  have nCI : I + 2 ≠ I := by omega
  have nDC : I + 1 ≠ I + 2 := by omega
  have below : ∀ b o, s.heap.get? b = some o → b ≠ I + 2 ∧ b ≠ I + 1 ∧ b ≠ I := fun b o e => by
    have := Heap.lt_size e
    rw [hI] at this
    exact ⟨Nat.ne_of_lt (Nat.lt_succ_of_lt (Nat.lt_succ_of_lt this)), Nat.ne_of_lt (Nat.lt_succ_of_lt this), Nat.ne_of_lt this⟩
  have kp : ∀ b o, s.heap.get? b = some o → h₁.get? b = some o := fun b o e =>
    hsb₁.extBut b o (below b o e).1 (Heap.get?_push_of_some _ (hH2 ▸ Heap.get?_push_of_some _ (hH1 ▸ Heap.get?_push_of_some _ e)))
  have hit0 : IsRangeIter h₁ I ra (N : Int) rc := hsb₁.extBut _ _ nCI.symm (Heap.get?_push_of_some _ (hH2 ▸ Heap.get?_push_of_some _ (hH1 ▸ hI ▸ Heap.get?_push_size _ rfl)))
  have hit : IsRangeIter h₁ I (ra + ((0 : Nat) : Int) * rc) ((N : Int) - ((0 : Nat) : Int)) rc := by simpa using hit0
  have hacc : IsL h₁ (I + 1) #[] 0 := hsb₁.extBut _ _ nDC (Heap.get?_push_of_some _ (hH2 ▸ hD ▸ Heap.get?_push_size _ rfl))
  have g1 : GRel cx own H { s with heap := h₁ } := g.grow kp
  have xk : Ext own H s.heap own H h₁ := .grow kp
  have F1 : FRel cx own H f ρ h₁ := F.ext ok xk
  have memW : ∀ {b}, b ∈ [I + 2, I + 1, I] → b = I + 2 ∨ b = I + 1 ∨ b = I := fun h => by simpa using h
  have mC : I + 2 ∈ [I + 2, I + 1, I] := by simp
  have mD : I + 1 ∈ [I + 2, I + 1, I] := by simp
  have mI : I ∈ [I + 2, I + 1, I] := by simp
  have liveNs : ∀ {hp : Heap}, (∃ m, hp.Ns (I + 2) m) → ∃ o, hp.get? (I + 2) = some o := fun ⟨_, o, _, _, e, _⟩ => ⟨o, e⟩
  have liveIt : ∀ {hp : Heap} {x y : Int}, IsRangeIter hp I x y rc → ∃ o, hp.get? I = some o := fun e => ⟨_, e⟩
  have hW1 : ∀ b ∈ [I + 2, I + 1, I], Hid cx f own H h₁ b := fun b hb => by
    rcases memW hb with rfl | rfl | rfl
    · exact Hid.fresh ok g F (by rw [hI]; omega) (liveNs ⟨_, hns₁⟩)
    · exact Hid.fresh ok g F (by rw [hI]; omega) ⟨_, hacc⟩
    · exact Hid.fresh ok g F (by rw [hI]; exact Nat.le_refl _) (liveIt hit)
  have hfoC : ∀ b ∈ f.fo, b ≠ I + 2 := fun b hb e => (hW1 _ mC).nf (e ▸ hb)
  have ok' : (compFrm f scope (I + 2) (x :: fnm)).Ok cx (relabelSc scope sc) := comp_ok ok h hfoC
  have loop : codeAny (model cx.prog cx.w) A (.compLoop (.ListComp elt [⟨.Name x px, iter, ifs, 0⟩] scope pos) 0 (.ref I) (.ref (I + 1)) (compEnvC scope (closOf f.env scope.names []) (I + 2) f.env)) (RR (.ref (I + 1)) (I + 2)) { s with heap := h₁ } := by
    refine codeAny_compLoop_tests (fun m s' => ∃ k own' H' acc rs n, m = N - k ∧ k ≤ N ∧ acc.length ≤ k ∧ GRel cx own' H' s' ∧ ExtX [I + 2, I + 1, I] [] own H h₁ own' H' s'.heap ∧ (∀ b ∈ [I + 2, I + 1, I], Hid cx f own' H' s'.heap b) ∧
      FRel cx own' H' f ρ s'.heap ∧ (∃ m, s'.heap.Ns (I + 2) m) ∧ IsRangeIter s'.heap I (ra + (k : Int) * rc) ((N : Int) - (k : Int)) rc ∧ IsL s'.heap (I + 1) rs.toArray n ∧ VRs acc rs ∧ J k acc H') ?_ N
      ⟨0, own, H, [], [], 0, rfl, Nat.zero_le _, Nat.zero_le _, g1, .refl .., hW1, F1, ⟨_, hns₁⟩, hit, hacc, .nil, j0⟩
    rintro m s1 ⟨k, own1, H1, acc, rs, n, rfl, hk, hac, gg1, x1, W1, FF1, ns1, it1, ac1, vr1, j1⟩
    by_cases hkn : k < N
    · have t1 := hJ k acc H1 hkn j1
      have hv : VR (.int (ra + (k : Int) * rc)) (.int (ra + (k : Int) * rc) s1.toks) := .int _ _
      refine wpAny_mono (Q := fun r' s2 => ∃ h', r' = some (.int (ra + (k : Int) * rc) s1.toks) ∧ s2 = { s1 with heap := h', toks := s1.toks + 1 } ∧ IsRangeIter h' I (ra + ((k + 1 : Nat) : Int) * rc) ((N : Int) - ((k + 1 : Nat) : Int)) rc ∧ Heap.SameBut I s1.heap h') (E := NoE) (wpAny_pyNext_range_item it1 (by omega) fun h' hit hs => ⟨h', rfl, rfl, by
        have e1 : ra + ((k + 1 : Nat) : Int) * rc = ra + (k : Int) * rc + rc := by rw [show ((k + 1 : Nat) : Int) = (k : Int) + 1 by push_cast; rfl, Int.add_mul, Int.one_mul, Int.add_assoc]
        have e2 : (N : Int) - ((k + 1 : Nat) : Int) = (N : Int) - (k : Int) - 1 := by push_cast; omega
        rw [e1, e2]; exact hit, hs⟩) (fun r' s2 hh2 => ?_) fun _ _ e => e.elim
      obtain ⟨h', rfl, rfl, it2, hs2⟩ := hh2
      obtain ⟨g3, F3, x3, W3⟩ := hidden_turn (h' := h') (tk := s1.toks + 1) (W := [I + 2, I + 1, I]) ok gg1 FF1 W1 (fun b o hb e => (hs2.2 b fun q => hb (by rw [q]; exact mI)).trans e)
      have ns3 : ∃ m, h'.Ns (I + 2) m := by obtain ⟨m, hm⟩ := ns1; exact ⟨m, hm.sameBut hs2 nCI⟩
      have ac3 : IsL h' (I + 1) rs.toArray n := (hs2.2 _ nDI).trans ac1
      replace W3 := W3 fun b hb => by
        rcases memW hb with rfl | rfl | rfl
        · exact liveNs ns3
        · exact ⟨_, ac3⟩
        · exact liveIt it2
      have Fi : FRel cx own1 H1 (compFrm f scope (I + 2) (x :: fnm)) (none :: frees fr ρ) h' := comp_rel ok hn h F3 (W3 _ mC) ns3 (.inl rfl)
      have x3' : ExtX [I + 2, I + 1, I] [] own1 H1 s1.heap own1 H1 h' := ⟨fun b o hb e1 e2 e3 => ⟨e1, e2, o, (hs2.2 b fun q => hb (by rw [q]; exact mI)).trans e3, fun _ => rfl⟩, fun b _ _ _ o hb e1 e3 => ⟨e1, o, (hs2.2 b fun q => hb (by rw [q]; exact mI)).trans e3⟩⟩
      refine wpAny_mono (Q := fun _ s4 => GRel cx own1 H1 s4 ∧ FRel cx own1 H1 (compFrm f scope (I + 2) (x :: fnm)) (some (.int (ra + (k : Int) * rc)) :: frees fr ρ) s4.heap ∧ ∀ b o, b ≠ I + 2 → h'.get? b = some o → s4.heap.get? b = some o) (E := NoE)
        (wpAny_assign_Name (store_of' (sc := relabelSc scope sc) (i := 0) (s := { s1 with heap := h', toks := s1.toks + 1 }) (f := compFrm f scope (I + 2) (x :: fnm)) ok' rfl (.inl h.tgt2) g3 Fi hv fun s4 g4 x4 F4 loc4 => ⟨g4, F4, loc4 h.tgt2⟩)) (fun _ s4 hh4 => ?_) fun _ _ e => e.elim
      obtain ⟨g4, Fi4, loc4⟩ := hh4
      have F4 : FRel cx own1 H1 f ρ s4.heap := F3.stable ok (fun b o hb e => loc4 b o (hfoC b hb) e) fun b hb => let ⟨_, p, q⟩ := F3.mine b hb; ⟨p, q⟩
      have x4 : ExtX [I + 2, I + 1, I] [] own1 H1 h' own1 H1 s4.heap := ⟨fun b o hb e1 e2 e3 => ⟨e1, e2, o, loc4 b o (fun q => hb (by rw [q]; exact mC)) e3, fun _ => rfl⟩, fun b _ _ _ o hb e1 e3 => ⟨e1, o, loc4 b o (fun q => hb (by rw [q]; exact mC)) e3⟩⟩
      have ns4 : ∃ m, s4.heap.Ns (I + 2) m := Fi4.ns
      have it4 : IsRangeIter s4.heap I (ra + ((k + 1 : Nat) : Int) * rc) ((N : Int) - ((k + 1 : Nat) : Int)) rc := loc4 _ _ nCI.symm it2
      have ac4 : IsL s4.heap (I + 1) rs.toArray n := loc4 _ _ nDC ac3
      have W4 : ∀ b ∈ [I + 2, I + 1, I], Hid cx f own1 H1 s4.heap b := fun b hb => by
        have y := W3 b hb
        refine ⟨?_, y.hn, y.on, y.h0, y.nf⟩
        rcases memW hb with rfl | rfl | rfl
        · exact liveNs ns4
        · exact ⟨_, ac4⟩
        · exact liveIt it4
      refine wpAny_mono (tests_of DI (f := compFrm f scope (I + 2) (x :: fnm)) a ok' rfl g4 Fi4 t1) (fun b s5 hh5 => ?_) fun _ _ e => e.elim
      obtain ⟨own5, H5, g5, x5, t5⟩ := hh5
      have F5 := F4.ext ok x5
      have Fi5 := Fi4.ext ok' x5
      have W5 : ∀ b ∈ [I + 2, I + 1, I], Hid cx f own5 H5 s5.heap b := fun b hb => ((W4 b hb).extE ok x5).1
      have keep5 : ∀ b ∈ [I + 2, I + 1, I], ∀ o, s4.heap.get? b = some o → s5.heap.get? b = some o := fun b hb => ((W4 b hb).extE ok x5).2
      have it5 : IsRangeIter s5.heap I (ra + ((k + 1 : Nat) : Int) * rc) ((N : Int) - ((k + 1 : Nat) : Int)) rc := keep5 _ mI _ it4
      have ac5 : IsL s5.heap (I + 1) rs.toArray n := keep5 _ mD _ ac4
      have y5 : ExtX [I + 2, I + 1, I] [] own H h₁ own5 H5 s5.heap := ((x1.trans x3').trans x4).trans x5.toW.toX
      cases b with
      | false =>
        simp only [Bool.false_eq_true, if_false] at t5 ⊢
        exact ⟨N - (k + 1), by omega, k + 1, own5, H5, acc, rs, n, rfl, hkn, by omega, g5, y5, W5, F5, Fi5.ns, it5, ac5, vr1, t5⟩
      | true =>
        simp only [if_true] at t5 ⊢
        refine wpAny_mono (wp_then (R := fun y s6 => ∃ v own6 H6, VR v y ∧ GRel cx own6 H6 s6 ∧ Ext own5 H5 s5.heap own6 H6 s6.heap ∧ J (k + 1) (acc ++ [v]) H6) (DE A (compFrm f scope (I + 2) (x :: fnm)) s5 own5 H5 _ _ a ok' rfl g5 Fi5 t5) fun v y s6 own6 H6 e6 g6 x6 t6 => ⟨v, own6, H6, e6, g6, x6, t6⟩) (fun y s6 hh6 => ?_) fun _ _ e => e.elim
        obtain ⟨v6, own6, H6, e6, g6, x6, t6⟩ := hh6
        have F6 := F5.ext ok x6
        have Fi6 := Fi5.ext ok' x6
        have W6 : ∀ b ∈ [I + 2, I + 1, I], Hid cx f own6 H6 s6.heap b := fun b hb => ((W5 b hb).extE ok x6).1
        have keep6 : ∀ b ∈ [I + 2, I + 1, I], ∀ o, s5.heap.get? b = some o → s6.heap.get? b = some o := fun b hb => ((W5 b hb).extE ok x6).2
        have ac6 : IsL s6.heap (I + 1) rs.toArray n := keep6 _ mD _ ac5
        have it6 : IsRangeIter s6.heap I (ra + ((k + 1 : Nat) : Int) * rc) ((N : Int) - ((k + 1 : Nat) : Int)) rc := keep6 _ mI _ it5
        have hlen := vr1.length
        refine append_exact ac6 ?_ (by simp only [List.size_toArray, sizeLine_eq]; omega)
        obtain ⟨n7, ac7⟩ : ∃ n7, IsL (s6.heap.update (I + 1) (Obj.mapSeq (·.push y))) (I + 1) (rs ++ [y]).toArray n7 := by
          have := IsL.update ac6 (·.push y)
          rw [show rs.toArray.push y = (rs ++ [y]).toArray from by simp] at this
          exact ⟨_, this⟩
        have hs7 : Heap.SameBut (I + 1) s6.heap (s6.heap.update (I + 1) (Obj.mapSeq (·.push y))) := Heap.SameBut.update ..
        obtain ⟨g7, F7, x7, W7⟩ := hidden_turn (h' := s6.heap.update (I + 1) (Obj.mapSeq (·.push y))) (tk := s6.toks) (W := [I + 2, I + 1, I]) ok g6 F6 W6 (fun b o hb e => (hs7.2 b fun q => hb (by rw [q]; exact mD)).trans e)
        have ns7 : ∃ m, (s6.heap.update (I + 1) (Obj.mapSeq (·.push y))).Ns (I + 2) m := by obtain ⟨m, hm⟩ := Fi6.ns; exact ⟨m, hm.sameBut hs7 nDC.symm⟩
        have it7 : IsRangeIter (s6.heap.update (I + 1) (Obj.mapSeq (·.push y))) I (ra + ((k + 1 : Nat) : Int) * rc) ((N : Int) - ((k + 1 : Nat) : Int)) rc := (hs7.2 _ nDI.symm).trans it6
        replace W7 := W7 fun b hb => by
          rcases memW hb with rfl | rfl | rfl
          · exact liveNs ns7
          · exact ⟨_, ac7⟩
          · exact liveIt it7
        have x7' : ExtX [I + 2, I + 1, I] [] own6 H6 s6.heap own6 H6 (s6.heap.update (I + 1) (Obj.mapSeq (·.push y))) := ⟨fun b o hb e1 e2 e3 => ⟨e1, e2, o, (hs7.2 b fun q => hb (by rw [q]; exact mD)).trans e3, fun _ => rfl⟩, fun b _ _ _ o hb e1 e3 => ⟨e1, o, (hs7.2 b fun q => hb (by rw [q]; exact mD)).trans e3⟩⟩
        exact ⟨N - (k + 1), by omega, k + 1, own6, H6, acc ++ [v6], rs ++ [y], _, rfl, hkn, by simp; omega, g7, (y5.trans x6.toW.toX).trans x7', W7, F7, ns7, it7, ac7, vr1.append (.cons e6 .nil), t6⟩
    · have : k = N := by omega
      subst this
      have q1 := hJn acc H1 j1
      refine wpAny_pyNext_range_end a.han it1 (by omega) fun h' he => ?_
      obtain ⟨g3, F3, x3, _⟩ := hidden_turn (h' := h') (tk := s1.toks) (W := [I + 2, I + 1, I]) ok gg1 FF1 W1 (fun b o hb e => he b o (fun q => hb (by rw [q]; exact mI)) e)
      have x3' : ExtX [I + 2, I + 1, I] [] own1 H1 s1.heap own1 H1 h' := ⟨fun b o hb e1 e2 e3 => ⟨e1, e2, o, he b o (fun q => hb (by rw [q]; exact mI)) e3, fun _ => rfl⟩, fun b _ _ _ o hb e1 e3 => ⟨e1, o, he b o (fun q => hb (by rw [q]; exact mI)) e3⟩⟩
      have y3 := (ExtX.trans (xk.toW (wr := [])).toX (x1.trans x3')).drop (fun b hb => by
        cases q : s.heap.get? b with
        | none => rfl
        | some o =>
          have := below b o q
          rcases memW hb with rfl | rfl | rfl
          · exact absurd rfl this.1
          · exact absurd rfl this.2.1
          · exact absurd rfl this.2.2)
      have nsE : ∃ m, h'.Ns (I + 2) m := by obtain ⟨m, hm⟩ := ns1; exact ⟨m, hm.extBut he nCI⟩
      have acE : IsL h' (I + 1) rs.toArray n := he _ _ nDI ac1
      have wC := W1 _ mC
      have wD := W1 _ mD
      refine hend (I + 1) (I + 2) _ own1 H1 acc rs n nDC ?_ (Heap.get?_none_of_le (by rw [hI]; omega)) ⟨(W1 _ mD).h0, ?_⟩ ⟨⟨_, acE⟩, wD.hn, wD.on, wD.h0, wD.nf⟩ ⟨liveNs nsE, wC.hn, wC.on, wC.h0, wC.nf⟩ g3 y3.plain F3 nsE acE vr1 q1
      · exact Heap.get?_none_of_le (by rw [hI]; omega)
      · have := g.hiSys; rw [hI] at this; exact Nat.lt_succ_of_lt this
  have es : ({ s with heap := h₁, toks := s.toks + ([] : List (Str × Value)).length } : Shared) = { s with heap := h₁ } := rfl
  rw [es]
  exact codeAny_compStart_list loop (wpAny_pyIter_rangeiter hit loop)

end
end Mine
namespace Mine
section
variable {cx : Cx} {sc : Scope} {nm : List Str} {d : Nat}
/-- [elt for x in range(e) if c] -/
def tCompR (T : TE) (fr : List Nat) (TC : TB) (TElt : TE) : TE := fun ρ H Q => T ρ H fun v H1 => match v with
  | .int n => -(2 ^ 62) ≤ n ∧ n < 2 ^ 62 ∧ qCompR fr TC TElt ρ (fun acc H2 => ∀ c, H2 c = none → Q (.ref c) (H2.set c (.list acc))) 0 1 n.toNat H1
  | _ => False
theorem den_compR {elt e : Expr} {ifs : List Expr} {x : Str} {px pos np q : Pos} {scope : Scope} {fr : List Nat} {fnm : List Str} {T : TE} {TC : TB} {TElt : TE} (h : CompOk cx sc scope nm x fr fnm) (D : EDen cx sc nm d e T)
    (hr : sc.names.lookup ("range" : Str) = some .globalImplicit)
    (DI : IDen cx (relabelSc scope sc) (x :: fnm) d ifs TC) (DE : EDen cx (relabelSc scope sc) (x :: fnm) d elt TElt) (hs : ∀ env x, foldedSetIterable (.Call (.Name "range" np) [e] [] q) env x = pure x := by intros; rfl)
    (hs1 : ∀ env rest, starEach (e :: rest) env = (false, eval e env) :: starEach rest env := by intros; rfl) :
    EDen cx sc nm d (.ListComp elt [⟨.Name x px, .Call (.Name "range" np) [e] [] q, ifs, 0⟩] scope pos) (tCompR T fr TC TElt) := by
  intro A f s own H ρ Q a ok hn g F t
  rw [eval_ListComp]
  refine wpAny_comprehension_free (use := none) rfl (hs _) (closureFor_eq fun n hn' => let ⟨c, e, _⟩ := lookup_fr ok h hn'; ⟨c, e⟩) h.kind h.names (range_eval D hr hs1 (Qr := fun n H1 => -(2 ^ 62) ≤ n ∧ n < 2 ^ 62 ∧ qCompR fr TC TElt ρ (fun acc H2 => ∀ c, H2 c = none → Q (.ref c) (H2.set c (.list acc))) 0 1 n.toNat H1) a ok hn g F t fun n r t u v s1 own1 H1 g1 x1 ir h1 => ?_)
  obtain ⟨h1, h2, t1⟩ := h1
  have hsz : Builtin.Range.rangeSize 0 n 1 = (n.toNat : Int) := by rw [rangeSize_one]; split <;> omega
  refine comp_coreR (RR := fun acc C => compPost (model cx.prog cx.w) A NoE none _ acc C) a ok hn h DI DE g1 (F.ext ok x1) ir (small_one (by decide) (by decide) h1 h2) hsz t1 ?_
  intro D C s' own' H' acc rs n hDC hD0 hC0 hD1 wD wC g2 x2 F2 ns ac vr q
  obtain ⟨m, hm⟩ := ns
  refine ⟨m, hm, fun h' hs' => ?_⟩
  have ac' : IsL h' D rs.toArray n := (hs'.2 _ hDC).trans ac
  have g3 : GRel cx own' H' { s' with heap := h' } := g2.hidden fun b o hb e => by
    have : b ≠ C := by
      rintro rfl
      rcases hb with hb | hb | hb
      · exact hb wC.hn
      · exact hb wC.on
      · exact hb wC.h0
    exact (hs'.2 b this).trans e
  refine ⟨.ref D, own', H'.set D (.list acc), .ref _, GRel.enter (s := { s' with heap := h' }) (h' := h') (tk := s'.toks) g3 wD.hn wD.on hD1 ⟨rfl, fun _ _ => rfl⟩ ⟨rs, n, vr, ac'⟩, x1.trans ⟨fun b o e1 e2 e3 => ?_, fun b c l k ob e1 e2 => ?_⟩, q _ wD.hn⟩
  · obtain ⟨p, q, r⟩ := x2.all b o e1 e2 e3
    have hbD : b ≠ D := by rintro rfl; rw [hD0] at e3; cases e3
    have hbC : b ≠ C := by
      rintro rfl; rw [hC0] at e3; cases e3
    exact ⟨by rw [AH.set_ne _ _ hbD]; exact p, q, (hs'.2 b hbC).trans r⟩
  · obtain ⟨p, o', r⟩ := x2.tab b c l k ob e1 e2
    have hbD : b ≠ D := by rintro rfl; rw [hD0] at e2; cases e2
    have hbC : b ≠ C := by
      rintro rfl; rw [hC0] at e2; cases e2
    exact ⟨by rw [AH.set_ne _ _ hbD]; exact p, o', (hs'.2 b hbC).trans r⟩
/-- a list beside the empty one -/
def pNeNil : CmpP := fun v1 v2 H Q => match v1, v2 with
  | .ref a, .ref b => ∃ xs, isLst a xs H ∧ H b = some (.list []) ∧ Q (!xs.isEmpty) H
  | _, _ => False
def pEqNil : CmpP := fun v1 v2 H Q => match v1, v2 with
  | .ref a, .ref b => ∃ xs, isLst a xs H ∧ H b = some (.list []) ∧ Q xs.isEmpty H
  | _, _ => False
theorem nil_list {own H} {s : Shared} {b : Addr} (g : GRel cx own H s) (h : H b = some (.list [])) : s.heap.IsList b #[] := by
  obtain ⟨rs, n, vr, e⟩ := g.obj _ _ h
  cases vr
  exact ⟨_, e, rfl, n, rfl⟩
theorem op_neNil : COp cx d .NotEq pNeNil := by
  intro A s own H v1 v2 r1 r2 Q a g e1 e2 t
  cases e1 <;> cases e2 <;> first | exact t.elim | skip
  obtain ⟨xs, hx, hb, q⟩ := t
  obtain ⟨rs, vr, i1⟩ := g.anyList hx
  have i2 := nil_list g hb
  have hu : A.units < cLine := by have := a.un; omega
  cases xs with
  | nil =>
    cases vr
    exact PySem.EqBoolInt.of_rcne (SeqAt.RcNeAt.lists (e := fun _ => true) i1 i2 rfl hu (fun j h1 => by simp at h1)) (cmp_here g q)
  | cons v xs =>
    cases vr
    exact PySem.EqBoolInt.of_rcne (SeqAt.RcNeAt.lists_lengths i1 i2 (by simp) hu) (cmp_here g q)
theorem op_eqNil : COp cx d .Eq pEqNil := by
  intro A s own H v1 v2 r1 r2 Q a g e1 e2 t
  cases e1 <;> cases e2 <;> first | exact t.elim | skip
  obtain ⟨xs, hx, hb, q⟩ := t
  obtain ⟨rs, vr, i1⟩ := g.anyList hx
  have i2 := nil_list g hb
  have hu : A.units < cLine := by have := a.un; omega
  cases xs with
  | nil =>
    cases vr
    exact PySem.SeqAt.eq_listAt (e := fun _ => true) i1 i2 rfl hu (fun j h1 => by simp at h1) (cmp_here g q)
  | cons v xs =>
    cases vr
    exact PySem.SeqAt.eq_list_lengthsAt i1 i2 (by simp) hu (cmp_here g q)
end
end Mine
namespace Mine
theorem W_text_raw : WOk P_text_raw 1 0 T_text_raw := by
  rintro _ H Q ⟨a, s, rfl, ⟨hs, hg⟩, q⟩
  refine ⟨rfl, ?_⟩
  have ht := Sh.ty_text hg
  cases s <;> simp_all [T_text_raw, Sh.isText, Sh.raw, Sh.ty]
theorem W_is_punct : WOk P_is_punct 1 0 T_is_punct := by
  rintro _ H Q ⟨c, rfl, q⟩
  refine ⟨rfl, ?_⟩
  cases h : Txt.isspace c <;> simp_all [T_is_punct, isPunct]
theorem W_can_match : WOk P_can_match 2 2 T_can_match := by
  rintro _ H Q ⟨a, b, x, y, rfl, hx, hy, q⟩
  refine ⟨rfl, ?_⟩
  unfold isDl at hx hy
  unfold canMatch at q
  simp [T_can_match, hx, hy, List.replicate]
  have f : ∀ n : Nat, (n : Int).fmod 3 = ((n % 3 : Nat) : Int) := fun n => by rw [Int.fmod_eq_emod_of_nonneg _ (by omega)]; omega
  have e : ((x.orig : Int) + y.orig) = ((x.orig + y.orig : Nat) : Int) := by push_cast; rfl
  rw [e]
  simp only [f]
  have bi : ∀ n : Nat, ((n : Int) == 0) = (n == 0) := fun n => by cases n <;> simp <;> omega
  have bn : ∀ n : Nat, ((n : Int) != 0) = (n != 0) := fun n => by show (!((n : Int) == 0)) = !(n == 0); rw [bi]
  have bp : ∀ n : Nat, ((n : Int) = 0) = (n = 0) := fun n => by simp only [eq_iff_iff]; omega
  simp only [bi, bn, bp]
  generalize (x.orig + y.orig) % 3 = m at q ⊢
  generalize x.orig % 3 = m1 at q ⊢
  generalize y.orig % 3 = m2 at q ⊢
  clear f bi bn bp e
  cases m <;> cases m1 <;> cases m2 <;> cases h1 : x.cc <;> cases h2 : y.co <;> simp_all
theorem W_srclen : WOk P_srclen 1 0 T_srclen := by
  rintro _ H Q ⟨a, x, rfl, ⟨hs, hg⟩, hl, q⟩
  refine ⟨rfl, ?_⟩
  simp [T_srclen, hs, Sh.ty, L62.of (Nat.le_of_lt hl), q]
theorem W_clean : WOk P_clean 1 0 T_clean := by
  rintro _ H Q ⟨a, s, rfl, ⟨hs, hg⟩, q⟩
  refine ⟨rfl, ?_⟩
  simp [T_clean, hs, q]
theorem W_entity : WOk P_entity 2 0 T_entity := by
  rintro _ H Q ⟨l, r, rfl, he, q⟩
  refine ⟨rfl, ?_⟩
  simp [T_entity, he, q]

theorem W_has_strong : WOk P_has_strong 3 0 T_has_strong := by
  rintro _ H Q ⟨ap, oi, ci, s1, s2, rfl, h, q⟩
  refine ⟨rfl, ?_⟩
  obtain ⟨pv, a, b, h1, e1, e2, k1, k2, b1, b2, b5, b6⟩ := h.get
  simp [T_has_strong, h1, e1, e2, P_text_raw, b1, b2]
  refine ⟨s1, k1, b5, ?_⟩
  by_cases hs : 2 ≤ s1.raw.length
  · have : (2 : Int) ≤ s1.raw.length := by omega
    simp only [this, if_true]
    refine ⟨s2, k2, b6, ?_⟩
    simpa [hs, show ((2 : Int) ≤ s2.raw.length) = (2 ≤ s2.raw.length) from by simp only [eq_iff_iff]; omega] using q
  · have : ¬ (2 : Int) ≤ s1.raw.length := by omega
    simp only [this, if_false]
    simpa [hs] using q
theorem i_le (m n : Nat) : (decide ((m : Int) ≤ (n : Int))) = decide (m ≤ n) := by simp only [Int.ofNat_le]
theorem W_has_emph : WOk P_has_emph 3 0 T_has_emph := by
  rintro _ H Q ⟨ap, oi, ci, s1, s2, rfl, h, q⟩
  refine ⟨rfl, ?_⟩
  obtain ⟨pv, a, b, h1, e1, e2, k1, k2, b1, b2, b5, b6⟩ := h.get
  simp [T_has_emph, h1, e1, e2, P_text_raw, b1, b2]
  refine ⟨s1, k1, b5, ?_⟩
  by_cases hs : s1.raw.length = 0
  · simp [hs, b5]
    simpa [hs] using q
  · have hp : 0 < s1.raw.length := Nat.pos_of_ne_zero hs
    simp only [hs, if_false]
    refine ⟨s2, k2, b6, ?_⟩
    have e : ((s2.raw.length : Int) != 0) = decide (0 < s2.raw.length) := by
      by_cases h0 : s2.raw.length = 0
      · simp [h0]
      · have : (0 : Nat) < s2.raw.length := Nat.pos_of_ne_zero h0
        simp [h0, this]
    rw [e]
    simpa [hp] using q
theorem W_use_length : WOk P_use_length 5 1 T_use_length := by
  rintro _ H Q ⟨ap, a, b, oi, ci, s1, s2, x, y, rfl, h, hx, hy, q⟩
  refine ⟨rfl, ?_⟩
  unfold isDl at hx hy
  have c1 : ∀ k : Nat, ((2 : Int) ≤ (k : Int)) = (2 ≤ k) := fun k => by simp only [eq_iff_iff]; omega
  simp [T_use_length, hx, hy, List.replicate, P_has_strong, P_has_emph, c1]
  unfold useLen at q
  by_cases h1 : 2 ≤ x.length
  · by_cases h2 : 2 ≤ y.length
    · simp only [h1, h2, if_true]
      refine ⟨ap, oi, ci, ⟨rfl, rfl, rfl⟩, s1, s2, h, ?_⟩
      by_cases h3 : 2 ≤ s1.raw.length ∧ 2 ≤ s2.raw.length
      · rw [if_pos h3]
        rw [if_pos ⟨⟨h1, h2⟩, h3⟩] at q; exact q
      · rw [if_neg h3]
        rw [if_neg (fun z => h3 z.2)] at q
        refine ⟨ap, oi, ci, ⟨rfl, rfl, rfl⟩, s1, s2, h, ?_⟩
        split
        · rename_i h4; rw [if_pos h4] at q; exact q
        · rename_i h4; rw [if_neg h4] at q; exact q
    · simp only [h1, h2, if_true, if_false]
      rw [if_neg (fun z => h2 z.1.2)] at q
      refine ⟨ap, oi, ci, ⟨rfl, rfl, rfl⟩, s1, s2, h, ?_⟩
      split
      · rename_i h4; rw [if_pos h4] at q; exact q
      · rename_i h4; rw [if_neg h4] at q; exact q
  · simp only [h1, if_false]
    rw [if_neg (fun z => h1 z.1.1)] at q
    refine ⟨ap, oi, ci, ⟨rfl, rfl, rfl⟩, s1, s2, h, ?_⟩
    split
    · rename_i h4; rw [if_pos h4] at q; exact q
    · rename_i h4; rw [if_neg h4] at q; exact q
theorem pput_new : ∀ {es : List (Str × V)} {k : Str} {v : V}, k ∉ es.map (·.1) → pput es k v = es ++ [(k, v)]
  | [], _, _, _ => rfl
  | (x, u) :: r, k, v, h => by
    simp only [List.map_cons, List.mem_cons, not_or] at h
    unfold pput
    rw [if_neg (Ne.symm h.1), pput_new h.2]; rfl
theorem W_init : WOk P_init 8 0 T_init := by
  rintro _ H Q ⟨a, x, rfl, h, q⟩
  refine ⟨rfl, ?_⟩
  have q01 : ¬ Str.ofString "index" = Str.ofString "marker" := by decide
  have q02 : ¬ Str.ofString "index" = Str.ofString "length" := by decide
  have q03 : ¬ Str.ofString "index" = Str.ofString "can_open" := by decide
  have q04 : ¬ Str.ofString "index" = Str.ofString "can_close" := by decide
  have q05 : ¬ Str.ofString "index" = Str.ofString "orig_length" := by decide
  have q06 : ¬ Str.ofString "index" = Str.ofString "order" := by decide
  have q12 : ¬ Str.ofString "marker" = Str.ofString "length" := by decide
  have q13 : ¬ Str.ofString "marker" = Str.ofString "can_open" := by decide
  have q14 : ¬ Str.ofString "marker" = Str.ofString "can_close" := by decide
  have q15 : ¬ Str.ofString "marker" = Str.ofString "orig_length" := by decide
  have q16 : ¬ Str.ofString "marker" = Str.ofString "order" := by decide
  have q23 : ¬ Str.ofString "length" = Str.ofString "can_open" := by decide
  have q24 : ¬ Str.ofString "length" = Str.ofString "can_close" := by decide
  have q25 : ¬ Str.ofString "length" = Str.ofString "orig_length" := by decide
  have q26 : ¬ Str.ofString "length" = Str.ofString "order" := by decide
  have q34 : ¬ Str.ofString "can_open" = Str.ofString "can_close" := by decide
  have q35 : ¬ Str.ofString "can_open" = Str.ofString "orig_length" := by decide
  have q36 : ¬ Str.ofString "can_open" = Str.ofString "order" := by decide
  have q45 : ¬ Str.ofString "can_close" = Str.ofString "orig_length" := by decide
  have q46 : ¬ Str.ofString "can_close" = Str.ofString "order" := by decide
  have q56 : ¬ Str.ofString "orig_length" = Str.ofString "order" := by decide
  simp [T_init, h, set_set, pput, q01, q02, q03, q04, q05, q06, q12, q13, q14, q15, q16, q23, q24, q25, q26, q34, q35, q36, q45, q46, q56]
  exact q
theorem W_initidx : WOk P_initidx 3 0 T_initidx := by
  rintro _ H Q ⟨a, ad, xs, n, rfl, hne, ha, had, hn, hx, q⟩
  refine ⟨rfl, ?_⟩
  have q1 : ¬ Str.ofString "_tree" = Str.ofString "_next" := by decide
  have bx : L62 xs.length := L62.of (by omega)
  simp [T_initidx]
  intro c hc
  refine ⟨by omega, by omega, fun c1 hc1 => ?_⟩
  have nac : a ≠ c := ne_old hc ha
  obtain ⟨n1, hc1'⟩ := AH.set_none hc1
  have ha1 : ((H.set c (.list [.int 0])).set c1 (.list (List.replicate (n + 1) (.int 0)))) a = some (.inst cI []) := set_old hc1 (set_old hc ha)
  have had1 : ((H.set c (.list [.int 0])).set c1 (.list (List.replicate (n + 1) (.int 0)))) ad = some (.list xs) := set_old hc1 (set_old hc had)
  refine ⟨[], ha1, by simp, ?_⟩
  have had2 : ∀ o, (((H.set c (.list [.int 0])).set c1 (.list (List.replicate (n + 1) (.int 0)))).set a o) ad = some (.list xs) := fun o => by rw [AH.set_ne _ _ (Ne.symm hne)]; exact had1
  refine ⟨xs, .inl (had2 _), bx, by omega, by omega, fun c2 hc2 => ?_⟩
  obtain ⟨n2, hc2'⟩ := AH.set_none hc2
  obtain ⟨n3, hc2''⟩ := AH.set_none hc2'
  obtain ⟨n4, hc2'''⟩ := AH.set_none hc2''
  refine ⟨_, by rw [AH.set_ne _ _ (Ne.symm n2), AH.set_self], by simp [pput], ?_⟩
  have nac1 : a ≠ c1 := ne_old hc1 (set_old hc ha)
  refine q _ c1 c2 (fun b o hb e => ?_) hc1' hc2''' (Ne.symm n3) ?_ ?_ ?_
  · rw [AH.set_ne _ _ hb]
    refine set_old hc2 ?_
    rw [AH.set_ne _ _ hb]
    exact set_old hc1 (set_old hc e)
  · rw [AH.set_ne _ _ (Ne.symm nac1), AH.set_ne _ _ (Ne.symm n3), AH.set_ne _ _ (Ne.symm nac1), AH.set_self]
    congr 2
    unfold natsV
    simp
  · rw [AH.set_ne _ _ n2, AH.set_self]
    congr 2
  · rw [AH.set_self]
    simp [pput, q1, iF]
end Mine
namespace Mine
theorem natsV_len (l : List Nat) : (natsV l).length = l.length := by simp [natsV]
theorem getV_nats {l : List Nat} {i t : Nat} (h : l[i]? = some t) : getV (natsV l) (i : Int) = some (.int t) := by
  unfold getV natsV
  rw [if_pos (by omega)]
  simp [h]
theorem lowOk_of {c : Nat} (h : lowOk c = true) : Builtin.bitAnd (c : Int) (-(c : Int)) = (lowb c : Int) ∧ 0 < lowb c ∧ lowb c ≤ c := by
  unfold lowOk at h
  simp only [Bool.and_eq_true, decide_eq_true_eq] at h
  exact ⟨h.1.1, h.1.2, h.2⟩
theorem qSum_step {tree : List Nat} {f c s : Nat} (h : qSum tree (f + 1) (c + 1) = some s) : ∃ t r, tree[c + 1]? = some t ∧ lowOk (c + 1) = true ∧ qSum tree f (c + 1 - lowb (c + 1)) = some r ∧ s = t + r := by
  unfold qSum at h
  split at h
  · cases h
  · rename_i t ht
    split at h
    · rename_i hl
      cases q : qSum tree f (c + 1 - lowb (c + 1)) with
      | none => rw [q] at h; cases h
      | some r => rw [q] at h; simp at h; exact ⟨t, r, ht, hl, rfl, h.symm⟩
    · cases h

theorem W_current : WOk P_current 2 3 T_current := by
  rintro _ H Q ⟨ai, a, at', an, tree, x, n, rfl, hi, ht, hl, hx, hc, q⟩
  refine ⟨rfl, ?_⟩
  unfold isDl at hx
  unfold curM at hc
  split at hc
  · cases hc
  rename_i s hs
  split at hc
  · rename_i hsx
    cases hc
    simp [T_current, hx, List.replicate]
    refine ⟨fun m ρ H' => H' = H ∧ ∃ tot cur r : Nat, ρ = [some (.ref ai), some (.ref a), some (.int x.index), some (.int tot), some (.int cur)] ∧ qSum tree m cur = some r ∧ tot + r = s, tree.length + 1, ⟨rfl, 0, x.index + 1, s, rfl, hs, by omega⟩, ?_⟩
    rintro m ρ H' ⟨rfl, tot, cur, r, rfl, hq, hr⟩
    cases cur with
    | zero =>
      have : r = 0 := by unfold qSum at hq; simpa using hq.symm
      subst this
      simp
      have e : ((x.index : Int) - (tot : Int)) = ((x.index - s : Nat) : Int) := by omega
      rw [e]; exact q
    | succ c =>
      cases m with
      | zero => unfold qSum at hq; cases hq
      | succ f =>
        obtain ⟨t, r', h1, h2, h3, rfl⟩ := qSum_step hq
        obtain ⟨k1, k2, k3⟩ := lowOk_of h2
        have hlt := (List.getElem?_eq_some_iff.mp h1).1
        have hb : Bnd ((c : Int) + 1) := Bnd.of (by omega) (by omega)
        have e1 : getV (natsV tree) ((c : Int) + 1) = some (.int t) := getV_nats (i := c + 1) h1
        have hnz : ((c : Int) + 1 != 0) = true := by simp; omega
        have k1' : Builtin.bitAnd ((c : Int) + 1) (-((c : Int) + 1)) = (lowb (c + 1) : Int) := k1
        simp [hnz, hi, ht, hb, e1, k1']
        exact ⟨f, Nat.lt_succ_self _, tot + t, c + 1 - lowb (c + 1), ⟨by push_cast; rfl, by omega⟩, r', h3, by omega⟩
  · cases hc

theorem natsV_set (l : List Nat) (i n : Nat) : (natsV l).set i (.int n) = natsV (l.set i n) := by
  unfold natsV; rw [List.map_set]
theorem addT_step {r f c : Nat} {tree t1 : List Nat} (h : addT r (f + 1) tree c = some t1) : (tree.length ≤ c ∧ t1 = tree) ∨ ∃ t, tree[c]? = some t ∧ lowOk c = true ∧ addT r f (tree.set c (t + r)) (c + lowb c) = some t1 := by
  unfold addT at h
  split at h
  · rename_i hn
    cases h
    exact .inl ⟨by simpa using hn, rfl⟩
  · rename_i t ht
    split at h
    · rename_i hl; exact .inr ⟨t, ht, hl, h⟩
    · cases h
theorem W_collapse : WOk P_collapse 3 1 T_collapse := by
  rintro _ H Q ⟨ai, a, at', an, tree, t1, y, r, rfl, hr, hi, ht, hl, hy, hyi, hadd, q⟩
  refine ⟨rfl, ?_⟩
  unfold isDl at hy
  have hr0 : ((r : Int) != 0) = true := by simp; omega
  have hia : at' ≠ ai := by rintro rfl; rw [hi] at ht; cases ht
  simp [T_collapse, hy, List.replicate, hr0]
  refine ⟨fun m ρ H' => ∃ (cur : Nat) (tr : List Nat), H' = H.set at' (.list (natsV tr)) ∧ tr.length = tree.length ∧ ρ = [some (.ref ai), some (.ref a), some (.int r), some (.int cur)] ∧ addT r m tr cur = some t1, tree.length + 1, ⟨y.index + 1, tree, (set_same ht).symm, rfl, rfl, hadd⟩, ?_⟩
  rintro m ρ H' ⟨cur, tr, rfl, hlen, rfl, h⟩
  have hi' : (H.set at' (.list (natsV tr))) ai = some (.inst cI (iF at' an)) := by rw [AH.set_ne _ _ (Ne.symm hia)]; exact hi
  have b62 : L62 tr.length := L62.of (by omega)
  cases m with
  | zero => unfold addT at h; cases h
  | succ f =>
    rcases addT_step h with ⟨h1, rfl⟩ | ⟨t, h1, h2, h3⟩
    · have : ¬ cur < t1.length := by omega
      simp [hi', natsV_len, b62, this]
      exact q
    · have hlt := (List.getElem?_eq_some_iff.mp h1).1
      obtain ⟨k1, k2, k3⟩ := lowOk_of h2
      have hlt' : (cur : Int) < tr.length := by omega
      have hb : Bnd (cur : Int) := Bnd.of (by omega) (by omega)
      have b24 : L24 tr.length := L24.of (by omega)
      have e1 := getV_nats h1
      have e2 : (natsV tr).set cur (.int ((t : Int) + r)) = natsV (tr.set cur (t + r)) := by rw [← natsV_set]; push_cast; rfl
      simp [hi', natsV_len, b62, hlt', hb, e1, b24, set_set, e2, k1, hlt]
      exact ⟨f, Nat.lt_succ_self _, cur + lowb cur, tr.set cur (t + r), rfl, by simp [hlen], by push_cast; rfl, h3⟩

theorem W_find : WOk P_find 2 2 T_find := by
  rintro _ H Q ⟨ai, at', an, nxt, n1, o, r, rfl, hi, hn, hl, hf, q⟩
  refine ⟨rfl, ?_⟩
  unfold findM at hf
  split at hf
  · cases hf
  rename_i r' hr
  obtain ⟨n', hs, hh⟩ := Option.map_eq_some_iff.mp hf
  cases hh
  have hia : an ≠ ai := by rintro rfl; rw [hi] at hn; cases hn
  simp [T_find, List.replicate]
  refine ⟨fun m ρ H' => H' = H ∧ ∃ cur : Nat, ρ = [some (.ref ai), some (.int o), some (.int cur), none] ∧ rootOf nxt m cur = some r, nxt.length + 1, ⟨rfl, o, rfl, hr⟩, ?_⟩
  rintro m ρ H' ⟨rfl, cur, rfl, h⟩
  cases m with
  | zero => unfold rootOf at h; cases h
  | succ f =>
    unfold rootOf at h
    split at h
    · cases h
    rename_i p hp
    have hlt := (List.getElem?_eq_some_iff.mp hp).1
    have hb : Bnd (cur : Int) := Bnd.of (by omega) (by omega)
    have e1 := getV_nats hp
    by_cases hpc : p = cur
    · rw [if_pos hpc] at h
      cases h
      subst hpc
      simp [hi, hn, hb, e1]
      -- the second loop
      refine ⟨fun m ρ H2 => ∃ (o' : Nat) (tr : List Nat) (par : Option V), H2 = H'.set an (.list (natsV tr)) ∧ tr.length = nxt.length ∧ ρ = [some (.ref ai), some (.int o'), some (.int p), par] ∧ squash p m tr o' = some n1, nxt.length + 1, ⟨o, nxt, none, (set_same hn).symm, rfl, rfl, hs⟩, ?_⟩
      rintro m ρ H2 ⟨o', tr, par, rfl, hlen, rfl, h⟩
      have hi' : (H'.set an (.list (natsV tr))) ai = some (.inst cI (iF at' an)) := by rw [AH.set_ne _ _ (Ne.symm hia)]; exact hi
      cases m with
      | zero => unfold squash at h; cases h
      | succ f =>
        unfold squash at h
        split at h
        · cases h
        rename_i p2 hp2
        have hlt2 := (List.getElem?_eq_some_iff.mp hp2).1
        have hb2 : Bnd (o' : Int) := Bnd.of (by omega) (by omega)
        have e2 := getV_nats hp2
        have b24 : L24 tr.length := L24.of (by omega)
        by_cases hpo : p2 = o'
        · rw [if_pos hpo] at h
          cases h
          subst hpo
          simp [hi', hb2, e2]
          exact q
        · rw [if_neg hpo] at h
          have hne : ((p2 : Int) != (o' : Int)) = true := by simp; omega
          simp [hi', hb2, e2, hne, natsV_len, b24, hlt2, set_set]
          exact ⟨f, Nat.lt_succ_self _, p2, tr.set o' p, by rw [natsV_set], by simp [hlen], rfl, h⟩
    · rw [if_neg hpc] at h
      have hne : ((p : Int) != (cur : Int)) = true := by simp; omega
      simp [hi, hn, hb, e1, hne]
      exact ⟨f, Nat.lt_succ_self _, p, rfl, h⟩
theorem findM_len {nxt n1 : List Nat} {o r : Nat} (h : findM nxt o = some (r, n1)) : n1.length = nxt.length := by
  unfold findM at h
  split at h
  · cases h
  · obtain ⟨n', hs, hh⟩ := Option.map_eq_some_iff.mp h
    cases hh
    have : ∀ (f : Nat) (nx n' : List Nat) (o : Nat), squash r f nx o = some n' → n'.length = nx.length := by
      intro f
      induction f with
      | zero => intro nx n' o h; unfold squash at h; cases h
      | succ f ih =>
        intro nx n' o h
        unfold squash at h
        split at h
        · cases h
        · split at h
          · cases h; rfl
          · have := ih _ _ _ h; simpa using this
    exact this _ _ _ _ hs
theorem iF_find (x y : Addr) : pget (iF x y) (Str.ofString "_find") = none := iF_none _ _ _ (by decide) (by decide)
theorem deactM_len {nxt n1 : List Nat} {o : Nat} (h : deactM nxt o = some n1) : n1.length = nxt.length ∧ o < nxt.length := by
  unfold deactM at h
  split at h
  · cases h
  · rename_i r n hf
    have := findM_len hf
    split at h
    · cases h; simp; omega
    · cases h
theorem W_deactivate : WOk P_deactivate 2 0 T_deactivate := by
  rintro _ H Q ⟨ai, at', an, nxt, n1, o, rfl, hi, hn, hl, hd, q⟩
  refine ⟨rfl, ?_⟩
  have hia : an ≠ ai := by rintro rfl; rw [hi] at hn; cases hn
  unfold deactM at hd
  split at hd
  · cases hd
  rename_i r n hf
  split at hd
  · rename_i hlt
    cases hd
    have hlen := findM_len hf
    have hi' : (H.set an (.list (natsV n))) ai = some (.inst cI (iF at' an)) := by rw [AH.set_ne _ _ (Ne.symm hia)]; exact hi
    simp [T_deactivate, List.replicate, hi, iF_find]
    refine ⟨ai, at', an, nxt, n, o + 1, r, by push_cast; rfl, hi, hn, hl, hf, ?_⟩
    have b24 : L24 n.length := L24.of (by omega)
    simp [hi', natsV_len, hlt, b24, set_set, natsV_set]
    exact q
  · cases hd
end Mine
namespace Mine
theorem pput_hit (k : Str) (v u : V) (r : List (Str × V)) : pput ((k, v) :: r) k u = (k, u) :: r := by simp [pput]
theorem pput_miss {k x : Str} (v u : V) (r : List (Str × V)) (h : x ≠ k) : pput ((x, v) :: r) k u = (x, v) :: pput r k u := by simp [pput, h]
theorem put_length (x : Dl) (n : Nat) : pput (dF x) (Str.ofString "length") (.int n) = dF { x with length := n } := by
  unfold dF; rw [pput_miss _ _ _ (by decide), pput_miss _ _ _ (by decide), pput_hit]
theorem put_length0 (x : Dl) : pput (dF x) (Str.ofString "length") (.int 0) = dF { x with length := 0 } := put_length x 0
theorem put_co (x : Dl) (b : Bool) : pput (dF x) (Str.ofString "can_open") (.bool b) = dF { x with co := b } := by
  unfold dF; rw [pput_miss _ _ _ (by decide), pput_miss _ _ _ (by decide), pput_miss _ _ _ (by decide), pput_hit]
theorem put_cc (x : Dl) (b : Bool) : pput (dF x) (Str.ofString "can_close") (.bool b) = dF { x with cc := b } := by
  unfold dF; rw [pput_miss _ _ _ (by decide), pput_miss _ _ _ (by decide), pput_miss _ _ _ (by decide), pput_miss _ _ _ (by decide), pput_hit]
theorem put_raw (x y : Str) : pput (shF (.text x)) (Str.ofString "raw") (.str y) = shF (.text y) := by
  unfold shF; rw [pput_miss _ _ _ (by decide), pput_hit]
@[simp] theorem dF_len (x : Dl) : (dF x).length = 7 := rfl
theorem getV_refs {l : List Addr} {i : Nat} {a : Addr} (h : l[i]? = some a) : getV (l.map V.ref) (i : Int) = some (.ref a) := by
  unfold getV
  rw [if_pos (by omega)]
  simp [h]
theorem Dls.notList {H : AH} {as xs} (d : Dls H as xs) {b : Addr} {o : MO} (e : H b = some o) (ho : ∀ fs, o ≠ .inst cD fs) : b ∉ as := fun m => by
  obtain ⟨x, ex⟩ := d.mem b m
  have e' : H b = _ := ex
  rw [e] at e'; cases e'; exact ho _ rfl

theorem rangeM_step {e f o : Nat} {ds : List Dl} {nxt : List Nat} {res} (h : rangeM e (f + 1) ds nxt o = some res) :
    (e ≤ o ∧ res = (ds, nxt)) ∨ (o < e ∧ ∃ x n1 r n2, ds[o]? = some x ∧ deactM nxt o = some n1 ∧ findM n1 o = some (r, n2) ∧ rangeM e f (ds.set o { x with length := 0 }) n2 r = some res) := by
  unfold rangeM at h
  split at h
  · cases h; exact .inl ⟨by assumption, rfl⟩
  · rename_i hlt
    unfold zeroLen at h
    split at h
    · cases h
    rename_i ds1 hz
    split at hz
    · cases hz
    rename_i x hx
    cases hz
    split at h
    · cases h
    rename_i n1 hn1
    split at h
    · cases h
    rename_i r n2 hf
    exact .inr ⟨by omega, x, n1, r, n2, hx, hn1, hf, h⟩

theorem W_deactivate_range : WOk P_deactivate_range 4 1 T_deactivate_range := by
  rintro _ H Q ⟨ai, ad, at', an, nxt, n1, n2, ds, ds', das, s, e, r, rfl, hi, hn, hnd, hl, hls, hdl, hnds, hdsl, hf, hrg, q⟩
  refine ⟨rfl, ?_⟩
  have hia : an ≠ ai := by rintro rfl; rw [hi] at hn; cases hn
  have hand : an ∉ das := hdl.notList hn (by intro _; nofun)
  have hadd : ad ∉ das := hdl.notList hls (by intro _; nofun)
  have haid : ai ∉ das := hdl.notList hi (by intro fs h; cases h)
  have hl1 := findM_len hf
  simp [T_deactivate_range, List.replicate, hi, iF_find]
  refine ⟨ai, at', an, nxt, n1, s, r, by simp, hi, hn, hl, hf, ?_⟩
  refine ⟨fun m ρ H' => ∃ (o : Nat) (nx : List Nat) (dsx : List Dl), ρ = [some (.ref ai), some (.ref ad), some (.int s), some (.int e), some (.int o)] ∧ rangeM e m dsx nx o = some (ds', n2) ∧ H' an = some (.list (natsV nx)) ∧ nx.length = nxt.length ∧ Dls H' das dsx ∧ dsx.length = ds.length ∧ (∀ b, b ≠ an → b ∉ das → H' b = H b), ds.length + 1,
    ⟨r, n1, ds, rfl, hrg, AH.set_self .., hl1, hdl.frame fun b hb => AH.set_ne _ _ (by rintro rfl; exact hand hb), rfl, fun b h1 h2 => AH.set_ne _ _ h1⟩, ?_⟩
  rintro m ρ H' ⟨o, nx, dsx, rfl, h, hn', hnl, hd', hdsl', hk⟩
  cases m with
  | zero => unfold rangeM at h; cases h
  | succ f =>
    rcases rangeM_step h with ⟨h1, h2⟩ | ⟨h1, x, m1, r2, m2, hx, hda, hf2, hrest⟩
    · cases h2
      have : ¬ o < e := by omega
      simp [this]
      exact q H' hn' hd' hk
    · obtain ⟨a, ha, hax⟩ := hd'.get hx
      have hax' : H' a = some (.inst cD (dF x)) := hax
      have hlto := (List.getElem?_eq_some_iff.mp hx).1
      have hb : Bnd (o : Int) := Bnd.of (by omega) (by omega)
      have had' : H' ad = some (.list (das.map .ref)) := by rw [hk ad (Ne.symm hnd) hadd]; exact hls
      have hi' : H' ai = some (.inst cI (iF at' an)) := by rw [hk ai (Ne.symm hia) haid]; exact hi
      have hama := List.mem_of_getElem? ha
      have nai : ai ≠ a := by rintro rfl; exact haid hama
      have nan : an ≠ a := by rintro rfl; exact hand hama
      have e1 := getV_refs ha
      have i1 : (H'.set a (.inst cD (dF { x with length := 0 }))) ai = some (.inst cI (iF at' an)) := by rw [AH.set_ne _ _ nai]; exact hi'
      have i2 : (H'.set a (.inst cD (dF { x with length := 0 }))) an = some (.list (natsV nx)) := by rw [AH.set_ne _ _ nan]; exact hn'
      simp [h1, had', e1, hb, hax', put_length0, i1, iF_find]
      -- next[order] = find(order + 1)
      obtain ⟨dl1, dl2⟩ := deactM_len hda
      unfold deactM at hda
      split at hda
      · cases hda
      rename_i rr nn hff
      split at hda
      · rename_i hltn
        cases hda
        have hffl := findM_len hff
        refine ⟨ai, at', an, nx, nn, o + 1, rr, by push_cast; rfl, i1, i2, by omega, hff, ?_⟩
        have i3 : ∀ l, ((H'.set a (.inst cD (dF { x with length := 0 }))).set an l) ai = some (.inst cI (iF at' an)) := fun l => by rw [AH.set_ne _ _ (Ne.symm hia)]; exact i1
        have b24 : L24 nn.length := L24.of (by omega)
        simp [i3, natsV_len, hltn, b24, set_set, natsV_set, iF_find]
        refine ⟨ai, at', an, nn.set o rr, m2, o, r2, by simp, i3 _, AH.set_self .., by simp; omega, hf2, ?_⟩
        have hf2l := findM_len hf2
        refine ⟨f, Nat.lt_succ_self _, r2, rfl, m2, _, hrest, ?_, ?_, ?_, by simp [hdsl'], fun b hb1 hb2 => ?_⟩
        · rw [set_set, AH.set_self]
        · rw [hf2l]; simp; omega
        · have d1 := hd'.set (y := { x with length := 0 }) hnds ha
          rw [set_set]
          exact d1.frame fun b hb => AH.set_ne _ _ (by rintro rfl; exact hand hb)
        · rw [set_set, AH.set_ne _ _ hb1, AH.set_ne _ _ (by rintro rfl; exact hb2 hama)]
          exact hk b hb1 hb2
      · cases hda
end Mine
namespace Mine
def qForL (i : Nat) (B : TS) (ρ : Loc) (Q : Fl → Loc → AH → Prop) (l : Addr) (H1 : AH) : Prop :=
  ∃ xs, isLst l xs H1 ∧ ∃ J : Nat → Loc → AH → Prop, J 0 ρ H1 ∧
      (∀ k ρ H, k < xs.length → J k ρ H → isLst l xs H ∧ B (ρ.set i xs[k]?) H fun fl ρ2 H2 => match fl with
        | .next | .cont => J (k + 1) ρ2 H2
        | .brk => Q .next ρ2 H2
        | .ret v => Q (.ret v) ρ2 H2) ∧
      (∀ ρ H, J xs.length ρ H → isLst l xs H ∧ Q .next ρ H)
@[simp] theorem s_tForL {T : TE} {i : Nat} {B : TS} {ρ : Loc} {H : AH} {Q : Fl → Loc → AH → Prop} : tForL T i B ρ H Q = T ρ H fun v H1 => match v with | .ref l => qForL i B ρ Q l H1 | _ => False := rfl

theorem any_take {α : Type} {l : List α} {p : α → Bool} (h : ∀ (k : Nat) x, l[k]? = some x → p x = false) : l.any p = false := by
  rw [List.any_eq_false]
  intro x hx
  obtain ⟨k, hk⟩ := List.getElem?_of_mem hx
  simp [h k x hk]
theorem W_has_content : WOk P_has_content 3 1 T_has_content := by
  rintro _ H Q ⟨ap, pv, ss, st, en, rfl, hp, ht, hl, q⟩
  refine ⟨rfl, ?_⟩
  have b24 : L24 pv.length := L24.of hl
  simp [T_has_content, List.replicate, hp, b24]
  intro c hc
  have gr : Grow H (H.set c (.list (sliceV pv (some st) (some en)))) := .set hc
  have hts : Toks (H.set c (.list (sliceV pv (some st) (some en)))) (sliceV pv (some st) (some en)) (sliceV ss (some st) (some en)) := (ht.slice _ _).grow gr
  generalize sliceV pv (some st) (some en) = pv' at *
  generalize sliceV ss (some st) (some en) = ss' at *
  refine ⟨pv', .inl (AH.set_self ..), fun k ρ H' => H' = H.set c (.list pv') ∧ (∃ o, ρ = [some (.ref ap), some (.int st), some (.int en), o]) ∧ ∀ j s, j < k → ss'[j]? = some s → s.content = false, ⟨rfl, ⟨_, rfl⟩, by intro j s hj; omega⟩, ?_, ?_⟩
  · rintro k ρ H' hk ⟨rfl, ⟨o, rfl⟩, hj⟩
    refine ⟨.inl (AH.set_self ..), ?_⟩
    have hks : k < ss'.length := by rw [← hts.length]; exact hk
    obtain ⟨a, ha, hta, hgd⟩ := hts.get (i := k) (s := ss'[k]) (by simp [hks])
    have hsk : ss'[k]? = some ss'[k] := by simp [hks]
    generalize ss'[k] = s at *
    rw [ha]
    cases s with
    | text x =>
      simp [hta, Sh.ty]
      by_cases hx : x = Str.ofString ""
      · subst hx
        simp
        intro j s hjk hs
        by_cases hjk' : j < k
        · exact hj j s hjk' hs
        · have : j = k := by omega
          subst this
          rw [hsk] at hs; cases hs
          simp [Sh.content, Sh.isText, Sh.raw]
      · simp [hx]
        have : ss'.any Sh.content = true := List.any_eq_true.mpr ⟨_, List.mem_of_getElem? hsk, by simp [Sh.content, Sh.raw, hx]⟩
        rw [this] at q
        exact q _ gr
    | node ty l =>
      have hne : ty ≠ Str.ofString "text" := hgd
      simp [hta, Sh.ty, hne]
      have : ss'.any Sh.content = true := List.any_eq_true.mpr ⟨_, List.mem_of_getElem? hsk, by simp [Sh.content, Sh.isText]⟩
      rw [this] at q
      exact q _ gr
  · rintro ρ H' ⟨rfl, ⟨o, rfl⟩, hj⟩
    refine ⟨.inl (AH.set_self ..), ?_⟩
    simp
    have : ss'.any Sh.content = false := any_take fun k s hs => hj k s (by rw [hts.length]; exact (List.getElem?_eq_some_iff.mp hs).1) hs
    rw [this] at q
    exact q _ gr
theorem W_find_opener : WOk P_find_opener 4 2 T_find_opener := by
  rintro _ H Q ⟨ad, a, cp, ob, c, das, ds, rfl, hls, hdl, hc, hcp, hdsl, hob, q1, q2⟩
  refine ⟨rfl, ?_⟩
  unfold isDl at hc
  have hdl' := hdl.length
  simp [T_find_opener, List.replicate]
  refine ⟨fun m ρ H' => H' = H ∧ m ≤ cp ∧ (∃ o, ρ = [some (.ref ad), some (.int cp), some (.ref a), some (.int ob), some (.int ((m : Int) - 1)), o]) ∧ findOp ds c ob m = findOp ds c ob cp, cp, ⟨rfl, Nat.le_refl _, ⟨_, rfl⟩, rfl⟩, ?_⟩
  rintro m ρ H' ⟨rfl, hm, ⟨o, rfl⟩, hf⟩
  cases m with
  | zero =>
    have : ¬ ((ob : Int) ≤ -1) := by omega
    simp [this]
    exact q1 (by rw [← hf]; rfl)
  | succ k =>
    have hk : ((k + 1 : Nat) : Int) - 1 = (k : Int) := by push_cast; omega
    by_cases hob' : k < ob
    · have : ¬ ((ob : Int) ≤ (k : Int)) := by omega
      simp [this]
      refine q1 ?_
      rw [← hf]; unfold findOp; rw [if_pos hob']
    · have hle : ((ob : Int) ≤ (k : Int)) := by omega
      have hkl : k < ds.length := by omega
      have hx : ds[k]? = some ds[k] := by simp [hkl]
      obtain ⟨b, hb, hbx⟩ := hdl.get hx
      have hbx' : H' b = some (.inst cD (dF ds[k])) := hbx
      have e1 := getV_refs hb
      have bk : Bnd (k : Int) := Bnd.of (by omega) (by omega)
      have hstep : findOp ds c ob (k + 1) = if okOpener c ds[k] then some k else findOp ds c ob k := by
        rw [findOp, if_neg hob', hx]
      rw [hstep] at hf
      generalize ds[k] = x at *
      simp [hle, hls, e1, bk, hbx', hc, P_can_match]
      have miss : okOpener c x = false → ∃ m, m < k + 1 ∧ m ≤ cp ∧ (k : Int) = (m : Int) ∧ findOp ds c ob m = findOp ds c ob cp := fun h => ⟨k, by omega, by omega, rfl, by rw [h] at hf; simpa using hf⟩
      by_cases h1 : x.marker = c.marker
      · rw [if_pos h1]
        by_cases h2 : x.co = true
        · rw [if_pos h2]
          by_cases h3 : 0 < x.length
          · rw [if_pos h3]
            refine ⟨b, a, ⟨rfl, rfl⟩, x, hbx, c, hc, ?_⟩
            by_cases h4 : canMatch x c = true
            · rw [if_pos h4]
              have : okOpener c x = true := by unfold okOpener; simp [h1, h2, h3, h4]
              rw [this] at hf
              exact fun t ht => q2 k b (by simpa using hf.symm) hb t ht
            · rw [if_neg h4]
              exact miss (by unfold okOpener; simp [h4])
          · rw [if_neg h3]; exact miss (by unfold okOpener; simp; omega)
        · rw [if_neg h2]; exact miss (by unfold okOpener; simp [h2])
      · rw [if_neg h1]; exact miss (by unfold okOpener; simp [h1])
end Mine
namespace Mine
theorem strIn_one (x : Str) (c : Nat) : strIn ⟨#[c]⟩ x = decide (c ∈ x.cps.toList) := StrLaws.found_one x c
theorem star_is : Str.ofString "*" = (⟨#[42]⟩ : Str) := by decide
theorem under_is : Str.ofString "_" = (⟨#[95]⟩ : Str) := by decide
theorem both_is : (Str.ofString "*_").cps.toList = [42, 95] := by decide
theorem nl_is : Str.ofString "\n" = chS 10 := by decide
theorem strIn_sign (c : Nat) : strIn ⟨#[c]⟩ (Str.ofString "*_") = isSign c := by
  rw [strIn_one, both_is]
  unfold isSign
  by_cases h1 : c = 42 <;> by_cases h2 : c = 95 <;> simp [h1, h2]
theorem len_cps (x : Str) : x.length = x.cps.toList.length := by simp [Str.length]
theorem getV_nat {α : Type} {l : List α} {i : Nat} {a : α} (h : l[i]? = some a) : getV l (i : Int) = some a := by
  unfold getV; rw [if_pos (by omega)]; simpa using h

theorem W_next_run : WOk P_next_run 2 0 T_next_run := by
  rintro _ H Q ⟨x, pos, rfl, hl, hp, q⟩
  refine ⟨rfl, ?_⟩
  have bl : L62 x.length := L62.of (by omega)
  have hlc := len_cps x
  simp [T_next_run]
  refine ⟨fun m ρ H' => H' = H ∧ ∃ p : Nat, ρ = [some (.str x), some (.int p)] ∧ p ≤ x.length ∧ m = x.length - p ∧ p + ((x.cps.toList.drop p).takeWhile fun c => !isSign c).length = pos + ((x.cps.toList.drop pos).takeWhile fun c => !isSign c).length, x.length - pos, ⟨rfl, pos, rfl, hp, rfl, rfl⟩, ?_⟩
  rintro m ρ H' ⟨rfl, p, rfl, hpl, rfl, he⟩
  by_cases h1 : p < x.length
  · have hlt : p < x.cps.toList.length := by omega
    have hc : x.cps.toList[p]? = some x.cps.toList[p] := by simp
    have bp : Bnd (p : Int) := Bnd.of (by omega) (by omega)
    have hdrop : x.cps.toList.drop p = x.cps.toList[p] :: x.cps.toList.drop (p + 1) := List.drop_eq_getElem_cons hlt
    generalize x.cps.toList[p] = c at *
    have e1 := getV_nat hc
    simp [h1, bl, bp, e1, strIn_sign]
    by_cases hs : isSign c = true
    · simp [hs]
      rw [hdrop, List.takeWhile_cons_of_neg (by simp [hs])] at he
      rw [← he] at q
      simpa using q
    · have hs' : isSign c = false := by simpa using hs
      simp [hs']
      refine ⟨x.length - (p + 1), by omega, p + 1, by push_cast; rfl, by omega, by omega, ?_⟩
      rw [hdrop, List.takeWhile_cons_of_pos (by simp [hs'])] at he
      rw [← he]; simp; omega
  · have : p = x.length := by omega
    simp [h1, bl]
    have hd : x.cps.toList.drop p = [] := List.drop_of_length_le (by omega)
    rw [hd] at he
    rw [← he] at q
    simpa using q

theorem prev_ok {src : Str} {s : Nat} (h : 0 < s) (hl : s ≤ src.length) : getV src.cps.toList ((s : Int) - 1) = some (prevC src.cps.toList s) := by
  have e : (s : Int) - 1 = ((s - 1 : Nat) : Int) := by omega
  rw [e]
  have hlt : s - 1 < src.cps.toList.length := by rw [← len_cps]; omega
  refine getV_nat ?_
  unfold prevC
  rw [if_pos h, List.getElem?_eq_getElem hlt]; rfl
theorem next_ok {src : Str} {e : Nat} (h : e < src.length) : getV src.cps.toList (e : Int) = some (nextC src.cps.toList e) := by
  have hlt : e < src.cps.toList.length := by rw [← len_cps]; omega
  refine getV_nat ?_
  unfold nextC
  rw [List.getElem?_eq_getElem hlt]; rfl
theorem next_end {src : Str} {e : Nat} (h : ¬ e < src.length) : nextC src.cps.toList e = 10 := by
  unfold nextC
  rw [List.getElem?_eq_none (by rw [← len_cps]; omega)]; rfl
theorem W_can_open : WOk P_can_open 4 2 T_can_open := by
  rintro _ H Q ⟨src, s, n, m, rfl, hl, hs, q⟩
  refine ⟨rfl, ?_⟩
  have bl : L62 src.length := L62.of (by omega)
  have b1 : Bnd ((s : Int) - 1) := Bnd.of (by omega) (by omega)
  have b2 : Bnd ((s : Int) + n) := Bnd.of (by omega) (by omega)
  -- the two neighbours
  have key : ∀ p nx : Nat, prevC src.cps.toList s = p → nextC src.cps.toList (s + n) = nx → T_can_open ([V.str src, .int s, .int n, .str (chS m)].map some ++ List.replicate 2 none) H (retQ Q) := by
    intro p nx hp hn
    rw [hp, hn] at q
    have tail : ∀ (Q : V → AH → Prop), Q (.bool (canOpenM m p nx)) H → (tSeq (tIfS (tAndB [(tCmp pEqS (tVar 3) (tK (.str (Str.ofString "_")))), (tTest (tMeth0 pIsalnum (tVar 4))), (tTest (tMeth0 pIsalnum (tVar 5)))]) (tSeq (tRet (tK (.bool false))) tNil) tNil) (tSeq (tIfS (tTest (tMeth0 pIsspace (tVar 5))) (tSeq (tRet (tK (.bool false))) tNil) tNil) (tSeq (tIfS (tAndB [(tTest (tCall P_is_punct [(tVar 5)])), (tNotB (tTest (tMeth0 pIsspace (tVar 4)))), (tNotB (tTest (tCall P_is_punct [(tVar 4)])))]) (tSeq (tRet (tK (.bool false))) tNil) tNil) (tSeq (tRet (tK (.bool true))) tNil)))) [some (.str src), some (.int s), some (.int n), some (.str (chS m)), some (.str (chS p)), some (.str (chS nx))] H (retQ Q) := by
      intro Q q
      unfold canOpenM at q
      have hm : (m = 95) = (chS m = Str.ofString "_") := by rw [under_is]; simp [chS]
      simp [P_is_punct, ← hm]
      by_cases h1 : m = 95 <;> cases h2 : Txt.isalnum (chS p) <;> cases h3 : Txt.isalnum (chS nx) <;> cases h4 : Txt.isspace (chS nx) <;> cases h5 : isPunct (chS nx) <;> cases h6 : Txt.isspace (chS p) <;> cases h7 : isPunct (chS p) <;> simp_all
    by_cases h0 : 0 < s
    · have e1 := prev_ok (src := src) h0 (by omega)
      rw [hp] at e1
      by_cases h1 : s + n < src.length
      · have e2 := next_ok h1
        rw [hn] at e2
        have h1' : (s : Int) + n < src.length := by omega
        have e2' : getV src.cps.toList ((s : Int) + n) = some nx := by simpa using e2
        have := tail Q q
        simp [T_can_open, List.replicate, h0, b1, b2, e1, e2', h1', bl] at this ⊢
        exact this
      · have e2 := next_end h1
        rw [hn] at e2
        subst e2
        have h1' : ¬ (s : Int) + n < src.length := by omega
        have := tail Q q
        simp [T_can_open, List.replicate, h0, b1, b2, e1, h1', bl, nl_is] at this ⊢
        exact this
    · have e1 : p = 10 := by rw [← hp]; unfold prevC; rw [if_neg h0]
      subst e1
      by_cases h1 : s + n < src.length
      · have e2 := next_ok h1
        rw [hn] at e2
        have h1' : (s : Int) + n < src.length := by omega
        have e2' : getV src.cps.toList ((s : Int) + n) = some nx := by simpa using e2
        have := tail Q q
        simp [T_can_open, List.replicate, h0, b1, b2, e2', h1', bl, nl_is] at this ⊢
        exact this
      · have e2 := next_end h1
        rw [hn] at e2
        subst e2
        have h1' : ¬ (s : Int) + n < src.length := by omega
        have := tail Q q
        simp [T_can_open, List.replicate, h0, b1, b2, h1', bl, nl_is] at this ⊢
        exact this
  exact key _ _ rfl rfl
theorem W_can_close : WOk P_can_close 4 2 T_can_close := by
  rintro _ H Q ⟨src, s, n, m, rfl, hl, hs, q⟩
  refine ⟨rfl, ?_⟩
  have bl : L62 src.length := L62.of (by omega)
  have b1 : Bnd ((s : Int) - 1) := Bnd.of (by omega) (by omega)
  have b2 : Bnd ((s : Int) + n) := Bnd.of (by omega) (by omega)
  -- the two neighbours
  have key : ∀ p nx : Nat, prevC src.cps.toList s = p → nextC src.cps.toList (s + n) = nx → T_can_close ([V.str src, .int s, .int n, .str (chS m)].map some ++ List.replicate 2 none) H (retQ Q) := by
    intro p nx hp hn
    rw [hp, hn] at q
    have tail : ∀ (Q : V → AH → Prop), Q (.bool (canCloseM m p nx)) H → (tSeq (tIfS (tAndB [(tCmp pEqS (tVar 3) (tK (.str (Str.ofString "_")))), (tTest (tMeth0 pIsalnum (tVar 4))), (tTest (tMeth0 pIsalnum (tVar 5)))]) (tSeq (tRet (tK (.bool false))) tNil) tNil) (tSeq (tIfS (tTest (tMeth0 pIsspace (tVar 4))) (tSeq (tRet (tK (.bool false))) tNil) tNil) (tSeq (tIfS (tAndB [(tTest (tCall P_is_punct [(tVar 4)])), (tNotB (tTest (tMeth0 pIsspace (tVar 5)))), (tNotB (tTest (tCall P_is_punct [(tVar 5)])))]) (tSeq (tRet (tK (.bool false))) tNil) tNil) (tSeq (tRet (tK (.bool true))) tNil)))) [some (.str src), some (.int s), some (.int n), some (.str (chS m)), some (.str (chS p)), some (.str (chS nx))] H (retQ Q) := by
      intro Q q
      unfold canCloseM at q
      have hm : (m = 95) = (chS m = Str.ofString "_") := by rw [under_is]; simp [chS]
      simp [P_is_punct, ← hm]
      by_cases h1 : m = 95 <;> cases h2 : Txt.isalnum (chS p) <;> cases h3 : Txt.isalnum (chS nx) <;> cases h4 : Txt.isspace (chS nx) <;> cases h5 : isPunct (chS nx) <;> cases h6 : Txt.isspace (chS p) <;> cases h7 : isPunct (chS p) <;> simp_all
    by_cases h0 : 0 < s
    · have e1 := prev_ok (src := src) h0 (by omega)
      rw [hp] at e1
      by_cases h1 : s + n < src.length
      · have e2 := next_ok h1
        rw [hn] at e2
        have h1' : (s : Int) + n < src.length := by omega
        have e2' : getV src.cps.toList ((s : Int) + n) = some nx := by simpa using e2
        have := tail Q q
        simp [T_can_close, List.replicate, h0, b1, b2, e1, e2', h1', bl] at this ⊢
        exact this
      · have e2 := next_end h1
        rw [hn] at e2
        subst e2
        have h1' : ¬ (s : Int) + n < src.length := by omega
        have := tail Q q
        simp [T_can_close, List.replicate, h0, b1, b2, e1, h1', bl, nl_is] at this ⊢
        exact this
    · have e1 : p = 10 := by rw [← hp]; unfold prevC; rw [if_neg h0]
      subst e1
      by_cases h1 : s + n < src.length
      · have e2 := next_ok h1
        rw [hn] at e2
        have h1' : (s : Int) + n < src.length := by omega
        have e2' : getV src.cps.toList ((s : Int) + n) = some nx := by simpa using e2
        have := tail Q q
        simp [T_can_close, List.replicate, h0, b1, b2, e2', h1', bl, nl_is] at this ⊢
        exact this
      · have e2 := next_end h1
        rw [hn] at e2
        subst e2
        have h1' : ¬ (s : Int) + n < src.length := by omega
        have := tail Q q
        simp [T_can_close, List.replicate, h0, b1, b2, h1', bl, nl_is] at this ⊢
        exact this
  exact key _ _ rfl rfl
end Mine
namespace Mine
@[simp] theorem s_dictGet2 {T Tk Td : TE} {ρ : Loc} {H : AH} {Q : V → AH → Prop} : tDictGet2 T Tk Td ρ H Q = T ρ H fun v H1 => isD v H1 ∧ Tk ρ H1 fun k H2 => Td ρ H2 fun dv H3 => match v, k with
  | .ref a, .str x => ∃ es, H3 a = some (.dict es) ∧ Q ((pget es x).getD dv) H3
  | _, _ => False := rfl
@[simp] theorem s_isD {a : Addr} {H : AH} : isD (.ref a) H = ∃ es, H a = some (.dict es) := rfl
theorem hasSign_eq (x : Str) : hasSign x = (strIn (Str.ofString "*") x || strIn (Str.ofString "_") x) := by
  rw [star_is, under_is, strIn_one, strIn_one]
  unfold hasSign
  have : ∀ l : List Nat, l.any isSign = (decide (42 ∈ l) || decide (95 ∈ l)) := fun l => by
    induction l with
    | nil => rfl
    | cons c l ih =>
      rw [List.any_cons, ih]
      unfold isSign
      by_cases h1 : c = 42
      · subst h1; simp
      · by_cases h2 : c = 95
        · subst h2; simp
        · have h1' : ¬ (42 = c) := fun e => h1 e.symm
          have h2' : ¬ (95 = c) := fun e => h2 e.symm
          simp [h1, h2, h1', h2']
  exact this _
theorem W_contains : WOk P_contains 1 2 T_contains := by
  rintro _ H Q ⟨l, a, x, rfl, hl, ⟨ha, _⟩, q⟩
  refine ⟨rfl, ?_⟩
  rw [hasSign_eq] at q
  simp [T_contains, List.replicate]
  refine ⟨[.ref a], .inl hl, fun k ρ H' => H' = H ∧ ((k = 0 ∧ ρ = [some (.ref l), none, none]) ∨ (k = 1 ∧ strIn (Str.ofString "*") x = false ∧ strIn (Str.ofString "_") x = false ∧ ∃ o1 o2, ρ = [some (.ref l), o1, o2])), ⟨rfl, .inl ⟨rfl, rfl⟩⟩, ?_, ?_⟩
  · rintro k ρ H' hk ⟨rfl, h⟩
    rcases h with ⟨rfl, rfl⟩ | ⟨rfl, _⟩
    · refine ⟨.inl hl, ?_⟩
      simp [ha, Sh.ty]
      cases h1 : strIn (Str.ofString "*") x <;> cases h2 : strIn (Str.ofString "_") x <;> simp_all
    · simp at hk
  · rintro ρ H' ⟨rfl, h⟩
    rcases h with ⟨h, _⟩ | ⟨_, h1, h2, o1, o2, rfl⟩
    · simp at h
    · refine ⟨.inl hl, ?_⟩
      simp
      rw [h1, h2] at q; exact q
theorem W_source : WOk P_source 1 2 T_source := by
  rintro _ H Q ⟨l, a, x, rfl, hl, ⟨ha, _⟩, hx, q⟩
  refine ⟨rfl, ?_⟩
  have bx : L24 x.length := L24.of (by omega)
  simp [T_source, List.replicate]
  intro c hc
  have nlc : l ≠ c := ne_old hc hl
  have nac : a ≠ c := ne_old hc ha
  refine ⟨[.ref a], .inl (set_old hc hl), fun k ρ H' => (k = 0 ∧ H' = H.set c (.list []) ∧ ρ = [some (.ref l), some (.ref c), none]) ∨ (k = 1 ∧ H' = H.set c (.list [.str x]) ∧ ∃ o, ρ = [some (.ref l), some (.ref c), o]), .inl ⟨rfl, rfl, rfl⟩, ?_, ?_⟩
  · rintro k ρ H' hk h
    rcases h with ⟨rfl, rfl, rfl⟩ | ⟨rfl, _⟩
    · refine ⟨.inl (set_old hc hl), ?_⟩
      have ha' := set_old (o := .list []) hc ha
      simp [ha', Sh.ty, set_set]
    · simp at hk
  · rintro ρ H' h
    rcases h with ⟨h, _⟩ | ⟨_, rfl, o, rfl⟩
    · simp at h
    · refine ⟨.inl (set_old hc hl), ?_⟩
      have e : (Str.ofString "").length = 0 := by decide
      simp
      refine ⟨[x], rfl, by simpa [e] using bx, ?_⟩
      have : Str.join (Str.ofString "") [x] = x := rfl
      rw [this]
      exact q _ (.set hc)
end Mine
namespace Mine
@[simp] theorem s_tSetComp {i : Nat} {T TE' : TE} {fr : List Nat} {C : TB} {ρ : Loc} {H : AH} {QS : Fl → Loc → AH → Prop} : tSetComp i T fr C TE' ρ H QS = T ρ H fun v H1 => match v with
  | .ref l => qComp fr C TE' ρ (fun acc H2 => ∀ c, H2 c = none → QS .next (ρ.set i (some (.ref c))) (H2.set c (.list acc))) l H1
  | _ => False := rfl
@[simp] theorem s_tExtGen {To Ti : TE} {iy : Nat} {c P : Addr} {l k : Int} {ρ : Loc} {H : AH} {QS : Fl → Loc → AH → Prop} : tExtGen To Ti iy c P l k ρ H QS = To ρ H fun ov H1 => isL ov H1 ∧ Ti ρ H1 fun iv H2 => match ov, iv with
  | .ref a, .ref lc => ∃ xs ys dv, H2 a = some (.list xs) ∧ isLst lc ys H2 ∧ a ≠ lc ∧ ρ[iy]? = some (some dv) ∧ H2 P = some (.tab c l k) ∧ M24 (xs.length + ys.length) ∧
      ∀ cs : List Addr, cs.length = ys.length → cs.Nodup → (∀ b ∈ cs, H2 b = none) → QS .next ρ ((tupsAH H2 cs ys dv).set a (.list (xs ++ cs.map .ref)))
  | _, _ => False := rfl
@[simp] theorem s_tTrueB {ρ : Loc} {H : AH} {Q : Bool → AH → Prop} : tTrueB ρ H Q = Q true H := rfl

@[simp] theorem s_truR {a : Addr} {H : AH} {QB : Bool → AH → Prop} : tTruth (.ref a) H QB = ∃ xs, (H a = some (.list xs) ∨ H a = some (.ro xs)) ∧ L62 xs.length ∧ QB (decide (0 < xs.length)) H := rfl

/-- what waits on the stack: every pair a part of the given forest and its depth -/
inductive Stk (H0 H : AH) : List V → List (Nd × Nat) → Prop
  | nil : Stk H0 H [] []
  | cons {t v n d fp vs is} : H t = some (.tup [v, .int ((d : Nat) : Int)]) → H0 t = none → RepN H0 v n fp → Stk H0 H vs is → Stk H0 H (.ref t :: vs) ((n, d) :: is)
theorem Stk.frame {H0 H H' : AH} : ∀ {vs is}, Stk H0 H vs is → (∀ t o, H t = some (.tup o) → H' t = some (.tup o)) → Stk H0 H' vs is
  | _, _, .nil, _ => .nil
  | _, _, .cons h1 h2 h3 h4, h => .cons (h _ _ h1) h2 h3 (h4.frame h)
theorem Stk.length {H0 H : AH} : ∀ {vs is}, Stk H0 H vs is → vs.length = is.length
  | _, _, .nil => rfl
  | _, _, .cons _ _ _ h => by simp [h.length]
theorem Stk.append {H0 H : AH} : ∀ {vs is vs' is'}, Stk H0 H vs is → Stk H0 H vs' is' → Stk H0 H (vs ++ vs') (is ++ is')
  | _, _, _, _, .nil, h => h
  | _, _, _, _, .cons h1 h2 h3 h4, h => .cons h1 h2 h3 (h4.append h)
theorem Stk.last {H0 H : AH} : ∀ {vs is}, Stk H0 H vs is → vs ≠ [] → ∃ vs' is' t v n d fp, vs = vs' ++ [.ref t] ∧ is = is' ++ [(n, d)] ∧ Stk H0 H vs' is' ∧ H t = some (.tup [v, .int ((d : Nat) : Int)]) ∧ RepN H0 v n fp
  | _, _, .nil, h => (h rfl).elim
  | _, _, .cons (vs := []) h1 h2 h3 .nil, _ => ⟨[], [], _, _, _, _, _, rfl, rfl, .nil, h1, h3⟩
  | _, _, .cons (vs := w :: ws) h1 h2 h3 h4, _ => by
    obtain ⟨vs', is', t, v, n, d, fp, e1, e2, s, k⟩ := h4.last (by simp)
    exact ⟨_ :: vs', _ :: is', t, v, n, d, fp, by rw [e1]; rfl, by rw [e2]; rfl, .cons h1 h2 h3 s, k⟩
def valN (n : Nd) (d : Nat) : Nat := match n with
  | .text _ => 0
  | .node _ ks => d + 1 + depthL ks
def maxI : List (Nd × Nat) → Nat
  | [] => 0
  | (n, d) :: r => max (valN n d) (maxI r)
def sizeI : List (Nd × Nat) → Nat
  | [] => 0
  | (n, _) :: r => sizeN n + sizeI r
theorem maxI_append : ∀ a b, maxI (a ++ b) = max (maxI a) (maxI b)
  | [], b => by simp [maxI]
  | (n, d) :: r, b => by simp only [List.cons_append, maxI, maxI_append r b]; omega
theorem sizeI_append : ∀ a b, sizeI (a ++ b) = sizeI a + sizeI b
  | [], b => by simp [sizeI]
  | (n, d) :: r, b => by simp only [List.cons_append, sizeI, sizeI_append r b]; omega
theorem sizeN_pos (n : Nd) : 0 < sizeN n := by cases n <;> simp only [sizeN] <;> omega
theorem len_sizeI : ∀ a, a.length ≤ sizeI a
  | [] => by simp [sizeI]
  | (n, d) :: r => by have := len_sizeI r; have := sizeN_pos n; simp only [List.length_cons, sizeI]; omega
theorem maxI_kids (d : Nat) : ∀ ks : List Nd, max d (maxI (ks.map fun k => (k, d))) = d + depthL ks
  | [] => by simp [maxI, depthL]
  | k :: r => by
    have := maxI_kids d r
    cases k with
    | text x => simp only [List.map_cons, maxI, depthL, valN, depthN]; omega
    | node ty ks => simp only [List.map_cons, maxI, depthL, valN, depthN]; omega
theorem sizeI_kids (d : Nat) : ∀ ks : List Nd, sizeI (ks.map fun k => (k, d)) = sizeL ks
  | [] => by simp [sizeI, sizeL]
  | k :: r => by simp only [List.map_cons, sizeI, sizeL, sizeI_kids d r]
theorem len_sizeL (l : List Nd) : l.length ≤ sizeL l := by
  have := len_sizeI (l.map fun k => (k, 0))
  rw [sizeI_kids] at this
  simpa using this
/-- fresh pairs -/
theorem Stk.fresh {H0 H' : AH} {d : Nat} : ∀ {vs ns fp} {cs : List Addr}, RepL H0 vs ns fp → cs.length = vs.length → (∀ (j : Nat) (c : Addr) (y : V), cs[j]? = some c → vs[j]? = some y → H' c = some (.tup [y, .int ((d : Nat) : Int)])) → (∀ c ∈ cs, H0 c = none) → Stk H0 H' (cs.map .ref) (ns.map fun k => (k, d))
  | _, _, _, [], .nil, _, _, _ => .nil
  | _, _, _, c :: cs, .cons h1 h2, hl, ht, h0 => .cons (ht 0 c _ rfl rfl) (h0 c (by simp)) h1 (Stk.fresh h2 (by simpa using hl) (fun j c' y h1 h2 => ht (j + 1) c' y (by simpa using h1) (by simpa using h2)) fun c' hc => h0 c' (by simp [hc]))
theorem RepL.get {H : AH} : ∀ {vs ns fp}, RepL H vs ns fp → ∀ {k : Nat} {v}, vs[k]? = some v → ∃ n f, ns[k]? = some n ∧ RepN H v n f ∧ ∀ a ∈ f, a ∈ fp
  | _, _, _, .nil, k, v, h => by simp at h
  | _, _, _, .cons (f1 := f1) h1 h2, 0, v, h => by
    simp at h; subst h
    exact ⟨_, _, rfl, h1, fun a ha => by simp [ha]⟩
  | _, _, _, .cons (f1 := f1) h1 h2, k + 1, v, h => by
    simp only [List.getElem?_cons_succ] at h ⊢
    obtain ⟨n, f, e, r, s⟩ := h2.get h
    exact ⟨n, f, e, r, fun a ha => by simp [s a ha]⟩

theorem W_token_depth : WOk P_token_depth 1 4 T_token_depth := by
  rintro _ H Q ⟨l, vs', ns, fp, rfl, hl, hr, htab, hsz, q⟩
  refine ⟨rfl, ?_⟩
  have hnl := hr.length
  have hns := len_sizeL ns
  simp [T_token_depth, List.replicate]
  refine ⟨vs', .inl hl, by omega, fun k acc H' => Grow H H' ∧ Stk H H' acc ((ns.take k).map fun n => (n, 0)), ⟨.refl _, .nil⟩, ?_, ?_⟩
  · rintro k acc H' hk ⟨g, st⟩
    refine ⟨.inl (g _ _ hl), ?_⟩
    have hv : vs'[k]? = some vs'[k] := by simp [hk]
    generalize vs'[k] = v at *
    obtain ⟨n, f, e, rn, _⟩ := hr.get hv
    simp [hv]
    intro c hc
    refine ⟨g.trans (.set hc), ?_⟩
    have hk' : k < ns.length := by omega
    have hH0 : H c = none := by
      cases e0 : H c with
      | none => rfl
      | some o => rw [g _ _ e0] at hc; cases hc
    have e2 : (ns.take (k + 1)) = ns.take k ++ [n] := by rw [List.take_add_one, e]; rfl
    rw [← List.map_take, e2, List.map_append]
    exact (st.frame fun t o h => set_old hc h).append (.cons (AH.set_self ..) hH0 rn .nil)
  · rintro acc H' ⟨g, st⟩
    refine ⟨.inl (g _ _ hl), ?_⟩
    rw [List.take_of_length_le (by omega)] at st
    intro c hc
    have hH0 : H c = none := by
      cases e0 : H c with
      | none => rfl
      | some o => rw [g _ _ e0] at hc; cases hc
    have hcp : c ≠ pTD := by rintro rfl; rw [htab] at hH0; cases hH0
    refine ⟨fun m ρ H2 => ∃ (mx : Nat) (xs : List V) (is : List (Nd × Nat)) (o1 o2 : Option V), ρ = [some (.ref l), some (.int mx), some (.ref c), o1, o2] ∧ H2 c = some (.list xs) ∧ Stk H H2 xs is ∧ Grow H H2 ∧ m = sizeI is ∧ m ≤ 100000 ∧ max mx (maxI is) = depthL ns, _, ⟨0, acc, ns.map fun n => (n, 0), none, none, rfl, AH.set_self .., st.frame fun t o h => set_old hc h, g.trans (.set hc), rfl, by rw [sizeI_kids]; exact hsz, by rw [maxI_kids]; omega⟩, ?_⟩
    rintro m ρ H2 ⟨mx, xs, is, o1, o2, rfl, h1, h2, h3, rfl, hm, h5⟩
    have hxl := h2.length
    have := len_sizeI is
    have b62 : L62 xs.length := L62.of (by omega)
    simp
    refine ⟨xs, .inl h1, b62, ?_⟩
    by_cases hx : xs = []
    · subst hx
      simp
      cases h2
      rw [show depthL ns = mx by simpa [maxI] using h5.symm] at q
      exact q H2 h3
    · have hx' : 0 < xs.length := List.length_pos_iff.mpr hx
      obtain ⟨xs', is', t, v, n, d, fp, rfl, rfl, k1, k2, k3⟩ := h2.last hx
      rw [sizeI_append] at hm ⊢
      rw [maxI_append] at h5
      have hxl' : xs'.length = is'.length := by simpa using hxl
      have := len_sizeI is'
      have m24 : M24 xs'.length := M24.of (by omega)
      have htc : t ≠ c := by rintro rfl; rw [h1] at k2; cases k2
      simp [h1, hx', m24]
      refine ⟨xs', _, ⟨rfl, rfl⟩, m24, _, by rw [AH.set_ne _ _ htc]; exact k2, rfl, ?_⟩
      have hsr := Stk.length k1
      cases k3 with
      | text e =>
        rename_i a x
        have e' := h3 _ _ e
        have hac : a ≠ c := ne_old hH0 e
        simp [setAll, AH.set_ne _ _ hac, e']
        have hp := sizeN_pos (.text x)
        simp only [maxI, valN, sizeI] at h5 hm ⊢
        refine ⟨sizeI is', by omega, mx, rfl, is', k1.frame fun t' o h => by rw [AH.set_ne _ _ (by rintro rfl; rw [h1] at h; cases h)]; exact h, fun b o h => by rw [AH.set_ne _ _ (ne_old hH0 h)]; exact h3 _ _ h, rfl, by omega, by simpa using h5⟩
      | node e1 e2 e3 rl =>
        rename_i a ty l' vs2 ns2 fp2
        have e1' := h3 _ _ e1
        have e3' := h3 _ _ e3
        have hac : a ≠ c := ne_old hH0 e1
        have hlc : l' ≠ c := ne_old hH0 e3
        have hrl := rl.length
        have hl2 := len_sizeL ns2
        simp only [maxI, valN, sizeI, sizeN] at h5 hm ⊢
        have mm : M24 (xs'.length + vs2.length) := M24.of (by omega)
        have htab' := h3 _ _ htab
        simp [setAll, AH.set_ne _ _ hac, e1', AH.set_ne _ _ hlc, e3']
        refine ⟨vs2, .inl (by rw [AH.set_ne _ _ hlc]; exact e3'), Ne.symm hlc, by rw [AH.set_ne _ _ (Ne.symm hcp)]; exact htab', mm, ?_⟩
        intro cs hcl hcn hcf
        have hcf2 : ∀ b ∈ cs, b ≠ c ∧ H2 b = none := fun b hb => by
          have := hcf b hb
          by_cases hbc : b = c
          · subst hbc; rw [AH.set_self] at this; cases this
          · exact ⟨hbc, by rwa [AH.set_ne _ _ hbc] at this⟩
        have hccs : c ∉ cs := fun h => (hcf2 c h).1 rfl
        have hcf0 : ∀ b ∈ cs, H b = none := fun b hb => by
          cases e0 : H b with
          | none => rfl
          | some o => have := h3 _ _ e0; rw [(hcf2 b hb).2] at this; cases this
        have old : ∀ b, b ≠ c → b ∉ cs → ((tupsAH (H2.set c (.list xs')) cs vs2 (.int ((d : Int) + 1))).set c (.list (xs' ++ cs.map .ref))) b = H2 b := fun b h1 h2 => by
          rw [AH.set_ne _ _ h1, tupsAH_ne h2, AH.set_ne _ _ h1]
        refine ⟨sizeI is' + sizeL ns2, by omega, max mx (d + 1), by push_cast; omega, is' ++ ns2.map fun k => (k, d + 1), ?_, ?_, by rw [sizeI_append, sizeI_kids], by omega, ?_⟩
        · refine (k1.frame fun t' o h => ?_).append (Stk.fresh rl hcl ?_ hcf0)
          · have h2c : t' ≠ c := by rintro rfl; rw [h1] at h; cases h
            rw [old _ h2c fun hm => by rw [(hcf2 _ hm).2] at h; cases h]; exact h
          · intro j b y hb hy
            have hbm := List.mem_of_getElem? hb
            rw [AH.set_ne _ _ (hcf2 b hbm).1]
            exact tupsAH_at hcn hb hy
        · intro b o h
          rw [old _ (ne_old hH0 h) fun hm => by rw [hcf0 _ hm] at h; cases h]; exact h3 _ _ h
        · rw [maxI_append]
          have := maxI_kids (d + 1) ns2
          omega
end Mine
namespace Mine
theorem clip_in {n i : Nat} (h : i ≤ n) : clipAt n (i : Int) = i := by
  unfold clipAt
  split <;> omega
theorem sliceV_mid {α : Type} {xs : List α} {i j : Nat} (hi : i ≤ xs.length) (hj : j ≤ xs.length) : sliceV xs (some (i : Int)) (some (j : Int)) = (xs.drop i).take (j - i) := by
  unfold sliceV
  simp only [Option.elim]
  rw [clip_in hi, clip_in hj]
theorem sizeL_le_of_sub : ∀ (l : List Nd) (i k : Nat), sizeL ((l.drop i).take k) ≤ sizeL l
  | [], i, k => by simp [sizeL]
  | n :: r, 0, 0 => by simp [sizeL]
  | n :: r, 0, k + 1 => by
    have := sizeL_le_of_sub r 0 k
    simp only [List.drop_zero] at this
    simp only [List.drop_zero, List.take_succ_cons, sizeL]; omega
  | n :: r, i + 1, k => by
    have := sizeL_le_of_sub r i k
    simp only [List.drop_succ_cons, sizeL]; omega
theorem W_children : WOk P_children 4 3 T_children := by
  rintro _ H Q ⟨ap, pv, ns, fp, oi, ci, maxd, n1, n2, rfl, hp, hr, ho, hc, hoc, htab, hsz, q0, q1⟩
  refine ⟨rfl, ?_⟩
  obtain ⟨ss, ht, hs⟩ := hr.toks
  have hl := hr.length
  have hns := len_sizeL ns
  have hlc := (List.getElem?_eq_some_iff.mp hc).1
  have hpl : ci ≤ pv.length := by omega
  have b24 : L24 pv.length := L24.of (by omega)
  have hsl := hs.length
  have htl := ht.length
  obtain ⟨s1, hs1, k1⟩ := hs.get ho
  obtain ⟨s2, hs2, k2⟩ := hs.get hc
  obtain ⟨a, ha, hta⟩ := ht.get hs1
  obtain ⟨b, hb, htb⟩ := ht.get hs2
  have ea := getV_nat ha
  have eb := getV_nat hb
  have bo : Bnd (oi : Int) := Bnd.of (by omega) (by omega)
  have bc : Bnd (ci : Int) := Bnd.of (by omega) (by omega)
  have cast1 : ((oi : Int) + 1) = ((oi + 1 : Nat) : Int) := by push_cast; rfl
  have e1 : ∀ {α : Type} (l : List α), l.length = ns.length → sliceV l (some ((oi : Int) + 1)) (some (ci : Int)) = (l.drop (oi + 1)).take (ci - (oi + 1)) := fun l h => by
    rw [cast1]; exact sliceV_mid (by omega) (by omega)
  unfold kidsM at q0 q1
  have hany : (((ss.drop (oi + 1)).take (ci - (oi + 1))).any Sh.content) = (((ns.drop (oi + 1)).take (ci - (oi + 1))).any Nd.content) := ((hs.drop _).take _).any
  simp [T_children, List.replicate, P_has_content, -List.any_eq_true]
  refine ⟨ap, pv, ss, oi + 1, ci, ⟨rfl, rfl, rfl⟩, hp, ht, by omega, ?_⟩
  rw [e1 ss (by omega), hany]
  intro H1 g1
  cases h1 : ((ns.drop (oi + 1)).take (ci - (oi + 1))).any Nd.content
  · simp [h1] at q0
    simp
    exact q0 H1 g1
  · simp only [h1] at q0 q1
    have hta' := hta.grow g1
    have htb' := htb.grow g1
    have ty1 := Sh.ty_text hta'.2
    have ty2 := Sh.ty_text htb'.2
    have hne1 : (s1.ty != Str.ofString "text") = !n1.isText := by rw [← k1.isText, ← ty1]; rfl
    have hne2 : (s2.ty != Str.ofString "text") = !n2.isText := by rw [← k2.isText, ← ty2]; rfl
    simp [g1 _ _ hp, ea, eb, bo, bc, hta'.1, htb'.1, hne1, hne2, b24, e1 pv (by omega)]
    by_cases h2 : n1.isText = true
    · by_cases h3 : n2.isText = true
      · simp [h2, h3]
        intro c hc
        have hc0 : H c = none := by
          cases e0 : H c with
          | none => rfl
          | some o => rw [g1 _ _ e0] at hc; cases hc
        have gc : Grow H (H1.set c (.list ((pv.drop (oi + 1)).take (ci - (oi + 1))))) := g1.trans (.set hc)
        simp [h2, h3] at q0 q1
        by_cases hm : 0 < maxd
        · simp only [hm, if_true, true_and] at q0 q1 ⊢
          obtain ⟨f1, f2, _, r1, r2⟩ := hr.split (oi + 1)
          obtain ⟨f3, f4, _, r3, r4⟩ := r2.split (ci - (oi + 1))
          have hs3 := sizeL_le_of_sub ns (oi + 1) (ci - (oi + 1))
          refine ⟨c, _, _, f3, rfl, AH.set_self .., r3.grow gc, gc _ _ htab, by omega, fun H' g' => ?_⟩
          have hge : ((maxd : Int) ≤ (depthL ((ns.drop (oi + 1)).take (ci - (oi + 1))) : Int)) = (maxd ≤ depthL ((ns.drop (oi + 1)).take (ci - (oi + 1)))) := by simp only [eq_iff_iff]; omega
          simp [hge]
          by_cases hd : maxd ≤ depthL ((ns.drop (oi + 1)).take (ci - (oi + 1)))
          · simp only [hd, if_true] at q0 ⊢
            exact q0 trivial trivial _ (gc.trans g')
          · simp only [hd, if_false] at q1 ⊢
            exact q1 (fun _ => by omega) _ c (gc.trans g') hc0 (g' _ _ (AH.set_self ..))
        · simp only [hm, if_false, false_and] at q1 ⊢
          exact q1 (fun h => h.elim) _ c gc hc0 (AH.set_self ..)
      · simp [h2, h3] at q0 ⊢
        exact q0 H1 g1
    · simp [h2] at q0 ⊢
      exact q0 H1 g1
end Mine
namespace Mine
theorem getV_last {α : Type} {l : List α} {x : α} : getV (l ++ [x]) (-1) = some x := by
  unfold getV
  rw [if_neg (by omega)]
  have h1 : 0 ≤ (-1 : Int) + ((l ++ [x]).length : Int) := by simp; omega
  rw [if_pos h1]
  have : ((-1 : Int) + ((l ++ [x]).length : Int)).toNat = l.length := by simp; omega
  rw [this]; simp
theorem RepL.isLive {H : AH} {vs ns fp} (r : RepL H vs ns fp) {a : Addr} (h : a ∈ fp) : H a ≠ none := by
  rcases r.live a h with ⟨_, e⟩ | ⟨_, e⟩ <;> rw [e] <;> simp
theorem RepN.isLive {H : AH} {v n fp} (r : RepN H v n fp) {a : Addr} (h : a ∈ fp) : H a ≠ none := (RepL.one r).isLive (by simpa using h)
theorem RepN.tok {H : AH} {v n fp} (r : RepN H v n fp) : ∃ a s, v = .ref a ∧ tokAt H a s ∧ ShN s n ∧ a ∈ fp := by
  cases r with
  | text e => exact ⟨_, _, rfl, ⟨e, trivial⟩, .text _, by simp⟩
  | node e1 e2 e3 _ => exact ⟨_, _, rfl, ⟨e1, e2⟩, .node _ _ _, by simp⟩
theorem Grow.none {H H' : AH} (g : Grow H H') {c : Addr} (h : H' c = none) : H c = none := by
  cases e0 : H c with
  | none => rfl
  | some o => rw [g _ _ e0] at h; cases h
def lensOf (ns : List Nd) : Nat := (ns.map fun n => n.raw.length).sum
theorem lensOf_take (ns : List Nd) (k : Nat) : lensOf (ns.take k) ≤ lensOf ns := by
  induction ns generalizing k with
  | nil => simp [lensOf]
  | cons n r ih =>
    cases k with
    | zero => simp [lensOf]
    | succ k => have := ih k; simp only [lensOf, List.take_succ_cons, List.map_cons, List.sum_cons] at this ⊢; omega
theorem lensOf_succ {ns : List Nd} {k : Nat} {n : Nd} (h : ns[k]? = some n) : lensOf (ns.take (k + 1)) = lensOf (ns.take k) + n.raw.length := by
  rw [List.take_add_one, h]; simp [lensOf]
theorem len_empty {x : Str} : (x = Str.ofString "") ↔ x.length = 0 := by
  constructor
  · rintro rfl; decide
  · intro h
    have : Str.ofString "" = ⟨#[]⟩ := by decide
    rw [this]
    cases x with
    | mk a => simp [Str.length] at h; subst h; rfl
theorem clean_of {H : AH} {a : Addr} {s : Sh} {Q : V → AH → Prop} (h : tokAt H a s) (q : Q (.ref a) H) : P_clean [.ref a] H Q := ⟨a, s, rfl, h, q⟩
structure MJ (H : AH) (ap : Addr) (ns : List Nd) (k : Nat) (ρ : Loc) (H' : AH) (r c : Addr) (out : List V) (done : List Nd) (fpo : List Addr) (chs : List Str) (o3 o4 : Option V) : Prop where
  ρ : ρ = [some (.ref ap), some (.ref r), some (.ref c), o3, o4]
  hr : H' r = some (.list out)
  hc : H' c = some (.list (strvs chs))
  ne : r ≠ c
  gr : Grow H H'
  r0 : H r = none
  c0 : H c = none
  rep : RepL H' out done fpo
  rf : r ∉ fpo
  cf : c ∉ fpo
  eq : done ++ mergeM (ns.drop k) chs = mergeM ns []
  l1 : out.length ≤ 2 * k
  l2 : chs.length ≤ k
  amp : ∀ x ∈ chs, Txt.endswith x (Str.ofString "&") = false
  sm : (chs.map (·.length)).sum ≤ lensOf (ns.take k)
theorem RepL.put {H : AH} {vs ns fp} (r : RepL H vs ns fp) {a : Addr} (o : MO) (h : a ∉ fp) : RepL (H.set a o) vs ns fp :=
  r.frame fun b hb => AH.set_ne _ _ (by rintro rfl; exact h hb)
theorem RepL.new {H : AH} {vs ns fp} (r : RepL H vs ns fp) {a : Addr} (o : MO) (h : H a = none) : RepL (H.set a o) vs ns fp := r.grow (.set h)
theorem flush_rep {H : AH} {r d : Addr} {out done fpo} {x : Str} (rep : RepL H out done fpo) (hr : H r ≠ none) (rf : r ∉ fpo) (hd : H d = none) : RepL ((H.set d (.dict (shF (.text x)))).set r (.list (out ++ [.ref d]))) (out ++ [.ref d]) (done ++ [.text x]) (fpo ++ [d]) ∧ r ∉ fpo ++ [d] := by
  have hrd : r ≠ d := by rintro rfl; exact hr hd
  have hn : r ∉ fpo ++ [d] := by simp [rf, hrd]
  exact ⟨((rep.new _ hd).append (RepL.one (.text (AH.set_self ..)))).put _ hn, hn⟩
theorem W_merge : WOk P_merge 1 4 T_merge := by
  rintro _ H Q ⟨ap, pv, ns, fp, rfl, hp, hrep, hamp, hnl, hsum, q⟩
  refine ⟨rfl, ?_⟩
  have hl := hrep.length
  have je : (Str.ofString "").length = 0 := by decide
  simp [T_merge, List.replicate]
  intro r hr0 c hc1
  have hrc : r ≠ c := by rintro rfl; rw [AH.set_self] at hc1; cases hc1
  have hc0 : H c = none := by rw [AH.set_ne _ _ (Ne.symm hrc)] at hc1; exact hc1
  have g1 : Grow H ((H.set r (.list [])).set c (.list [])) := (Grow.set hr0).trans (.set hc1)
  refine ⟨pv, .inl (g1 _ _ hp), fun k ρ H' => ∃ r c out done fpo chs o3 o4, MJ H ap ns k ρ H' r c out done fpo chs o3 o4,
    ⟨r, c, [], [], [], [], none, none, rfl, by rw [AH.set_ne _ _ hrc, AH.set_self], AH.set_self .., hrc, g1, hr0, hc0, .nil, by simp, by simp, by simp, by simp, by simp, by simp, by simp⟩, ?_, ?_⟩
  · rintro k ρ H' hk ⟨r, c, out, done, fpo, chs, o3, o4, j⟩
    refine ⟨.inl (j.gr _ _ hp), ?_⟩
    have hv : pv[k]? = some pv[k] := by simp [hk]
    generalize pv[k] = v at *
    obtain ⟨n, f, e, rn, hsub⟩ := hrep.get hv
    obtain ⟨a, s, rfl, hta, hsn, haf⟩ := rn.tok
    have hta' := hta.grow j.gr
    have ty1 := Sh.ty_text hta'.2
    have hdrop : ns.drop k = n :: ns.drop (k + 1) := by
      have hlt := (List.getElem?_eq_some_iff.mp e).1
      rw [List.drop_eq_getElem_cons hlt]
      rw [List.getElem?_eq_getElem hlt] at e; cases e; rfl
    have hls := lensOf_succ e
    have hlk := lensOf_take ns k
    have hln : lensOf ns ≤ 100000 := hsum
    have jeq := j.eq
    rw [hdrop] at jeq
    have hsm := j.sm
    have hl2 := j.l2
    have hl1 := j.l1
    have b62 : L62 chs.length := L62.of (by omega)
    have m24 : M24 chs.length := M24.of (by omega)
    have m24o : M24 out.length := M24.of (by omega)
    obtain ⟨rfl, jr, jc, jne, jg, jr0, jc0, jrep, jrf, jcf, _, _, _, jamp, _⟩ := j
    cases hsn with
    | text x =>
      simp only [mergeM] at jeq
      have hxl : x.length ≤ 100000 := by
        have : (Nd.text x).raw.length = x.length := rfl
        have := lensOf_take ns (k + 1)
        omega
      have bx : L62 x.length := L62.of (by omega)
      have hax : Txt.endswith x (Str.ofString "&") = false := hamp _ (List.mem_of_getElem? e)
      have hls' : lensOf (ns.take (k + 1)) = lensOf (ns.take k) + x.length := hls
      simp [hv, hta'.1, Sh.ty, bx]
      by_cases hx : x = Str.ofString ""
      · rw [if_pos hx] at jeq
        have hx0 := len_empty.mp hx
        simp [hx0]
        exact ⟨r, c, out, done, fpo, chs, _, _, rfl, jr, jc, jne, jg, jr0, jc0, jrep, jrf, jcf, jeq, by omega, by omega, jamp, by omega⟩
      · rw [if_neg hx] at jeq
        have hx0 : x.length ≠ 0 := fun h => hx (len_empty.mpr h)
        have hcs : (strvs chs ++ [.str x]) = strvs (chs ++ [x]) := by simp [strvs]
        have lv : (strvs chs).length = chs.length := by simp [strvs]
        have fin : ∃ r' c' out done fpo chs' o3 o4, MJ H ap ns (k + 1) [some (.ref ap), some (.ref r), some (.ref c), some (.ref a), some (.str x)] (H'.set c (.list (strvs (chs ++ [x])))) r' c' out done fpo chs' o3 o4 := by
          refine ⟨r, c, out, done, fpo, chs ++ [x], _, _, rfl, by rw [AH.set_ne _ _ jne]; exact jr, AH.set_self .., jne, fun b o h => by rw [AH.set_ne _ _ (ne_old jc0 h)]; exact jg _ _ h, jr0, jc0, jrep.put _ jcf, jrf, jcf, jeq, by omega, by simp; omega, ?_, ?_⟩
          · intro y hy
            rcases List.mem_append.mp hy with h | h
            · exact jamp y h
            · simp at h; subst h; exact hax
          · simp; omega
        have hcl : (strvs chs).length = chs.length := lv
        simp [hx0, jc, lv, b62, P_entity, m24, hcs]
        by_cases hch : chs = []
        · subst hch
          simpa using fin
        · have hpos : 0 < chs.length := List.length_pos_iff.mpr hch
          obtain ⟨ch', y, rfl⟩ := List.eq_nil_or_concat chs |>.resolve_left hch
          have hy : Txt.endswith y (Str.ofString "&") = false := jamp y (by simp)
          have gl : getV (strvs (ch' ++ [y])) (-1) = some (.str y) := by
            have : strvs (ch' ++ [y]) = strvs ch' ++ [.str y] := by simp [strvs]
            rw [this]; exact getV_last
          simp [hpos, gl, hy]
          simpa using fin
    | node ty l ks =>
      simp only [mergeM] at jeq
      have hne : ty ≠ Str.ofString "text" := hta'.2
      have lv : (strvs chs).length = chs.length := by simp [strvs]
      have js : L24 ((chs.map (·.length)).sum + chs.length * (Str.ofString "").length) := L24.of (by rw [je]; omega)
      have rn' : RepL H' [.ref a] [.node ty ks] f := (RepL.one rn).grow jg
      have hrf : r ∉ f := fun h => rn.isLive h jr0
      have hcf : c ∉ f := fun h => rn.isLive h jc0
      simp [hv, hta'.1, Sh.ty, hne, jc, lv, b62]
      by_cases hch : chs = []
      · subst hch
        simp [flushM] at jeq
        simp [jr, m24o]
        refine clean_of hta' ?_
        simp [jr, m24o]
        refine ⟨r, c, _, done ++ [.node ty ks], fpo ++ f, [], _, _, rfl, AH.set_self .., by rw [AH.set_ne _ _ (Ne.symm jne)]; exact jc, jne, fun b o h => by rw [AH.set_ne _ _ (ne_old jr0 h)]; exact jg _ _ h, jr0, jc0, (jrep.append rn').put _ (by simp [jrf, hrf]), by simp [jrf, hrf], by simp [jcf, hcf], by simpa using jeq, by simp; omega, by simp, by simp, by simp⟩
      · have hpos : 0 < chs.length := List.length_pos_iff.mpr hch
        simp only [flushM, if_neg hch] at jeq
        simp [hpos, jr]
        refine ⟨chs, rfl, js, fun d hd => ?_⟩
        have hrd : r ≠ d := ne_old hd jr
        have hcd : c ≠ d := ne_old hd jc
        have hd0 := jg.none hd
        obtain ⟨rep', rf'⟩ := flush_rep (x := Str.join (Str.ofString "") chs) jrep (by rw [jr]; simp) jrf hd
        simp [AH.set_ne _ _ hrd, jr, m24o]
        intro c2 hc2
        have gd : Grow H ((H'.set d (.dict (shF (.text (Str.join (Str.ofString "") chs))))).set r (.list (out ++ [.ref d]))) := fun b o h => by rw [AH.set_ne _ _ (ne_old jr0 h), AH.set_ne _ _ (ne_old hd0 h)]; exact jg _ _ h
        have hc2' : ((H'.set d (.dict (shF (.text (Str.join (Str.ofString "") chs))))).set r (.list (out ++ [.ref d]))) c2 = none := hc2
        have hc20 := gd.none hc2'
        have hrc2 : r ≠ c2 := by rintro rfl; rw [AH.set_self] at hc2; cases hc2
        have gd2 := gd.trans (.set (o := .list []) hc2')
        have rn2 : RepL (((H'.set d (.dict (shF (.text (Str.join (Str.ofString "") chs))))).set r (.list (out ++ [.ref d]))).set c2 (.list [])) [.ref a] [.node ty ks] f := (RepL.one rn).grow gd2
        have rep2 := rep'.new (.list []) hc2'
        have hc2f : c2 ∉ f := fun h => rn.isLive h hc20
        have hc2o : c2 ∉ fpo ++ [d] := fun h => rep'.isLive h hc2'
        have m24b : M24 (out.length + 1) := M24.of (by omega)
        have hta2 := hta.grow gd2
        simp [AH.set_ne _ _ hrc2, m24b]
        refine clean_of hta2 ?_
        simp [AH.set_ne _ _ hrc2, m24b]
        refine ⟨r, c2, _, done ++ [.text (Str.join (Str.ofString "") chs)] ++ [.node ty ks], (fpo ++ [d]) ++ f, [], _, _, rfl, AH.set_self .., by rw [AH.set_ne _ _ (Ne.symm hrc2)]; exact AH.set_self .., hrc2, fun b o h => by rw [AH.set_ne _ _ (ne_old jr0 h)]; exact gd2 _ _ h, jr0, hc20, ?_, ?_, ?_, by simpa using jeq, by simp; omega, by simp, by simp, by simp⟩
        · have := (rep2.append rn2).put (a := r) (.list (out ++ [.ref d, .ref a])) (by simp only [List.mem_append]; rintro (h | h); exact rf' (by simpa using h); exact hrf h)
          simpa [shF] using this
        · simp only [List.mem_append]; rintro (h | h); exact rf' (by simpa using h); exact hrf h
        · simp only [List.mem_append]; rintro (h | h); exact hc2o (by simpa using h); exact hc2f h
  · rintro ρ H' ⟨r, c, out, done, fpo, chs, o3, o4, j⟩
    refine ⟨.inl (j.gr _ _ hp), ?_⟩
    have jeq := j.eq
    have hsm := j.sm
    have hl2 := j.l2
    have hl1 := j.l1
    have hlk := lensOf_take ns pv.length
    have hln : lensOf ns ≤ 100000 := hsum
    have b62 : L62 chs.length := L62.of (by omega)
    have m24o : M24 out.length := M24.of (by omega)
    obtain ⟨rfl, jr, jc, jne, jg, jr0, jc0, jrep, jrf, jcf, _, _, _, jamp, _⟩ := j
    rw [List.drop_of_length_le (by omega)] at jeq
    simp only [mergeM, flushM] at jeq
    have lv : (strvs chs).length = chs.length := by simp [strvs]
    have js : L24 ((chs.map (·.length)).sum + chs.length * (Str.ofString "").length) := L24.of (by rw [je]; omega)
    simp [jc, lv, b62]
    by_cases hch : chs = []
    · subst hch
      simp at jeq
      simp
      rw [← jeq] at q
      exact q H' r _ _ jr jrep
    · rw [if_neg hch] at jeq
      have hpos : 0 < chs.length := List.length_pos_iff.mpr hch
      simp [hpos, jr]
      refine ⟨chs, rfl, js, fun d hd => ?_⟩
      have hrd : r ≠ d := ne_old hd jr
      obtain ⟨rep', rf'⟩ := flush_rep (x := Str.join (Str.ofString "") chs) jrep (by rw [jr]; simp) jrf hd
      simp [AH.set_ne _ _ hrd, jr, m24o]
      rw [jeq] at rep'
      exact q _ r _ _ (AH.set_self ..) rep'
end Mine
namespace Mine
theorem new_dl {H : AH} {x : Dl} {Q : V → AH → Prop} (q : ∀ c, H c = none → Q (.ref c) (H.set c (.inst cD (dF x)))) : P_new [.int x.index, .str x.marker, .int x.length, .bool x.co, .bool x.cc, .int x.orig, .int x.order] H Q :=
  fun c hc => ⟨c, x, rfl, AH.set_self .., trivial, by rw [set_set]; exact q c hc⟩
theorem slice_mid (x : Str) {a b : Nat} (hab : a ≤ b) (hb : b ≤ x.length) : Txt.slice x (some (a : Int)) (some (b : Int)) = strOf ((x.cps.toList.drop a).take (b - a)) := StrLaws.sliceText_nat x hab hb
theorem run_step (t : List Nat) (p : Nat → Bool) (e : Nat) {c : Nat} (h : t[e]? = some c) (hp : p c = true) : e + ((t.drop e).takeWhile p).length = e + 1 + ((t.drop (e + 1)).takeWhile p).length := by
  have hlt := (List.getElem?_eq_some_iff.mp h).1
  rw [List.drop_eq_getElem_cons hlt]
  rw [List.getElem?_eq_getElem hlt] at h; cases h
  rw [List.takeWhile_cons_of_pos hp]; simp; omega
theorem run_stop (t : List Nat) (p : Nat → Bool) (e : Nat) (h : ∀ c, t[e]? = some c → p c = false) : ((t.drop e).takeWhile p).length = 0 := by
  by_cases hlt : e < t.length
  · rw [List.drop_eq_getElem_cons hlt]
    have := h _ (List.getElem?_eq_getElem hlt)
    rw [List.takeWhile_cons_of_neg (by rw [this]; simp)]; rfl
  · rw [List.drop_of_length_le (by omega)]; rfl
theorem run_le (t : List Nat) (p : Nat → Bool) (e : Nat) (h : e ≤ t.length) : e + ((t.drop e).takeWhile p).length ≤ t.length := by
  have : ((t.drop e).takeWhile p).length ≤ (t.drop e).length := (List.takeWhile_prefix p).length_le
  simp at this; omega
theorem run_pos (t : List Nat) (p : Nat → Bool) (e : Nat) {c : Nat} (h : t[e]? = some c) (hp : p c = true) : 0 < ((t.drop e).takeWhile p).length := by
  have := run_step t p e h hp; omega
theorem chS_inj {a b : Nat} : (chS a = chS b) ↔ a = b := by simp [chS]

structure SK (H : AH) (ap ad : Addr) (x : Str) (E : Prop) (H' : AH) (pos : Nat) (ns : List Nd) (ds : List Dl) (pv : List V) (fp das : List Addr) : Prop where
  eq : E
  hp : H' ap = some (.list pv)
  rep : RepL H' pv ns fp
  nd : fp.Nodup
  pf : ap ∉ fp
  df : ad ∉ fp
  hd : H' ad = some (.list (das.map .ref))
  dl : Dls H' das ds
  dn : das.Nodup
  keep : ∀ b o, b ≠ ap → b ≠ ad → H b = some o → H' b = some o
  ln : ns.length ≤ pos
  ldd : ds.length ≤ pos
  le : pos ≤ x.length
abbrev SJ (H : AH) (ap ad : Addr) (x : Str) (ns' : List Nd) (ds' : List Dl) (m : Nat) (H' : AH) (pos : Nat) (ns : List Nd) (ds : List Dl) (pv : List V) (fp das : List Addr) : Prop :=
  SK H ap ad x (splitM x.cps.toList 0 x.cps.toList m pos ns ds = some (ns', ds')) H' pos ns ds pv fp das
theorem SK.push {H : AH} {ap ad : Addr} {x : Str} {E E' : Prop} {H' pos ns ds pv fp das} (j : SK H ap ad x E H' pos ns ds pv fp das) (hne : ap ≠ ad) {p' : Nat} {y : Str} {c : Addr}
    (hc : H' c = none) (eq : E') (h1 : pos < p') (h2 : p' ≤ x.length) :
    SK H ap ad x E' ((H'.set c (.dict (shF (.text y)))).set ap (.list (pv ++ [.ref c]))) p' (ns ++ [.text y]) ds (pv ++ [.ref c]) (fp ++ [c]) das := by
  have hpc : ap ≠ c := ne_old hc j.hp
  have hdc : ad ≠ c := ne_old hc j.hd
  have hcf : c ∉ fp := fun h => j.rep.isLive h hc
  have hap : ap ∉ das := j.dl.notList j.hp (by intro _; nofun)
  refine ⟨eq, AH.set_self .., ?_, ?_, by simp [j.pf, hpc], by simp [j.df, hdc], ?_, ?_, j.dn, ?_, ?_, ?_, h2⟩
  · exact ((j.rep.new _ hc).append (RepL.one (.text (AH.set_self ..)))).put _ (by simp [j.pf, hpc])
  · rw [List.nodup_append]
    refine ⟨j.nd, by simp, ?_⟩
    rintro a ha b hb rfl
    simp at hb; subst hb; exact hcf ha
  · rw [AH.set_ne _ _ (Ne.symm hne), AH.set_ne _ _ hdc]; exact j.hd
  · exact (j.dl.grow (.set hc)).frame fun a ha => AH.set_ne _ _ (by rintro rfl; exact hap ha)
  · intro b o h1 h2 h3
    have h4 := j.keep b o h1 h2 h3
    rw [AH.set_ne _ _ h1, AH.set_ne _ _ (ne_old hc h4)]; exact h4
  · have := j.ln; simp; omega
  · have := j.ldd; omega
def T_splitTail : TS := (tSeq (tSet 9 (tBin pSubI (tVar 7) (tVar 6))) (tSeq (tSet 10 (tBin pAddI (tVar 2) (tVar 6))) (tSeq (tSet 11 (tCall P_can_open [(tVar 1), (tVar 10), (tVar 9), (tVar 8)])) (tSeq (tSet 12 (tCall P_can_close [(tVar 1), (tVar 10), (tVar 9), (tVar 8)])) (tSeq (tSet 13 (tCall pLen [(tVar 3)])) (tSeq (tExpr (tMeth1 isL pAppend (tVar 3) (tDict2 (Str.ofString "type") (tK (.str (Str.ofString "text"))) (Str.ofString "raw") (tSlice (tVar 5) (some (tVar 6)) (some (tVar 7)))))) (tSeq (tIfS (tOrB [(tTest (tVar 11)), (tTest (tVar 12))]) (tSeq (tExpr (tMeth1 isL pAppend (tVar 4) (tCall P_new [(tVar 13), (tVar 8), (tVar 9), (tVar 11), (tVar 12), (tVar 9), (tCall pLen [(tVar 4)])]))) tNil) tNil) (tSeq (tSet 6 (tVar 7)) tNil))))))))
theorem T_split_eq : T_split = (tSeq (tSet 5 (tBin pItem (tVar 0) (tK (.str (Str.ofString "raw"))))) (tSeq (tSet 6 (tK (.int 0))) (tSeq (tWhile (tCmp pLt (tVar 6) (tCall pLen [(tVar 5)])) (tSeq (tIfS (tCmp pNotInS (tBin pItem (tVar 5) (tVar 6)) (tK (.str (Str.ofString "*_")))) (tSeq (tSet 7 (tCall P_next_run [(tVar 5), (tVar 6)])) (tSeq (tExpr (tMeth1 isL pAppend (tVar 3) (tDict2 (Str.ofString "type") (tK (.str (Str.ofString "text"))) (Str.ofString "raw") (tSlice (tVar 5) (some (tVar 6)) (some (tVar 7)))))) (tSeq (tSet 6 (tVar 7)) (tSeq tCont tNil)))) tNil) (tSeq (tSet 8 (tBin pItem (tVar 5) (tVar 6))) (tSeq (tSet 7 (tVar 6)) (tSeq (tWhile (tAndB [(tCmp pLt (tVar 7) (tCall pLen [(tVar 5)])), (tCmp pEqS (tBin pItem (tVar 5) (tVar 7)) (tVar 8))]) (tSeq (tAug 7 pAddI (tK (.int 1))) tNil)) T_splitTail))))) tNil))) := rfl
theorem SK.pushD {H : AH} {ap ad : Addr} {x : Str} {E E' : Prop} {H' pos ns ds pv fp das} (j : SK H ap ad x E H' pos ns ds pv fp das) (hne : ap ≠ ad) {y : Dl} {c : Addr} (hc : H' c = none) (eq : E') (hl : ds.length + 1 ≤ pos) :
    SK H ap ad x E' ((H'.set c (.inst cD (dF y))).set ad (.list (das.map .ref ++ [.ref c]))) pos ns (ds ++ [y]) pv fp (das ++ [c]) := by
  have hpc : ap ≠ c := ne_old hc j.hp
  have hdc : ad ≠ c := ne_old hc j.hd
  have hcf : c ∉ das := fun h => by obtain ⟨y, e⟩ := j.dl.mem c h; have e' : H' c = _ := e; rw [hc] at e'; cases e'
  have had : ad ∉ das := j.dl.notList j.hd (by intro _; nofun)
  have hd2 : ad ∉ das ++ [c] := by simp [had, hdc]
  refine ⟨eq, ?_, (j.rep.new _ hc).put _ j.df, j.nd, j.pf, j.df, ?_, ?_, ?_, ?_, j.ln, ?_, j.le⟩
  · rw [AH.set_ne _ _ hne, AH.set_ne _ _ hpc]; exact j.hp
  · rw [AH.set_self]; simp
  · exact ((j.dl.grow (.set hc)).append (.cons (AH.set_self ..) .nil)).frame fun a ha => AH.set_ne _ _ (by rintro rfl; exact hd2 ha)
  · rw [List.nodup_append]
    refine ⟨j.dn, by simp, ?_⟩
    rintro a ha b hb rfl
    simp at hb; subst hb; exact hcf ha
  · intro b o h1 h2 h3
    have h4 := j.keep b o h1 h2 h3
    rw [AH.set_ne _ _ h2, AH.set_ne _ _ (ne_old hc h4)]; exact h4
  · simp; omega
theorem splitTail_ok {H : AH} {ap ad : Addr} {x : Str} {ns' ds' f H' pos ns ds pv fp das} (hne : ap ≠ ad) (hx : x.length ≤ 1000) (j : SJ H ap ad x ns' ds' (f + 1) H' pos ns ds pv fp das) (hpos : pos < x.length) {c n : Nat} {a : Addr} {o9 o10 o11 o12 o13 : Option V}
    (hn : ((x.cps.toList.drop pos).takeWhile fun x => x == c).length = n) (sl : Txt.slice x (some (pos : Int)) (some ((pos : Int) + n)) = strOf ((x.cps.toList.drop pos).take n)) (hrp : 0 < n) (hrl : pos + n ≤ x.length)
    (jeq : splitM x.cps.toList 0 x.cps.toList f (pos + n) (ns ++ [.text (strOf ((x.cps.toList.drop pos).take n))]) (if canOpenM c (prevC x.cps.toList pos) (nextC x.cps.toList (pos + n)) = true ∨ canCloseM c (prevC x.cps.toList pos) (nextC x.cps.toList (pos + n)) = true then ds ++ [⟨ns.length, chS c, n, canOpenM c (prevC x.cps.toList pos) (nextC x.cps.toList (pos + n)), canCloseM c (prevC x.cps.toList pos) (nextC x.cps.toList (pos + n)), n, ds.length⟩] else ds) = some (ns', ds'))
    {Q' : Fl → Loc → AH → Prop} (q' : ∀ H3 v9 v10 v11 v12 v13 pos' ns2 ds2 pv2 fp2 das2, SJ H ap ad x ns' ds' f H3 pos' ns2 ds2 pv2 fp2 das2 → Q' Fl.next [some (.ref a), some (.str x), some (.int 0), some (.ref ap), some (.ref ad), some (.str x), some (.int (pos' : Nat)), some (.int ((pos + n : Nat) : Int)), some (.str (chS c)), v9, v10, v11, v12, v13] H3) :
    T_splitTail [some (.ref a), some (.str x), some (.int 0), some (.ref ap), some (.ref ad), some (.str x), some (.int (pos : Nat)), some (.int ((pos + n : Nat) : Int)), some (.str (chS c)), o9, o10, o11, o12, o13] H' Q' := by
  have b62 : L62 x.length := L62.of (by omega)
  have b24 : L24 x.length := L24.of (by omega)
  have ml : pv.length = ns.length := j.rep.length
  have m24 : M24 pv.length := M24.of (by have := j.ln; have := j.le; omega)
  have c24 : L62 pv.length := L62.of (by have := j.ln; have := j.le; omega)
  generalize hco : canOpenM c (prevC x.cps.toList pos) (nextC x.cps.toList (pos + n)) = co at *
  generalize hcc : canCloseM c (prevC x.cps.toList pos) (nextC x.cps.toList (pos + n)) = cc at *
  have hsub : ((pos : Int) + n - pos) = n := by omega
  simp [T_splitTail, hsub]
  refine ⟨x, pos, n, c, rfl, by omega, by omega, ?_⟩
  rw [hco]
  refine ⟨x, pos, n, c, rfl, by omega, by omega, ?_⟩
  rw [hcc]
  simp [j.hp, c24, b24, sl, m24]
  intro d hd
  have hpd : ap ≠ d := ne_old hd j.hp
  have m24d : M24 das.length := by rw [j.dl.length]; exact M24.of (by have := j.ldd; have := j.le; omega)
  have c24d : L62 das.length := by rw [j.dl.length]; exact L62.of (by have := j.ldd; have := j.le; omega)
  have hdd : ad ≠ d := ne_old hd j.hd
  simp [AH.set_ne _ _ hpd, j.hp, m24]
  have two : ∀ X Y : Prop, (if co = true then X else if cc = true then X else Y) = (if co = true ∨ cc = true then X else Y) := fun X Y => by cases co <;> cases cc <;> simp
  refine Eq.mpr (two _ _) ?_
  by_cases hoc : co = true ∨ cc = true
  · rw [if_pos hoc] at jeq ⊢
    have j3 := j.push (y := strOf ((x.cps.toList.drop pos).take n)) hne hd (p' := pos + n) trivial (by omega) hrl
    have hd3 := j3.hd
    simp only [shF] at j3 hd3
    refine ⟨⟨_, hd3⟩, _, .inl hd3, by simpa using c24d, ?_⟩
    have hl : das.length = ds.length := j.dl.length
    have := new_dl (x := ⟨ns.length, chS c, n, co, cc, n, ds.length⟩) (Q := fun v2 H2 => ∃ xs, H2 ad = some (MO.list xs) ∧ M24 xs.length ∧
                    Q' Fl.next
                      [some (V.ref a), some (V.str x), some (V.int 0), some (V.ref ap), some (V.ref ad), some (V.str x),
                        some (V.int (↑pos + ↑n)), some (V.int (↑pos + ↑n)), some (V.str (chS c)), some (V.int ↑n),
                        some (V.int ↑pos), some (V.bool co), some (V.bool cc), some (V.int ↑pv.length)]
                      (H2.set ad (MO.list (xs ++ [v2])))) (H := ((H'.set d (MO.dict [(Str.ofString "type", V.str (Str.ofString "text")), (Str.ofString "raw", V.str (strOf (List.take n (List.drop pos x.cps.toList))))])).set ap (MO.list (pv ++ [V.ref d])))) fun e he => ⟨_, by rw [AH.set_ne _ _ (ne_old he hd3)]; exact hd3, by simpa using m24d, by
                        have j4 := j3.pushD (y := ⟨ns.length, chS c, n, co, cc, n, ds.length⟩) hne he jeq (by have := j.ldd; omega)
                        have := q' _ (some (V.int n)) (some (V.int pos)) (some (V.bool co)) (some (V.bool cc)) (some (V.int pv.length)) _ _ _ _ _ _ j4
                        push_cast at this
                        exact this⟩
    simpa [hl, ml] using this
  · rw [if_neg hoc] at jeq ⊢
    have := q' _ (some (V.int n)) (some (V.int pos)) (some (V.bool co)) (some (V.bool cc)) (some (V.int pv.length)) _ _ _ _ _ _ (j.push hne hd jeq (by omega) hrl)
    push_cast at this
    exact this
theorem W_split : WOk P_split 5 9 T_split := by
  rintro _ H Q ⟨a, ap, ad, x, ns', ds', rfl, hne, ⟨hta, _⟩, hp, hd, hx, hsp, q⟩
  refine ⟨rfl, ?_⟩
  have hlc := len_cps x
  have b62 : L62 x.length := L62.of (by omega)
  have b24 : L24 x.length := L24.of (by omega)
  rw [T_split_eq]
  simp [List.replicate, hta]
  refine ⟨fun m ρ H' => ∃ pos ns ds pv fp das o7 o8 o9 o10 o11 o12 o13, ρ = [some (.ref a), some (.str x), some (.int 0), some (.ref ap), some (.ref ad), some (.str x), some (.int (pos : Nat)), o7, o8, o9, o10, o11, o12, o13] ∧ SJ H ap ad x ns' ds' m H' pos ns ds pv fp das, _,
    ⟨0, [], [], [], [], [], none, none, none, none, none, none, none, rfl, hsp, hp, .nil, by simp, by simp, by simp, hd, .nil, by simp, fun _ _ _ _ h => h, by simp, by simp, by simp⟩, ?_⟩
  rintro m ρ H' ⟨pos, ns, ds, pv, fp, das, o7, o8, o9, o10, o11, o12, o13, rfl, j⟩
  have bpos : Bnd (pos : Int) := Bnd.of (by omega) (by have := j.le; omega)
  by_cases hpos : pos < x.length
  · have hlt : pos < x.cps.toList.length := by omega
    have hc : x.cps.toList[pos]? = some x.cps.toList[pos] := by simp
    generalize x.cps.toList[pos] = c at hc
    have e1 := getV_nat hc
    have jeq := j.eq
    cases m with
    | zero => unfold splitM at jeq; cases jeq
    | succ f =>
    rw [splitM, hc] at jeq
    dsimp only at jeq
    have ml : pv.length = ns.length := j.rep.length
    have m24 : M24 pv.length := M24.of (by have := j.ln; have := j.le; omega)
    simp [hpos, b62, bpos, e1, strIn_sign]
    by_cases hs : isSign c = true
    · simp [hs] at jeq ⊢
      have hrl := run_le x.cps.toList (fun x => x == c) pos (by omega)
      have hrp := run_pos x.cps.toList (fun x => x == c) pos hc (by simp)
      have sl := slice_mid x (a := pos) (b := pos + ((x.cps.toList.drop pos).takeWhile fun x => x == c).length) (by omega) (by omega)
      rw [Nat.add_sub_cancel_left] at sl
      generalize hn : ((x.cps.toList.drop pos).takeWhile fun x => x == c).length = n at *
      push_cast at sl
      refine ⟨fun m ρ H2 => H2 = H' ∧ ∃ e : Nat, ρ = [some (.ref a), some (.str x), some (.int 0), some (.ref ap), some (.ref ad), some (.str x), some (.int (pos : Nat)), some (.int e), some (.str (chS c)), o9, o10, o11, o12, o13] ∧ e ≤ x.length ∧ m = x.length - e ∧ e + ((x.cps.toList.drop e).takeWhile fun x => x == c).length = pos + n, x.length - pos, ⟨rfl, pos, rfl, by omega, rfl, by rw [hn]⟩, ?_⟩
      rintro m ρ H2 ⟨rfl, e, rfl, hel, rfl, hen⟩
      have stop : e = pos + n → ∀ Q', (∀ H3 v9 v10 v11 v12 v13 pos' ns2 ds2 pv2 fp2 das2, SJ H ap ad x ns' ds' f H3 pos' ns2 ds2 pv2 fp2 das2 → Q' Fl.next [some (.ref a), some (.str x), some (.int 0), some (.ref ap), some (.ref ad), some (.str x), some (.int (pos' : Nat)), some (.int e), some (.str (chS c)), v9, v10, v11, v12, v13] H3) →
          T_splitTail [some (.ref a), some (.str x), some (.int 0), some (.ref ap), some (.ref ad), some (.str x), some (.int (pos : Nat)), some (.int e), some (.str (chS c)), o9, o10, o11, o12, o13] H2 Q' := by
        rintro rfl Q' q'
        exact splitTail_ok hne hx j hpos hn sl hrp (by omega) jeq q'
      by_cases h1 : e < x.length
      · have hlt : e < x.cps.toList.length := by omega
        have hc2 : x.cps.toList[e]? = some x.cps.toList[e] := by simp
        generalize x.cps.toList[e] = c2 at hc2
        have e2 := getV_nat hc2
        have be : Bnd (e : Int) := Bnd.of (by omega) (by omega)
        by_cases hcc : c2 = c
        · subst hcc
          have := run_step x.cps.toList (fun x => x == c2) e hc2 (by simp)
          simp [h1, b62, be, e2, chS]
          exact ⟨_, by omega, e + 1, by push_cast; rfl, by omega, rfl, by omega⟩
        · have := run_stop x.cps.toList (fun x => x == c) e (fun c3 h3 => by rw [hc2] at h3; cases h3; simpa using hcc)
          refine ⟨_, rfl, _, rfl, b62, ?_⟩
          refine Eq.mpr (if_pos (c := decide ((e : Int) < x.length) = true) (by simpa using h1)) ?_
          refine ⟨_, rfl, _, rfl, be.1, be.2, _, e2, _, rfl, ?_⟩
          refine Eq.mpr (if_neg (c := ((⟨#[c2]⟩ : Str) == chS c) = true) (by rw [beq_iff_eq]; intro h; exact hcc (chS_inj.mp h))) ?_
          refine Eq.mpr (if_neg (c := false = true) (by simp)) ?_
          exact stop (by omega) _ (fun H3 v9 v10 v11 v12 v13 pos' ns2 ds2 pv2 fp2 das2 j2 => ⟨f, Nat.lt_succ_self _, pos', ⟨_, _, _, _, _, _, _, rfl⟩, ns2, ds2, pv2, fp2, das2, j2⟩)
      · have h0 : ((x.cps.toList.drop e).takeWhile fun x => x == c).length = 0 := run_stop _ _ _ fun c3 h3 => by have := (List.getElem?_eq_some_iff.mp h3).1; omega
        refine ⟨_, rfl, _, rfl, b62, ?_⟩
        refine Eq.mpr (if_neg (c := decide ((e : Int) < x.length) = true) (by simpa using h1)) ?_
        refine Eq.mpr (if_neg (c := false = true) (by simp)) ?_
        exact stop (by omega) _ (fun H3 v9 v10 v11 v12 v13 pos' ns2 ds2 pv2 fp2 das2 j2 => ⟨f, Nat.lt_succ_self _, pos', ⟨_, _, _, _, _, _, _, rfl⟩, ns2, ds2, pv2, fp2, das2, j2⟩)
    · have hs' : isSign c = false := by simpa using hs
      simp [hs'] at jeq ⊢
      have hrl := run_le x.cps.toList (fun x => !isSign x) pos (by omega)
      have hrp := run_pos x.cps.toList (fun x => !isSign x) pos hc (by simp [hs'])
      refine ⟨x, pos, rfl, by omega, by omega, ?_⟩
      have sl := slice_mid x (a := pos) (b := pos + ((x.cps.toList.drop pos).takeWhile fun x => !isSign x).length) (by omega) (by omega)
      rw [Nat.add_sub_cancel_left] at sl
      generalize ((x.cps.toList.drop pos).takeWhile fun x => !isSign x).length = n at *
      push_cast at sl
      simp [sl, b24]
      refine ⟨⟨_, j.hp⟩, fun d hd => ?_⟩
      have hpd : ap ≠ d := ne_old hd j.hp
      simp [AH.set_ne _ _ hpd, j.hp, m24]
      exact ⟨f, Nat.lt_succ_self _, pos + n, by push_cast; rfl, _, _, _, _, _, j.push hne hd jeq (by omega) (by omega)⟩
  · refine ⟨_, rfl, _, rfl, b62, ?_⟩
    refine Eq.mpr (if_neg (c := decide ((pos : Int) < x.length) = true) (by simpa using hpos)) ?_
    have jeq := j.eq
    cases m with
    | zero => unfold splitM at jeq; cases jeq
    | succ f =>
    have : x.cps.toList[pos]? = none := List.getElem?_eq_none (by omega)
    rw [splitM, this] at jeq
    cases jeq
    exact q _ _ _ _ j.hp j.rep j.nd j.pf j.df j.hd j.dl j.dn j.keep
end Mine
namespace Mine
def T_applyC : TS := (tSeq (tAugAttr cD (Str.ofString "length") (tVar 3) pSubI (tVar 9)) (tSeq (tAugAttr cD (Str.ofString "length") (tVar 4) pSubI (tVar 9)) (tSeq (tIfS (tCmp pEqI (tAttr cD (Str.ofString "length") (tVar 3)) (tK (.int 0))) (tSeq (tSetAttr cD (Str.ofString "can_open") (tK (.bool false)) (tVar 3)) (tSeq (tExpr (tMCall cI (Str.ofString "deactivate") P_deactivate (tVar 2) [(tAttr cD (Str.ofString "order") (tVar 3))])) tNil)) tNil) (tSeq (tIfS (tCmp pEqI (tAttr cD (Str.ofString "length") (tVar 4)) (tK (.int 0))) (tSeq (tSetAttr cD (Str.ofString "can_close") (tK (.bool false)) (tVar 4)) (tSeq (tExpr (tMCall cI (Str.ofString "deactivate") P_deactivate (tVar 2) [(tAttr cD (Str.ofString "order") (tVar 4))])) tNil)) tNil) tNil))))
def T_applyB : TS := (tSeq (tSet 14 (tBin pSubI (tBin pSubI (tVar 8) (tVar 7)) (tK (.int 2)))) (tSeq (tIfS (tTest (tVar 14)) (tSeq (tExpr (tMCall cI (Str.ofString "deactivate_range") P_deactivate_range (tVar 2) [(tVar 1), (tBin pAddI (tVar 5) (tK (.int 1))), (tVar 6)])) (tSeq (tExpr (tMCall cI (Str.ofString "collapse") P_collapse (tVar 2) [(tVar 4), (tVar 14)])) tNil)) tNil) T_applyC))
theorem T_apply_eq : T_apply = (tSeq (tSet 11 (tBin pItem (tVar 0) (tVar 7))) (tSeq (tSet 12 (tBin pItem (tVar 0) (tVar 8))) (tSeq (tSetItem (tSlice (tBin pItem (tVar 11) (tK (.str (Str.ofString "raw")))) none (some (tNeg (tVar 9)))) (tVar 11) (tK (.str (Str.ofString "raw")))) (tSeq (tSetItem (tSlice (tBin pItem (tVar 12) (tK (.str (Str.ofString "raw")))) (some (tVar 9)) none) (tVar 12) (tK (.str (Str.ofString "raw")))) (tSeq (tSet 13 (tIf (tCmp pEqI (tVar 9) (tK (.int 2))) (tK (.str (Str.ofString "strong"))) (tK (.str (Str.ofString "emphasis"))))) (tSeq (tSetSlice (tList [(tDict2 (Str.ofString "type") (tVar 13) (Str.ofString "children") (tVar 10))]) (tVar 0) (some (tBin pAddI (tVar 7) (tK (.int 1)))) (some (tVar 8))) T_applyB)))))) := rfl

theorem cD_ne_cI : (cD : Addr) ≠ cI := by decide
theorem Dls.fresh {H : AH} {as xs} (d : Dls H as xs) {a : Addr} (h : H a = none) : a ∉ as := fun m => by
  obtain ⟨x, e⟩ := d.mem a m
  have e' : H a = _ := e
  rw [h] at e'; cases e'
theorem Dls.at {H : AH} {as xs} (d : Dls H as xs) {i : Nat} {a : Addr} {x : Dl} (h1 : as[i]? = some a) (h2 : xs[i]? = some x) : H a = some (.inst cD (dF x)) := by
  obtain ⟨b, e, k⟩ := d.get h2
  rw [h1] at e; cases e; exact k
theorem Wld.das_fp {H : AH} {ap ad ai at' an : Addr} {das : List Addr} {st : St} {fp : List Addr} (w : Wld H ap ad ai at' an das st fp) : ∀ a ∈ das, a ∉ fp := fun a ha hf => by
  obtain ⟨pv, _, r⟩ := w.parts
  obtain ⟨x, e⟩ := w.dl.mem a ha
  have e' : H a = _ := e
  rcases r.live a hf with ⟨_, k⟩ | ⟨_, k⟩ <;> rw [e'] at k <;> cases k
/-- the delimiters and the tables of the index turn, nothing else -/
theorem Wld.turn {H H' : AH} {ap ad ai at' an : Addr} {das : List Addr} {st : St} {fp : List Addr} (w : Wld H ap ad ai at' an das st fp) {ds : List Dl} {tree nxt : List Nat}
    (h : ∀ b, b ≠ an → b ≠ at' → b ∉ das → H' b = H b) (ht : H' at' = some (.list (natsV tree))) (hn : H' an = some (.list (natsV nxt))) (hd : Dls H' das ds) : Wld H' ap ad ai at' an das ⟨st.ns, ds, tree, nxt⟩ fp := by
  obtain ⟨pv, hp, r⟩ := w.parts
  have d1 := w.dis an (by simp)
  have d2 := w.dis at' (by simp)
  have n1 := w.nls
  simp at n1
  have keep : ∀ b o, H b = some o → (∀ xs, o ≠ .inst cD xs) → b ≠ an → b ≠ at' → H' b = some o := fun b o e ho h1 h2 => by rw [h b h1 h2 (w.dl.notList e ho)]; exact e
  refine ⟨⟨pv, keep _ _ hp (by intro _; nofun) ?_ ?_, r.frame fun a ha => h a (by rintro rfl; exact d1 ha) (by rintro rfl; exact d2 ha) fun hm => w.das_fp a hm ha⟩, keep _ _ w.ls (by intro _; nofun) ?_ ?_, hd, keep _ _ w.ix (fun xs e => by cases e) ?_ ?_, ht, hn, w.nfp, w.nds, w.nls, w.dis, keep _ _ w.tab (by intro _; nofun) ?_ ?_⟩
  · exact n1.1.2.2
  · exact n1.1.2.1
  · exact n1.2.1.2
  · exact n1.2.1.1
  · rintro rfl; have := w.ix; rw [w.nx] at this; cases this
  · rintro rfl; have := w.ix; rw [w.tr] at this; cases this
  · rintro e; have := w.tab; unfold tabOk at this; rw [e, w.nx] at this; cases this
  · rintro e; have := w.tab; unfold tabOk at this; rw [e, w.tr] at this; cases this
theorem Wld.setD {H : AH} {ap ad ai at' an : Addr} {das : List Addr} {st : St} {fp : List Addr} (w : Wld H ap ad ai at' an das st fp) {i : Nat} {a : Addr} (y : Dl) (h : das[i]? = some a) : Wld (H.set a (.inst cD (dF y))) ap ad ai at' an das ⟨st.ns, st.ds.set i y, st.tree, st.nxt⟩ fp := by
  have hm := List.mem_of_getElem? h
  have na : an ≠ a := by rintro rfl; exact w.dl.notList w.nx (by intro _; nofun) hm
  have nt : at' ≠ a := by rintro rfl; exact w.dl.notList w.tr (by intro _; nofun) hm
  exact w.turn (fun b _ _ hb => AH.set_ne _ _ (by rintro rfl; exact hb hm)) (by rw [AH.set_ne _ _ nt]; exact w.tr) (by rw [AH.set_ne _ _ na]; exact w.nx) (w.dl.set w.nds h)
theorem Wld.setN {H : AH} {ap ad ai at' an : Addr} {das : List Addr} {st : St} {fp : List Addr} (w : Wld H ap ad ai at' an das st fp) (l : List Nat) : Wld (H.set an (.list (natsV l))) ap ad ai at' an das ⟨st.ns, st.ds, st.tree, l⟩ fp := by
  have n1 := w.nls
  simp at n1
  have hm : an ∉ das := w.dl.notList w.nx (by intro _; nofun)
  exact w.turn (fun b h _ _ => AH.set_ne _ _ h) (by rw [AH.set_ne _ _ n1.2.2]; exact w.tr) (AH.set_self ..) (w.dl.frame fun b hb => AH.set_ne _ _ (by rintro rfl; exact hm hb))
theorem Wld.setT {H : AH} {ap ad ai at' an : Addr} {das : List Addr} {st : St} {fp : List Addr} (w : Wld H ap ad ai at' an das st fp) (l : List Nat) : Wld (H.set at' (.list (natsV l))) ap ad ai at' an das ⟨st.ns, st.ds, l, st.nxt⟩ fp := by
  have n1 := w.nls
  simp at n1
  have hm : at' ∉ das := w.dl.notList w.tr (by intro _; nofun)
  exact w.turn (fun b _ h _ => AH.set_ne _ _ h) (AH.set_self ..) (by rw [AH.set_ne _ _ (Ne.symm n1.2.2)]; exact w.nx) (w.dl.frame fun b hb => AH.set_ne _ _ (by rintro rfl; exact hm hb))
theorem KeepB.refl (H : AH) : KeepB H H := fun _ _ e _ => e
theorem KeepB.trans {H1 H2 H3 : AH} (x : KeepB H1 H2) (y : KeepB H2 H3) : KeepB H1 H3 := fun a o e h => y a o (x a o e h) h
theorem KeepB.set {H : AH} {a : Addr} {o o' : MO} (h : H a = some o) (h1 : ∀ es, o ≠ .bots es) (h2 : ∀ es, o ≠ .tup es) : KeepB H (H.set a o') := fun b p e k => by
  rw [AH.set_ne]
  · exact e
  · rintro rfl
    rw [h] at e; cases e
    rcases k with ⟨es, rfl⟩ | ⟨es, rfl⟩
    · exact h1 _ rfl
    · exact h2 _ rfl
theorem KeepB.new {H : AH} {a : Addr} {o' : MO} (h : H a = none) : KeepB H (H.set a o') := fun b p e k => by rw [AH.set_ne _ _ (ne_old h e)]; exact e
theorem iF_deact (x y : Addr) : pget (iF x y) (Str.ofString "deactivate") = none := iF_none _ _ _ (by decide) (by decide)
theorem iF_range (x y : Addr) : pget (iF x y) (Str.ofString "deactivate_range") = none := iF_none _ _ _ (by decide) (by decide)
theorem iF_coll (x y : Addr) : pget (iF x y) (Str.ofString "collapse") = none := iF_none _ _ _ (by decide) (by decide)

def T_end (nm : Str) (j : Nat) : TS := tIfS (tCmp pEqI (tAttr cD (Str.ofString "length") (tVar j)) (tK (.int 0))) (tSeq (tSetAttr cD nm (tK (.bool false)) (tVar j)) (tSeq (tExpr (tMCall cI (Str.ofString "deactivate") P_deactivate (tVar 2) [(tAttr cD (Str.ofString "order") (tVar j))])) tNil)) tNil
theorem end_ok {H : AH} {ap ad ai at' an : Addr} {das : List Addr} {ns : List Nd} {ds : List Dl} {tree nxt n2 : List Nat} {fp : List Addr} (w : Wld H ap ad ai at' an das ⟨ns, ds, tree, nxt⟩ fp)
    {i j : Nat} {a : Addr} {x x' : Dl} {ρ : Loc} {nm : Str} (ha : das[i]? = some a) (hx : ds[i]? = some x) (hj : ρ[j]? = some (some (.ref a))) (hi : ρ[2]? = some (some (.ref ai))) (hp : pput (dF x) nm (.bool false) = dF x') (ho : x'.order = x.order)
    (hnl : nxt.length ≤ 10000) (hc : closeNxt x nxt = some n2) {K : Fl → Loc → AH → Prop} (q : ∀ H', Wld H' ap ad ai at' an das ⟨ns, ds.set i (if x.length = 0 then x' else x), tree, n2⟩ fp → KeepB H H' → K .next ρ H') : T_end nm j ρ H K := by
  have hax := w.dl.at ha hx
  unfold closeNxt at hc
  simp [T_end, hj, hi, hax]
  by_cases h0 : x.length = 0
  · rw [if_pos h0] at hc
    simp only [h0, if_true] at q ⊢
    have w1 := w.setD x' ha
    dsimp only at w1
    have hai : ai ≠ a := by rintro rfl; have := w.ix; rw [hax] at this; cases this
    simp [hp, hi, hj, w1.ix, iF_deact]
    refine ⟨ai, at', an, nxt, n2, x.order, by rw [ho], w1.ix, w1.nx, by omega, hc, ?_⟩
    have w2 := w1.setN n2
    dsimp only at w2
    refine ⟨trivial, q _ w2 ?_⟩
    exact (KeepB.set hax (by intro _; nofun) (by intro _; nofun)).trans (.set w1.nx (by intro _; nofun) (by intro _; nofun))
  · rw [if_neg h0] at hc
    cases hc
    simp only [h0, if_false] at q ⊢
    have hs : ds.set i x = ds := by
      obtain ⟨hlt, he⟩ := List.getElem?_eq_some_iff.mp hx
      rw [← he]; exact List.set_getElem_self hlt
    rw [hs] at q
    exact q H w (.refl _)
theorem T_applyC_eq : T_applyC = (tSeq (tAugAttr cD (Str.ofString "length") (tVar 3) pSubI (tVar 9)) (tSeq (tAugAttr cD (Str.ofString "length") (tVar 4) pSubI (tVar 9)) (tSeq (T_end (Str.ofString "can_open") 3) (tSeq (T_end (Str.ofString "can_close") 4) tNil)))) := rfl
theorem applyC_ok {H H0 : AH} {ap ad ai at' an : Addr} {das : List Addr} {ns : List Nd} {ds ds2 : List Dl} {tree nxt n3 : List Nat} {fp : List Addr} (w : Wld H ap ad ai at' an das ⟨ns, ds, tree, nxt⟩ fp) (kb : KeepB H0 H)
    {op cp u : Nat} {a b : Addr} (ha : das[op]? = some a) (hb : das[cp]? = some b) (hlt : op < cp) (hnl : nxt.length ≤ 10000) (hc : closeStep ds nxt op cp u = some (ds2, n3)) {Q : V → AH → Prop}
    (q : ∀ H', Wld H' ap ad ai at' an das ⟨ns, ds2, tree, n3⟩ fp → KeepB H0 H' → Q .none H') {v0 v1 v5 v6 v7 v8 v10 v11 v12 v13 v14 : Option V} :
    T_applyC [v0, v1, some (.ref ai), some (.ref a), some (.ref b), v5, v6, v7, v8, some (.int (u : Nat)), v10, v11, v12, v13, v14] H (retQ Q) := by
  unfold closeStep at hc
  split at hc
  · rename_i x y hx hy
    split at hc
    · rename_i hu
      split at hc
      · cases hc
      rename_i n2 h2
      split at hc
      · cases hc
      rename_i n3' h3
      cases hc
      have hab : a ≠ b := by
        rintro rfl
        have h1 := (List.getElem?_eq_some_iff.mp ha).1
        have h2 := (List.getElem?_eq_some_iff.mp hb).1
        have := (List.getElem?_inj h1 w.nds).mp (ha.trans hb.symm)
        omega
      have hax := w.dl.at ha hx
      have hbx := w.dl.at hb hy
      have e1 : ((x.length : Int) - u) = ((x.length - u : Nat) : Int) := by omega
      have e2 : ((y.length : Int) - u) = ((y.length - u : Nat) : Int) := by omega
      have w1 := (w.setD (spend u x) ha).setD (spend u y) hb
      dsimp only at w1
      have k1 : KeepB H0 ((H.set a (.inst cD (dF (spend u x)))).set b (.inst cD (dF (spend u y)))) := (kb.trans (.set hax (by intro _; nofun) (by intro _; nofun))).trans (.set (o := .inst cD (dF y)) (by rw [AH.set_ne _ _ (Ne.symm hab)]; exact hbx) (by intro _; nofun) (by intro _; nofun))
      rw [T_applyC_eq]
      simp [hax, e1, put_length, AH.set_ne _ _ (Ne.symm hab), hbx, e2]
      have p1 : dF { index := x.index, marker := x.marker, length := x.length - u, co := x.co, cc := x.cc, orig := x.orig, order := x.order } = dF (spend u x) := rfl
      have p2 : dF { index := y.index, marker := y.marker, length := y.length - u, co := y.co, cc := y.cc, orig := y.orig, order := y.order } = dF (spend u y) := rfl
      rw [p1, p2]
      have hne : op ≠ cp := by omega
      have g1 : ((ds.set op (spend u x)).set cp (spend u y))[op]? = some (spend u x) := by
        rw [List.getElem?_set_ne (Ne.symm hne), List.getElem?_set_self (List.getElem?_eq_some_iff.mp hx).1]
      refine end_ok w1 (x' := { spend u x with co := false }) ha g1 rfl rfl (put_co _ _) rfl hnl h2 fun H1 w2 k2 => ?_
      have g2 : (((ds.set op (spend u x)).set cp (spend u y)).set op (if (spend u x).length = 0 then { spend u x with co := false } else spend u x))[cp]? = some (spend u y) := by
        rw [List.getElem?_set_ne hne, List.getElem?_set_self]
        simpa using (List.getElem?_eq_some_iff.mp hy).1
      have hn2 : n2.length ≤ 10000 := by
        unfold closeNxt at h2
        split at h2
        · have := (deactM_len h2).1; omega
        · cases h2; exact hnl
      refine end_ok w2 (x' := { spend u y with cc := false }) hb g2 rfl rfl (put_cc _ _) rfl hn2 h3 fun H2 w3 k3 => ?_
      simp
      refine q H2 ?_ ((k1.trans k2).trans k3)
      have : (((ds.set op (spend u x)).set cp (spend u y)).set op (if (spend u x).length = 0 then { spend u x with co := false } else spend u x)).set cp (if (spend u y).length = 0 then { spend u y with cc := false } else spend u y) = (ds.set op (closeDl true (spend u x))).set cp (closeDl false (spend u y)) := by
        rw [List.set_comm _ _ (Ne.symm hne), List.set_set, List.set_set]
        rfl
      rw [this] at w3
      exact w3
    · cases hc
  · cases hc
end Mine
namespace Mine
theorem rangeM_pres {e : Nat} : ∀ (f : Nat) {ds : List Dl} {nxt : List Nat} {o : Nat} {ds' : List Dl} {n2 : List Nat}, rangeM e f ds nxt o = some (ds', n2) → n2.length = nxt.length ∧ ds'.length = ds.length ∧ ∀ (i : Nat) y', ds'[i]? = some y' → ∃ y, ds[i]? = some y ∧ y'.index = y.index
  | 0, ds, nxt, o, ds', n2, h => by unfold rangeM at h; cases h
  | f + 1, ds, nxt, o, ds', n2, h => by
    rcases rangeM_step h with ⟨h1, h2⟩ | ⟨h1, x, n1, r, n3, hx, hda, hf, hr⟩
    · cases h2; exact ⟨rfl, rfl, fun i y' h => ⟨y', h, rfl⟩⟩
    · obtain ⟨l1, l2, l3⟩ := rangeM_pres f hr
      refine ⟨by rw [l1, findM_len hf, (deactM_len hda).1], by simpa using l2, fun i y' h => ?_⟩
      obtain ⟨y, e1, e2⟩ := l3 i y' h
      by_cases hi : o = i
      · subst hi
        rw [List.getElem?_set_self (List.getElem?_eq_some_iff.mp hx).1] at e1
        cases e1
        exact ⟨x, hx, e2⟩
      · rw [List.getElem?_set_ne hi] at e1
        exact ⟨y, e1, e2⟩
theorem applyB_ok {H H0 : AH} {ap ad ai at' an : Addr} {das : List Addr} {ns : List Nd} {ds ds1 ds2 : List Dl} {tree nxt t1 n1 n3 : List Nat} {fp : List Addr} (w : Wld H ap ad ai at' an das ⟨ns, ds, tree, nxt⟩ fp) (kb : KeepB H0 H)
    {op cp u oi ci : Nat} {a b : Addr} (ha : das[op]? = some a) (hb : das[cp]? = some b) (hlt : op < cp) (hoc : oi + 2 ≤ ci) (hci : ci ≤ 100000) (hnl : nxt.length ≤ 10000) (htl : tree.length ≤ 10000) (hdl : ds.length ≤ 10000) (hix : ∀ y, ds[cp]? = some y → y.index ≤ 10000)
    (hr : rangeStep ⟨ns, ds, tree, nxt⟩ op cp (ci - oi - 2) = some ((ds1, n1), t1)) (hc : closeStep ds1 n1 op cp u = some (ds2, n3)) {Q : V → AH → Prop}
    (q : ∀ H', Wld H' ap ad ai at' an das ⟨ns, ds2, t1, n3⟩ fp → KeepB H0 H' → Q .none H') {v0 v10 v11 v12 v13 v14 : Option V} :
    T_applyB [v0, some (.ref ad), some (.ref ai), some (.ref a), some (.ref b), some (.int (op : Nat)), some (.int (cp : Nat)), some (.int (oi : Nat)), some (.int (ci : Nat)), some (.int (u : Nat)), v10, v11, v12, v13, v14] H (retQ Q) := by
  unfold rangeStep at hr
  have ek : ((ci : Int) - oi - 2) = ((ci - oi - 2 : Nat) : Int) := by omega
  simp [T_applyB, ek]
  have hax : ∃ x, ds[op]? = some x := by
    have h1 := (List.getElem?_eq_some_iff.mp ha).1
    rw [w.dl.length] at h1
    exact ⟨_, List.getElem?_eq_getElem h1⟩
  generalize ci - oi - 2 = k at *
  by_cases hk : k = 0
  · rw [if_pos hk] at hr
    cases hr
    subst hk
    simp
    exact applyC_ok w kb ha hb hlt hnl hc q
  · rw [if_neg hk] at hr
    dsimp only at hr
    split at hr
    · cases hr
    rename_i r m1 hf
    split at hr
    · cases hr
    rename_i dsr m2 hrg
    split at hr
    · cases hr
    rename_i y hy
    split at hr
    · cases hr
    rename_i tt hadd
    cases hr
    obtain ⟨l1, l2, l3⟩ := rangeM_pres _ hrg
    have l4 := findM_len hf
    obtain ⟨y0, hy0, hyi⟩ := l3 _ _ hy
    have hyx := hix _ hy0
    have nl := w.nls
    simp at nl
    simp [hk, w.ix, iF_range]
    refine ⟨ai, ad, at', an, nxt, m1, n1, ds, ds1, das, op + 1, cp, r, by push_cast; rfl, w.ix, w.nx, Ne.symm nl.2.1.2, by omega, w.ls, w.dl, w.nds, by omega, hf, hrg, ?_⟩
    intro H1 hn1 hd1 hk1
    have w1 : Wld H1 ap ad ai at' an das ⟨ns, ds1, tree, n1⟩ fp := w.turn (fun b h1 _ h3 => hk1 b h1 h3) (by rw [hk1 at' nl.2.2 (w.dl.notList w.tr (by intro _; nofun))]; exact w.tr) hn1 hd1
    have kb1 : KeepB H H1 := fun c o e h => by
      rw [hk1 c]
      · exact e
      · rintro rfl; rw [w.nx] at e; cases e; rcases h with ⟨_, h⟩ | ⟨_, h⟩ <;> cases h
      · refine w.dl.notList e ?_
        rcases h with ⟨_, rfl⟩ | ⟨_, rfl⟩ <;> intro _ <;> nofun
    have hby := w1.dl.at hb hy
    simp [w1.ix, iF_coll]
    refine ⟨ai, b, at', an, tree, t1, y, k, rfl, by omega, w1.ix, w1.tr, by omega, hby, by omega, hadd, ?_⟩
    have w2 := w1.setT t1
    dsimp only at w2
    simp
    exact applyC_ok w2 ((kb.trans kb1).trans (.set w1.tr (by intro _; nofun) (by intro _; nofun))) ha hb hlt (by omega) hc q
end Mine
namespace Mine
@[simp] theorem s_setslice {Tv To : TE} {Tl Th : Option TE} {ρ : Loc} {H : AH} {Q : Fl → Loc → AH → Prop} : tSetSlice Tv To Tl Th ρ H Q = Tv ρ H fun v H1 => To ρ H1 fun ov H2 => tPart Tl ρ H2 fun lo H3 => tPart Th ρ H3 fun hi H4 => match ov, v with
  | .ref a, .ref b => a ≠ b ∧ ∃ xs ys, H4 a = some (.list xs) ∧ H4 b = some (.list ys) ∧ L24 (xs.length + ys.length) ∧ Q .next ρ (H4.set a (.list (putSlice xs ys lo hi)))
  | _, _ => False := rfl
def T_nt : TS := tSet 13 (tIf (tCmp pEqI (tVar 9) (tK (.int 2))) (tK (.str (Str.ofString "strong"))) (tK (.str (Str.ofString "emphasis"))))
theorem nt_ok {ρ : Loc} {H : AH} {K : Fl → Loc → AH → Prop} {u : Nat} (h : ρ[9]? = some (some (.int (u : Nat)))) : T_nt ρ H K = K .next (ρ.set 13 (some (.str (nodeTy u)))) H := by
  simp [T_nt, h, nodeTy]
  by_cases hu : u = 2
  · subst hu; simp
  · have : ((u : Int) = 2) ↔ False := by simp; omega
    simp [hu, this]
theorem T_apply_eq2 : T_apply = (tSeq (tSet 11 (tBin pItem (tVar 0) (tVar 7))) (tSeq (tSet 12 (tBin pItem (tVar 0) (tVar 8))) (tSeq (tSetItem (tSlice (tBin pItem (tVar 11) (tK (.str (Str.ofString "raw")))) none (some (tNeg (tVar 9)))) (tVar 11) (tK (.str (Str.ofString "raw")))) (tSeq (tSetItem (tSlice (tBin pItem (tVar 12) (tK (.str (Str.ofString "raw")))) (some (tVar 9)) none) (tVar 12) (tK (.str (Str.ofString "raw")))) (tSeq T_nt (tSeq (tSetSlice (tList [(tDict2 (Str.ofString "type") (tVar 13) (Str.ofString "children") (tVar 10))]) (tVar 0) (some (tBin pAddI (tVar 7) (tK (.int 1)))) (some (tVar 8))) T_applyB)))))) := rfl
theorem slice_end (x : Str) {u : Nat} (h0 : 0 < u) (h : u ≤ x.length) : Txt.slice x none (some (-(u : Int))) = cutEnd x u := by
  show StrLaws.sliceText x none (some (-(u : Int))) = _
  rw [StrLaws.sliceText_to_neg (by omega) (by omega)]
  unfold cutEnd
  rw [List.drop_zero]
  have : (-(u : Int) + (x.length : Int) - 0).toNat = x.length - u := by omega
  rw [this]
theorem slice_front (x : Str) {u : Nat} (h : u ≤ x.length) : Txt.slice x (some (u : Int)) none = cutFront x u := by
  show StrLaws.sliceText x (some (u : Int)) none = _
  have hl := len_cps x
  rw [StrLaws.sliceText_from ⟨by omega, by omega⟩]
  unfold cutFront
  have : ((x.cps.toList.length : Int) - (u : Int)).toNat = (x.cps.toList.drop u).length := by simp
  rw [Int.toNat_natCast, this, List.take_length]
theorem drop_at {α : Type} {l : List α} {k : Nat} {x : α} (h : l[k]? = some x) : l.drop k = x :: l.drop (k + 1) := by
  obtain ⟨hlt, he⟩ := List.getElem?_eq_some_iff.mp h
  rw [List.drop_eq_getElem_cons hlt, he]
theorem take_at {α : Type} {l : List α} {k : Nat} {x : α} (h : l[k]? = some x) : l.take (k + 1) = l.take k ++ [x] := by
  rw [List.take_add_one, h]; rfl
theorem RepL.cut1 {H : AH} {vs ns fp} (r : RepL H vs ns fp) {k : Nat} {n : Nd} (h : ns[k]? = some n) : ∃ v f1 g f2, vs[k]? = some v ∧ fp = f1 ++ (g ++ f2) ∧ RepL H (vs.take k) (ns.take k) f1 ∧ RepN H v n g ∧ RepL H (vs.drop (k + 1)) (ns.drop (k + 1)) f2 := by
  have hl := r.length
  have hlt := (List.getElem?_eq_some_iff.mp h).1
  obtain ⟨f1, f2, e, r1, r2⟩ := r.split k
  have hv : vs[k]? = some vs[k] := List.getElem?_eq_getElem (by omega)
  rw [drop_at h, drop_at hv] at r2
  cases r2 with
  | cons r3 r4 => exact ⟨_, f1, _, _, hv, e, r1, r3, r4⟩
theorem RepL.cut2 {H : AH} {vs ns fp} (r : RepL H vs ns fp) {i j : Nat} {x y : Str} (hi : ns[i]? = some (.text x)) (hj : ns[j]? = some (.text y)) (hij : i < j) : ∃ a b f1 fk f2, vs[i]? = some (.ref a) ∧ vs[j]? = some (.ref b) ∧ fp = f1 ++ (a :: (fk ++ (b :: f2))) ∧
    RepL H (vs.take i) (ns.take i) f1 ∧ H a = some (.dict (shF (.text x))) ∧ RepL H ((vs.drop (i + 1)).take (j - (i + 1))) ((ns.drop (i + 1)).take (j - (i + 1))) fk ∧ H b = some (.dict (shF (.text y))) ∧ RepL H (vs.drop (j + 1)) (ns.drop (j + 1)) f2 := by
  obtain ⟨v, f1, g, f2, hv, e, r1, rn, r2⟩ := r.cut1 hi
  have hj' : (ns.drop (i + 1))[j - (i + 1)]? = some (.text y) := by rw [List.getElem?_drop]; rw [show i + 1 + (j - (i + 1)) = j by omega]; exact hj
  obtain ⟨v2, f3, g2, f4, hv2, e2, r3, rn2, r4⟩ := r2.cut1 hj'
  rw [List.getElem?_drop, show i + 1 + (j - (i + 1)) = j by omega] at hv2
  rw [List.drop_drop, List.drop_drop, show i + 1 + (j - (i + 1) + 1) = j + 1 by omega] at r4
  cases rn with
  | text e3 =>
    cases rn2 with
    | text e4 => exact ⟨_, _, f1, f3, f4, hv, hv2, by rw [e, e2]; simp, r1, e3, r3, e4, r4⟩

/-- the match has been put: the parts turn, nothing else -/
theorem Wld.node {H : AH} {ap ad ai at' an : Addr} {das : List Addr} {st : St} {fp : List Addr} (w : Wld H ap ad ai at' an das st fp) {pv : List V} (hp : H ap = some (.list pv)) {oi ci u : Nat} {x1 x2 : Str} (h1 : st.ns[oi]? = some (.text x1)) (h2 : st.ns[ci]? = some (.text x2)) (hoc : oi < ci)
    {l : Addr} (hl : H l = some (.list ((pv.drop (oi + 1)).take (ci - (oi + 1))))) (hlf : l ∉ fp) (hln : l ∉ [ap, ad, at', an]) :
    ∃ a b, pv[oi]? = some (.ref a) ∧ pv[ci]? = some (.ref b) ∧ a ≠ b ∧ a ≠ ap ∧ b ≠ ap ∧ H a = some (.dict (shF (.text x1))) ∧ H b = some (.dict (shF (.text x2))) ∧
      ∀ d e, ((H.set a (.dict (shF (.text (cutEnd x1 u))))).set b (.dict (shF (.text (cutFront x2 u))))) d = none → (((H.set a (.dict (shF (.text (cutEnd x1 u))))).set b (.dict (shF (.text (cutFront x2 u))))).set d (.dict (shF (.node (nodeTy u) l)))) e = none →
        ∃ fp', Wld (((((H.set a (.dict (shF (.text (cutEnd x1 u))))).set b (.dict (shF (.text (cutFront x2 u))))).set d (.dict (shF (.node (nodeTy u) l)))).set e (.list [.ref d])).set ap (.list (pv.take (oi + 1) ++ [.ref d] ++ pv.drop ci))) ap ad ai at' an das
          ⟨putNode st.ns oi ci u x1 x2 ((st.ns.drop (oi + 1)).take (ci - (oi + 1))), st.ds, st.tree, st.nxt⟩ fp' ∧
        KeepB H (((((H.set a (.dict (shF (.text (cutEnd x1 u))))).set b (.dict (shF (.text (cutFront x2 u))))).set d (.dict (shF (.node (nodeTy u) l)))).set e (.list [.ref d])).set ap (.list (pv.take (oi + 1) ++ [.ref d] ++ pv.drop ci))) := by
  obtain ⟨pv', hp', r⟩ := w.parts
  rw [hp] at hp'; cases hp'
  obtain ⟨a, b, f1, fk, f2, ea, eb, efp, r1, ha, rk, hb, r2⟩ := r.cut2 h1 h2 hoc
  have hnd := w.nfp
  have haf : a ∈ fp := by rw [efp]; simp
  have hbf : b ∈ fp := by rw [efp]; simp
  have hab : a ≠ b := by
    rintro rfl
    rw [efp] at hnd
    have := (List.nodup_append.mp hnd).2.1
    simp at this
  have hapf := w.dis ap (by simp)
  refine ⟨a, b, ea, eb, hab, by rintro rfl; exact hapf haf, by rintro rfl; exact hapf hbf, ha, hb, fun d e hd he => ?_⟩
  have hda : d ≠ a := by rintro rfl; rw [AH.set_ne _ _ hab, AH.set_self] at hd; cases hd
  have hdb : d ≠ b := by rintro rfl; rw [AH.set_self] at hd; cases hd
  have hd0 : H d = none := by rw [AH.set_ne _ _ hdb, AH.set_ne _ _ hda] at hd; exact hd
  have hed : e ≠ d := by rintro rfl; rw [AH.set_self] at he; cases he
  rw [AH.set_ne _ _ hed] at he
  have hea : e ≠ a := by rintro rfl; rw [AH.set_ne _ _ hab, AH.set_self] at he; cases he
  have heb : e ≠ b := by rintro rfl; rw [AH.set_self] at he; cases he
  have he0 : H e = none := by rw [AH.set_ne _ _ heb, AH.set_ne _ _ hea] at he; exact he
  have hapd : ap ≠ d := ne_old hd0 hp
  have hape : ap ≠ e := ne_old he0 hp
  have hapa : ap ≠ a := by rintro rfl; exact hapf haf
  have hapb : ap ≠ b := by rintro rfl; exact hapf hbf
  generalize hH5 : (((((H.set a (.dict (shF (.text (cutEnd x1 u))))).set b (.dict (shF (.text (cutFront x2 u))))).set d (.dict (shF (.node (nodeTy u) l)))).set e (.list [.ref d])).set ap (.list (pv.take (oi + 1) ++ [.ref d] ++ pv.drop ci))) = H5
  have same : ∀ c o, H c = some o → c ≠ a → c ≠ b → c ≠ ap → H5 c = some o := fun c o hc n1 n2 n3 => by
    rw [← hH5, AH.set_ne _ _ n3, AH.set_ne _ _ (ne_old he0 hc), AH.set_ne _ _ (ne_old hd0 hc), AH.set_ne _ _ n2, AH.set_ne _ _ n1]; exact hc
  have ga : H5 a = some (.dict (shF (.text (cutEnd x1 u)))) := by rw [← hH5, AH.set_ne _ _ (Ne.symm hapa), AH.set_ne _ _ (Ne.symm hea), AH.set_ne _ _ (Ne.symm hda), AH.set_ne _ _ hab, AH.set_self]
  have gb : H5 b = some (.dict (shF (.text (cutFront x2 u)))) := by rw [← hH5, AH.set_ne _ _ (Ne.symm hapb), AH.set_ne _ _ (Ne.symm heb), AH.set_ne _ _ (Ne.symm hdb), AH.set_self]
  have gd : H5 d = some (.dict (shF (.node (nodeTy u) l))) := by rw [← hH5, AH.set_ne _ _ (Ne.symm hapd), AH.set_ne _ _ (Ne.symm hed), AH.set_self]
  have gp : H5 ap = some (.list (pv.take (oi + 1) ++ [.ref d] ++ pv.drop ci)) := by rw [← hH5, AH.set_self]
  have hal : ∀ c ∈ [ap, ad, at', an], c ≠ a ∧ c ≠ b := fun c hc => ⟨by rintro rfl; exact w.dis _ hc haf, by rintro rfl; exact w.dis _ hc hbf⟩
  have nl := w.nls
  simp at nl
  have fr : ∀ {vs ns g}, RepL H vs ns g → (∀ c ∈ g, c ∈ fp ∧ c ≠ a ∧ c ≠ b) → RepL H5 vs ns g := fun rr hh => rr.frame fun c hc => by
    obtain ⟨k1, k2, k3⟩ := hh c hc
    have : c ≠ ap := by rintro rfl; exact hapf k1
    rw [← hH5, AH.set_ne _ _ this, AH.set_ne _ _ (by rintro rfl; exact r.isLive k1 he0), AH.set_ne _ _ (by rintro rfl; exact r.isLive k1 hd0), AH.set_ne _ _ k3, AH.set_ne _ _ k2]
  have nd2 := hnd
  rw [efp] at nd2
  have nd3 := List.nodup_append.mp nd2
  have nd4 := List.nodup_cons.mp nd3.2.1
  have nd5 := List.nodup_append.mp nd4.2
  have nd6 := List.nodup_cons.mp nd5.2.1
  have m1 : ∀ c ∈ f1, c ∈ fp ∧ c ≠ a ∧ c ≠ b := fun c hc => ⟨by rw [efp]; simp [hc], fun h => nd3.2.2 c hc a (by simp) h, fun h => nd3.2.2 c hc b (by simp) h⟩
  have mk : ∀ c ∈ fk, c ∈ fp ∧ c ≠ a ∧ c ≠ b := fun c hc => ⟨by rw [efp]; simp [hc], by rintro rfl; exact nd4.1 (by simp [hc]), fun h => nd5.2.2 c hc b (by simp) h⟩
  have m2 : ∀ c ∈ f2, c ∈ fp ∧ c ≠ a ∧ c ≠ b := fun c hc => ⟨by rw [efp]; simp [hc], by rintro rfl; exact nd4.1 (by simp [hc]), by rintro rfl; exact nd6.1 hc⟩
  have hla : l ≠ a := by rintro rfl; exact hlf haf
  have hlb : l ≠ b := by rintro rfl; exact hlf hbf
  have hlp : l ≠ ap := by rintro rfl; exact hln (by simp)
  have gl := same l _ hl hla hlb hlp
  have hty : nodeTy u ≠ Str.ofString "text" := by unfold nodeTy; split <;> decide
  have rnew : RepL H5 (pv.take (oi + 1) ++ [.ref d] ++ pv.drop ci) (putNode st.ns oi ci u x1 x2 ((st.ns.drop (oi + 1)).take (ci - (oi + 1)))) (f1 ++ (a :: ((d :: l :: fk) ++ (b :: f2)))) := by
    have rr := (fr r1 m1).append (.cons (.text ga) (.cons (.node gd hty gl (fr rk mk)) (.cons (.text gb) (fr r2 m2))))
    rw [take_at ea, drop_at eb]
    unfold putNode
    simpa using rr
  have hper : (f1 ++ (a :: ((d :: l :: fk) ++ (b :: f2)))).Perm (d :: l :: fp) := by
    rw [efp]
    have e1 : f1 ++ (a :: ((d :: l :: fk) ++ (b :: f2))) = (f1 ++ [a]) ++ d :: (l :: (fk ++ b :: f2)) := by simp
    have e2 : f1 ++ (a :: (fk ++ (b :: f2))) = (f1 ++ [a]) ++ (fk ++ b :: f2) := by simp
    rw [e1, e2]
    exact List.perm_middle.trans (.cons _ List.perm_middle)
  have hdf : d ∉ fp := fun h => r.isLive h hd0
  have hdl : d ≠ l := by rintro rfl; rw [hd0] at hl; cases hl
  refine ⟨_, ⟨⟨_, gp, rnew⟩, same _ _ w.ls (hal ad (by simp)).1 (hal ad (by simp)).2 (Ne.symm nl.1.1), ?_, same _ _ w.ix ?_ ?_ ?_, same _ _ w.tr (hal at' (by simp)).1 (hal at' (by simp)).2 (Ne.symm nl.1.2.1), same _ _ w.nx (hal an (by simp)).1 (hal an (by simp)).2 (Ne.symm nl.1.2.2), ?_, w.nds, w.nls, ?_, same _ _ w.tab ?_ ?_ ?_⟩, ?_⟩
  · refine w.dl.frame fun c hc => ?_
    have k1 := w.das_fp c hc
    obtain ⟨y, ey⟩ := w.dl.mem c hc
    have ey' : H c = _ := ey
    rw [ey']
    exact same _ _ ey' (by rintro rfl; exact k1 haf) (by rintro rfl; exact k1 hbf) (by rintro rfl; rw [hp] at ey'; cases ey')
  · rintro rfl; have := w.ix; rw [ha] at this; cases this
  · rintro rfl; have := w.ix; rw [hb] at this; cases this
  · rintro rfl; have := w.ix; rw [hp] at this; cases this
  · rw [hper.nodup_iff]
    simp [hdl, hdf, hlf, hnd]
  · intro c hc hm
    rcases List.mem_cons.mp (hper.mem_iff.mp hm) with rfl | hm
    · simp at hc
      rcases hc with rfl | rfl | rfl | rfl
      · exact hapd rfl
      · have := w.ls; rw [hd0] at this; cases this
      · have := w.tr; rw [hd0] at this; cases this
      · have := w.nx; rw [hd0] at this; cases this
    · rcases List.mem_cons.mp hm with rfl | hm
      · exact hln hc
      · exact w.dis c hc hm
  · rintro e; have := w.tab; unfold tabOk at this; rw [e, ha] at this; cases this
  · rintro e; have := w.tab; unfold tabOk at this; rw [e, hb] at this; cases this
  · rintro e; have := w.tab; unfold tabOk at this; rw [e, hp] at this; cases this
  · intro c o hc ho
    refine same c o hc ?_ ?_ ?_
    · rintro rfl; rw [ha] at hc; cases hc; rcases ho with ⟨_, h⟩ | ⟨_, h⟩ <;> cases h
    · rintro rfl; rw [hb] at hc; cases hc; rcases ho with ⟨_, h⟩ | ⟨_, h⟩ <;> cases h
    · rintro rfl; rw [hp] at hc; cases hc; rcases ho with ⟨_, h⟩ | ⟨_, h⟩ <;> cases h
end Mine
namespace Mine
theorem applyM_split {st st' : St} {op cp oi ci u : Nat} {kids : List Nd} (h : applyM st op cp oi ci u kids = some st') : ∃ x1 x2 ds1 n1 t1 ds2 n3, st.ns[oi]? = some (.text x1) ∧ st.ns[ci]? = some (.text x2) ∧ oi + 2 ≤ ci ∧ op < cp ∧ u ≤ x1.length ∧ u ≤ x2.length ∧
    rangeStep st op cp (ci - oi - 2) = some ((ds1, n1), t1) ∧ closeStep ds1 n1 op cp u = some (ds2, n3) ∧ st' = ⟨putNode st.ns oi ci u x1 x2 kids, ds2, t1, n3⟩ := by
  unfold applyM at h
  split at h
  · rename_i x1 x2 e1 e2
    split at h
    · rename_i hu
      split at h
      · cases h
      rename_i ds1 n1 t1 hr
      split at h
      · cases h
      rename_i ds2 n3 hc
      cases h
      exact ⟨x1, x2, ds1, n1, t1, ds2, n3, e1, e2, hu.1, hu.2.1, hu.2.2.1, hu.2.2.2, hr, hc, rfl⟩
    · cases h
  · cases h
theorem put_mid {pv : List V} {oi ci : Nat} {d : V} (h1 : oi + 1 ≤ ci) (h2 : ci ≤ pv.length) : putSlice pv [d] (some ((oi : Int) + 1)) (some (ci : Int)) = pv.take (oi + 1) ++ [d] ++ pv.drop ci := by
  have e : ((oi : Int) + 1) = ((oi + 1 : Nat) : Int) := by push_cast; rfl
  unfold putSlice
  simp only [Option.elim]
  rw [e, clip_in (by omega), clip_in h2, Nat.max_eq_right h1]
theorem W_apply : WOk P_apply 11 4 T_apply := by
  rintro _ H Q ⟨ap, ad, ai, at', an, l, das, st, st', fp, pv, op, cp, oi, ci, u, kids, a, b, rfl, w, hp, ha, hb, rfl, hl, hlf, hln, hu, hns, hds, htr, hnx, hix, hraw, hap, q⟩
  refine ⟨rfl, ?_⟩
  obtain ⟨x1, x2, ds1, n1, t1, ds2, n3, e1, e2, hoc, hop, hu1, hu2, hr, hc, rfl⟩ := applyM_split hap
  obtain ⟨ta, tb, ea, eb, hab, hap', hbp, hta, htb, hN⟩ := w.node (u := u) hp e1 e2 (by omega) hl hlf hln
  have hpl : pv.length = st.ns.length := by obtain ⟨pv2, h1, h2⟩ := w.parts; rw [hp] at h1; cases h1; exact h2.length
  have hcl := (List.getElem?_eq_some_iff.mp e2).1
  have ga := getV_nat ea
  have gb := getV_nat eb
  have bo : Bnd (oi : Int) := Bnd.of (by omega) (by omega)
  have bc : Bnd (ci : Int) := Bnd.of (by omega) (by omega)
  have r1 := hraw _ (List.mem_of_getElem? e1)
  have r2 := hraw _ (List.mem_of_getElem? e2)
  have l1 : L24 x1.length := L24.of (by have : x1.length ≤ 100000 := r1; omega)
  have l2 : L24 x2.length := L24.of (by have : x2.length ≤ 100000 := r2; omega)
  have s1 := slice_end x1 (u := u) (by omega) hu1
  have s2 := slice_front x2 (u := u) hu2
  have sh1 : (shF (.text x1)).length = 2 := rfl
  have sh2 : (shF (.text x2)).length = 2 := rfl
  have pl : L24 (pv.length + 1) := L24.of (by omega)
  have pm := fun d => put_mid (pv := pv) (oi := oi) (ci := ci) (d := d) (by omega) (by omega)
  rw [T_apply_eq2]
  simp [List.replicate, hp, ga, gb, bo, bc, hta, AH.set_ne _ _ (Ne.symm hab), htb, l1, l2, s1, s2, put_raw, sh1, sh2]
  rw [nt_ok rfl]
  simp
  intro d hd e he
  have hapd : ap ≠ d := ne_old hd (by rw [AH.set_ne _ _ (Ne.symm hbp), AH.set_ne _ _ (Ne.symm hap')]; exact hp)
  have hape : ap ≠ e := by
    rintro rfl
    rw [AH.set_ne _ _ hapd, AH.set_ne _ _ (Ne.symm hbp), AH.set_ne _ _ (Ne.symm hap'), hp] at he; cases he
  obtain ⟨fp', w2, kb⟩ := hN d e hd he
  simp [AH.set_ne _ _ hapd, AH.set_ne _ _ hape, AH.set_ne _ _ (Ne.symm hbp), AH.set_ne _ _ (Ne.symm hap'), hp, pl, pm, hape]
  have := applyB_ok w2 kb ha hb hop hoc (by omega) hnx htr hds hix hr hc (fun H' w3 k3 => q H' fp' w3 k3) (v0 := some (.ref ap)) (v10 := some (.ref l)) (v11 := some (.ref ta)) (v12 := some (.ref tb)) (v13 := some (.str (nodeTy u))) (v14 := none)
  have sh3 : shF (.node (nodeTy u) l) = [(Str.ofString "type", .str (nodeTy u)), (Str.ofString "children", .ref l)] := rfl
  rw [sh3] at this
  simpa using this
end Mine
namespace Mine
theorem wtL_append : ∀ a b, wtL (a ++ b) = wtL a + wtL b
  | [], b => by simp [wtL]
  | n :: r, b => by simp only [List.cons_append, wtL, wtL_append r b]; omega
theorem wtN_pos (n : Nd) : 0 < wtN n := by cases n <;> simp only [wtN] <;> omega
theorem len_wtL : ∀ l, l.length ≤ wtL l
  | [] => by simp [wtL]
  | n :: r => by have := len_wtL r; have := wtN_pos n; simp only [List.length_cons, wtL]; omega
theorem raw_wtN (n : Nd) : n.raw.length ≤ wtN n := by
  cases n with
  | text x => simp only [Nd.raw, wtN]; omega
  | node ty ks => have : (Str.ofString "").length = 0 := by decide
                  simp only [Nd.raw, this]; omega
theorem mem_wtL : ∀ {l : List Nd} {n}, n ∈ l → wtN n ≤ wtL l
  | [], n, h => by simp at h
  | m :: r, n, h => by
    rcases List.mem_cons.mp h with rfl | h
    · simp only [wtL]; omega
    · have := mem_wtL h; simp only [wtL]; omega
mutual
theorem size_wtN : ∀ n, sizeN n ≤ wtN n
  | .text x => by simp only [sizeN, wtN]; omega
  | .node ty ks => by have := size_wtL ks; simp only [sizeN, wtN]; omega
theorem size_wtL : ∀ l, sizeL l ≤ wtL l
  | [] => by simp [sizeL, wtL]
  | n :: r => by have := size_wtN n; have := size_wtL r; simp only [sizeL, wtL]; omega
end
theorem cutEnd_len (x : Str) (u : Nat) : (cutEnd x u).length = x.length - u := by
  have hl := len_cps x
  simp [cutEnd, Str.length]
theorem cutFront_len (x : Str) (u : Nat) : (cutFront x u).length = x.length - u := by
  simp [cutFront, Str.length]
theorem ns_cut {ns : List Nd} {i j : Nat} {x y : Nd} (hi : ns[i]? = some x) (hj : ns[j]? = some y) (hij : i < j) : ns = ns.take i ++ x :: ((ns.drop (i + 1)).take (j - (i + 1)) ++ y :: ns.drop (j + 1)) := by
  have hj' : (ns.drop (i + 1))[j - (i + 1)]? = some y := by rw [List.getElem?_drop, show i + 1 + (j - (i + 1)) = j by omega]; exact hj
  have e2 := drop_at hj'
  rw [List.drop_drop, List.drop_drop, show i + 1 + (j - (i + 1)) = j by omega, show i + 1 + (j - (i + 1) + 1) = j + 1 by omega] at e2
  have e3 : ns.drop (i + 1) = (ns.drop (i + 1)).take (j - (i + 1)) ++ (ns.drop (i + 1)).drop (j - (i + 1)) := (List.take_append_drop _ _).symm
  rw [List.drop_drop, show i + 1 + (j - (i + 1)) = j by omega, e2] at e3
  rw [← e3, ← drop_at hi, List.take_append_drop]
theorem putNode_wt {ns : List Nd} {i j u : Nat} {x y : Str} (hi : ns[i]? = some (.text x)) (hj : ns[j]? = some (.text y)) (hij : i < j) (h1 : u ≤ x.length) (h2 : u ≤ y.length) (h0 : 0 < u) : wtL (putNode ns i j u x y ((ns.drop (i + 1)).take (j - (i + 1)))) ≤ wtL ns := by
  have e := ns_cut hi hj hij
  have : wtL ns = wtL (ns.take i ++ Nd.text x :: ((ns.drop (i + 1)).take (j - (i + 1)) ++ Nd.text y :: ns.drop (j + 1))) := congrArg wtL e
  rw [this]
  unfold putNode
  simp only [wtL_append, wtL, wtN, cutEnd_len, cutFront_len]
  omega

theorem addT_len {r : Nat} : ∀ (f : Nat) {tree t1 : List Nat} {c : Nat}, addT r f tree c = some t1 → t1.length = tree.length
  | 0, tree, t1, c, h => by unfold addT at h; cases h
  | f + 1, tree, t1, c, h => by
    rcases addT_step h with ⟨_, rfl⟩ | ⟨t, _, _, h3⟩
    · rfl
    · have := addT_len f h3; simpa using this
/-- what a delimiter keeps -/
def sameD (x y : Dl) : Prop := y.index = x.index ∧ y.marker = x.marker ∧ y.orig = x.orig ∧ y.order = x.order
theorem sameD.refl (x : Dl) : sameD x x := ⟨rfl, rfl, rfl, rfl⟩
theorem sameD.trans {x y z : Dl} (h1 : sameD x y) (h2 : sameD y z) : sameD x z := ⟨h2.1.trans h1.1, h2.2.1.trans h1.2.1, h2.2.2.1.trans h1.2.2.1, h2.2.2.2.trans h1.2.2.2⟩
def sameDs (ds ds' : List Dl) : Prop := ds'.length = ds.length ∧ ∀ (i : Nat) y', ds'[i]? = some y' → ∃ y, ds[i]? = some y ∧ sameD y y'
theorem sameDs.refl (ds : List Dl) : sameDs ds ds := ⟨rfl, fun i y h => ⟨y, h, .refl y⟩⟩
theorem sameDs.trans {a b c : List Dl} (h1 : sameDs a b) (h2 : sameDs b c) : sameDs a c := ⟨h2.1.trans h1.1, fun i y h => by
  obtain ⟨z, e, s⟩ := h2.2 i y h
  obtain ⟨w, e', s'⟩ := h1.2 i z e
  exact ⟨w, e', s'.trans s⟩⟩
theorem sameDs.set {ds : List Dl} {i : Nat} {x y : Dl} (h : ds[i]? = some x) (s : sameD x y) : sameDs ds (ds.set i y) := ⟨by simp, fun j z hz => by
  by_cases hi : i = j
  · subst hi
    rw [List.getElem?_set_self (List.getElem?_eq_some_iff.mp h).1] at hz
    cases hz; exact ⟨x, h, s⟩
  · rw [List.getElem?_set_ne hi] at hz; exact ⟨z, hz, .refl z⟩⟩
theorem rangeM_same {e : Nat} : ∀ (f : Nat) {ds : List Dl} {nxt : List Nat} {o : Nat} {ds' : List Dl} {n2 : List Nat}, rangeM e f ds nxt o = some (ds', n2) → sameDs ds ds'
  | 0, ds, nxt, o, ds', n2, h => by unfold rangeM at h; cases h
  | f + 1, ds, nxt, o, ds', n2, h => by
    rcases rangeM_step h with ⟨h1, h2⟩ | ⟨h1, x, n1, r, n3, hx, hda, hf, hr⟩
    · cases h2; exact .refl ds
    · exact (sameDs.set hx (y := { x with length := 0 }) ⟨rfl, rfl, rfl, rfl⟩).trans (rangeM_same f hr)
theorem rangeStep_same {st : St} {op cp k : Nat} {ds1 : List Dl} {n1 t1 : List Nat} (h : rangeStep st op cp k = some ((ds1, n1), t1)) : sameDs st.ds ds1 ∧ n1.length = st.nxt.length ∧ t1.length = st.tree.length := by
  unfold rangeStep at h
  split at h
  · cases h; exact ⟨.refl _, rfl, rfl⟩
  · split at h
    · cases h
    rename_i r m1 hf
    split at h
    · cases h
    rename_i dsr m2 hrg
    split at h
    · cases h
    rename_i y hy
    split at h
    · cases h
    rename_i tt hadd
    cases h
    exact ⟨rangeM_same _ hrg, by rw [(rangeM_pres _ hrg).1, findM_len hf], addT_len _ hadd⟩
theorem closeNxt_len {x : Dl} {nxt n2 : List Nat} (h : closeNxt x nxt = some n2) : n2.length = nxt.length := by
  unfold closeNxt at h
  split at h
  · exact (deactM_len h).1
  · cases h; rfl
theorem closeDl_same (b : Bool) (u : Nat) (x : Dl) : sameD x (closeDl b (spend u x)) := by
  unfold closeDl spend
  split
  · cases b <;> exact ⟨rfl, rfl, rfl, rfl⟩
  · exact ⟨rfl, rfl, rfl, rfl⟩
theorem closeStep_same {ds ds2 : List Dl} {nxt n3 : List Nat} {op cp u : Nat} (hne : op ≠ cp) (h : closeStep ds nxt op cp u = some (ds2, n3)) : sameDs ds ds2 ∧ n3.length = nxt.length := by
  unfold closeStep at h
  split at h
  · rename_i x y hx hy
    split at h
    · split at h
      · cases h
      rename_i n2 h2
      split at h
      · cases h
      rename_i n3' h3
      cases h
      refine ⟨(sameDs.set hx (closeDl_same true u x)).trans (sameDs.set ?_ (closeDl_same false u y)), by rw [closeNxt_len h3, closeNxt_len h2]⟩
      rw [List.getElem?_set_ne hne]; exact hy
    · cases h
  · cases h

/-- bounds that hold all the way -/
structure PB (st : St) (bots : List (BKey × Nat)) : Prop where
  wt : wtL st.ns ≤ 5000
  dl : st.ds.length ≤ 5000
  tl : st.tree.length ≤ 5001
  nl : st.nxt.length ≤ 5001
  ix : ∀ (i : Nat) x, st.ds[i]? = some x → x.index ≤ 5000 ∧ isMark x.marker
  bn : ∀ p ∈ bots, p.2 ≤ 5000
  bd : (bots.map (·.1)).Nodup
  bk : ∀ p ∈ bots, isMark p.1.1 ∧ 0 ≤ p.1.2.1 ∧ p.1.2.1 < 3
theorem PB.apply {st st' : St} {bots : List (BKey × Nat)} (b : PB st bots) {op cp oi ci u : Nat} (hu : 0 < u) (h : applyM st op cp oi ci u ((st.ns.drop (oi + 1)).take (ci - (oi + 1))) = some st') : PB st' bots := by
  obtain ⟨x1, x2, ds1, n1, t1, ds2, n3, e1, e2, hoc, hop, hu1, hu2, hr, hc, rfl⟩ := applyM_split h
  obtain ⟨s1, s2, s3⟩ := rangeStep_same hr
  obtain ⟨s4, s5⟩ := closeStep_same (by omega) hc
  have s6 := s1.trans s4
  have := putNode_wt e1 e2 (by omega) hu1 hu2 hu
  refine ⟨by have := b.wt; dsimp only; omega, by dsimp only; rw [s6.1]; exact b.dl, by dsimp only; rw [s3]; exact b.tl, by dsimp only; rw [s5, s2]; exact b.nl, fun i x hx => ?_, b.bn, b.bd, b.bk⟩
  obtain ⟨y, hy, hs⟩ := s6.2 i x hx
  rw [hs.1, hs.2.1]
  exact b.ix i y hy
theorem PB.start {ns : List Nd} {ds : List Dl} (h1 : wtL ns ≤ 5000) (h2 : ds.length ≤ 5000) (h3 : ∀ x ∈ ds, x.index ≤ 5000 ∧ isMark x.marker) : PB (start ns ds) [] := by
  have := len_wtL ns
  exact ⟨h1, h2, by simp [Mine.start]; omega, by simp [Mine.start]; omega, fun i x hx => h3 x (List.mem_of_getElem? hx), by simp, by simp, by simp⟩
def allKeys : List BKey := [chS 42, chS 95].flatMap fun m => [(m, 0, false), (m, 0, true), (m, 1, false), (m, 1, true), (m, 2, false), (m, 2, true)]
theorem PB.room {st : St} {bots : List (BKey × Nat)} (b : PB st bots) : bots.length ≤ 12 := by
  have : (bots.map (·.1)).length ≤ allKeys.length := by
    refine List.Nodup.length_le_of_subset b.bd fun k hk => ?_
    obtain ⟨p, hp, rfl⟩ := List.mem_map.mp hk
    obtain ⟨h1, h2, h3⟩ := b.bk p hp
    obtain ⟨⟨m, r, c⟩, n⟩ := p
    dsimp only at h1 h2 h3 ⊢
    have hr : r = 0 ∨ r = 1 ∨ r = 2 := by omega
    rcases h1 with rfl | rfl <;> rcases hr with rfl | rfl | rfl <;> cases c <;> simp [allKeys]
  simpa [allKeys] using this
def botsV (bots : List (BKey × Nat)) : List (BKey × V) := bots.map fun p => (p.1, .int (p.2 : Nat))
theorem botsPut_keys (k : BKey) (n : Nat) : ∀ bots : List (BKey × Nat), (botsPut bots k n).map (·.1) = if k ∈ bots.map (·.1) then bots.map (·.1) else bots.map (·.1) ++ [k]
  | [] => by simp [botsPut]
  | (x, m) :: r => by
    unfold botsPut
    by_cases h : x = k
    · subst h; simp
    · rw [if_neg h, List.map_cons, botsPut_keys k n r]
      have h' : ¬ k = x := fun e => h e.symm
      simp only [List.map_cons, List.mem_cons, h', false_or]
      split <;> simp
theorem botsPut_mem {k : BKey} {n : Nat} : ∀ {bots : List (BKey × Nat)} {p}, p ∈ botsPut bots k n → p = (k, n) ∨ p ∈ bots
  | [], p, h => by simp [botsPut] at h; exact .inl h
  | (x, m) :: r, p, h => by
    unfold botsPut at h
    split at h
    · rename_i e
      rcases List.mem_cons.mp h with rfl | h
      · left; rw [e]
      · right; exact List.mem_cons_of_mem _ h
    · rcases List.mem_cons.mp h with rfl | h
      · right; exact List.mem_cons_self
      · rcases botsPut_mem h with h | h
        · exact .inl h
        · right; exact List.mem_cons_of_mem _ h
theorem PB.put {st : St} {bots : List (BKey × Nat)} (b : PB st bots) {cp : Nat} {y : Dl} (hy : st.ds[cp]? = some y) : PB st (botsPut bots (keyOf y) cp) := by
  have hlt := (List.getElem?_eq_some_iff.mp hy).1
  have := b.dl
  refine ⟨b.wt, b.dl, b.tl, b.nl, b.ix, fun p hp => ?_, ?_, fun p hp => ?_⟩
  · rcases botsPut_mem hp with rfl | hp
    · dsimp only; omega
    · exact b.bn p hp
  · rw [botsPut_keys]
    split
    · exact b.bd
    · rename_i hk
      rw [List.nodup_append]
      refine ⟨b.bd, by simp, ?_⟩
      rintro a ha c hc rfl
      simp at hc; subst hc; exact hk ha
  · rcases botsPut_mem hp with rfl | hp
    · refine ⟨(b.ix _ _ hy).2, ?_, ?_⟩
      · show 0 ≤ ((y.length % 3 : Nat) : Int); omega
      · show ((y.length % 3 : Nat) : Int) < 3; omega
    · exact b.bk p hp
theorem bget_bots (k : BKey) : ∀ bots : List (BKey × Nat), (bget (botsV bots) k).getD (.int 0) = .int (botsAt bots k : Nat)
  | [] => rfl
  | (x, m) :: r => by
    have ih := bget_bots k r
    unfold botsAt at ih ⊢
    by_cases h : x = k
    · subst h; simp [botsV, bget]
    · simp [botsV, bget, h] at ih ⊢
      exact ih
theorem bput_bots (k : BKey) (n : Nat) : ∀ bots : List (BKey × Nat), bput (botsV bots) k (.int (n : Nat)) = botsV (botsPut bots k n)
  | [] => rfl
  | (x, m) :: r => by
    have ih := bput_bots k n r
    by_cases h : x = k
    · subst h; simp [botsV, bput, botsPut]
    · simp [botsV, bput, botsPut, h] at ih ⊢
      exact ih
theorem PB.at {st : St} {bots : List (BKey × Nat)} (b : PB st bots) (k : BKey) : botsAt bots k ≤ 5000 := by
  unfold botsAt
  cases h : bots.find? fun x => decide (x.1 = k) with
  | none => simp
  | some p => simpa using b.bn p (List.mem_of_find?_eq_some h)
end Mine
namespace Mine
def qBG (a ka : Addr) (dv : V) (H : AH) (Q : V → AH → Prop) : Prop := ∃ es bk, H a = some (.bots es) ∧ isKey ka bk H ∧ Q ((bget es bk).getD dv) H
theorem qBG_ok {a ka : Addr} {H : AH} {Q : V → AH → Prop} {bots : List (BKey × Nat)} {k : BKey} (hb : H a = some (.bots (botsV bots))) (hk : isKey ka k H) (q : Q (.int (botsAt bots k : Nat)) H) : qBG a ka (.int 0) H Q := ⟨_, k, hb, hk, by rw [bget_bots]; exact q⟩
theorem storeB_ok {a ka : Addr} {H : AH} {Q : AH → Prop} {bots : List (BKey × Nat)} {k : BKey} {n : Nat} (hb : H a = some (.bots (botsV bots))) (hk : isKey ka k H) (hl : bots.length ≤ 12) (q : Q ((H.del ka).set a (.bots (botsV (botsPut bots k n))))) : pStoreB (.ref a) (.ref ka) (.int (n : Nat)) H Q :=
  ⟨_, k, hb, hk, by simp [botsV]; omega, by rw [bput_bots]; exact q⟩
@[simp] theorem s_botsget {T Tk Td : TE} {ρ : Loc} {H : AH} {Q : V → AH → Prop} : tBotsGet T Tk Td ρ H Q = T ρ H fun v H1 => isB v H1 ∧ Tk ρ H1 fun k H2 => Td ρ H2 fun dv H3 => match v, k with
  | .ref a, .ref ka => qBG a ka dv H3 Q
  | _, _ => False := rfl
@[simp] theorem s_isB {a : Addr} {H : AH} : isB (.ref a) H = ∃ es, H a = some (.bots es) := rfl
def T_p4 : TS := (tSeq (tExpr (tCall P_apply [(tVar 0), (tVar 1), (tVar 3), (tVar 11), (tVar 6), (tVar 10), (tVar 4), (tVar 12), (tVar 13), (tVar 14), (tVar 15)])) (tSeq (tIfS (tOrB [(tTest (tAttr cD (Str.ofString "can_open") (tVar 11))), (tTest (tAttr cD (Str.ofString "can_close") (tVar 6)))]) (tSeq (tSet 4 (tCall pMax [(tVar 10), (tBotsGet (tVar 5) (tVar 7) (tK (.int 0)))])) tNil) (tSeq (tAug 4 pAddI (tK (.int 1))) tNil)) tNil))
def T_p3 : TS := (tSeq (tUnpack [10, 11] (tVar 9)) (tSeq (tSet 12 (tMCall cI (Str.ofString "current") P_current (tVar 3) [(tVar 11)])) (tSeq (tSet 13 (tMCall cI (Str.ofString "current") P_current (tVar 3) [(tVar 6)])) (tSeq (tSet 14 (tCall P_use_length [(tVar 0), (tVar 11), (tVar 6), (tVar 12), (tVar 13)])) (tSeq (tSet 15 (tCall P_children [(tVar 0), (tVar 12), (tVar 13), (tVar 2)])) (tSeq (tIfS (tOrB [(tCmp pIsNone (tVar 14) (tK .none)), (tCmp pIsNone (tVar 15) (tK .none))]) (tSeq (tAug 4 pAddI (tK (.int 1))) (tSeq tCont tNil)) tNil) T_p4))))))
def T_p2 : TS := (tSeq (tSet 7 (tTuple [(tAttr cD (Str.ofString "marker") (tVar 6)), (tBin pModI (tAttr cD (Str.ofString "length") (tVar 6)) (tK (.int 3))), (tAttr cD (Str.ofString "can_open") (tVar 6))])) (tSeq (tSet 8 (tBotsGet (tVar 5) (tVar 7) (tK (.int 0)))) (tSeq (tSet 9 (tCall P_find_opener [(tVar 1), (tVar 4), (tVar 6), (tVar 8)])) (tSeq (tIfS (tCmp pIsNone (tVar 9) (tK .none)) (tSeq (tSetBots (tVar 4) (tVar 5) (tVar 7)) (tSeq (tAug 4 pAddI (tK (.int 1))) (tSeq tCont tNil))) tNil) T_p3))))
def T_p1 : TS := (tSeq (tSet 6 (tBin pItem (tVar 1) (tVar 4))) (tSeq (tIfS (tOrB [(tNotB (tTest (tAttr cD (Str.ofString "can_close") (tVar 6)))), (tCmp pEqI (tAttr cD (Str.ofString "length") (tVar 6)) (tK (.int 0)))]) (tSeq (tAug 4 pAddI (tK (.int 1))) (tSeq tCont tNil)) tNil) T_p2))
theorem T_process_eq : T_process = (tSeq (tSet 3 (tCall P_newidx [(tVar 1), (tCall pLen [(tVar 0)])])) (tSeq (tSet 4 (tK (.int 0))) (tSeq (tSet 5 tBots) (tSeq (tWhile (tCmp pLt (tVar 4) (tCall pLen [(tVar 1)])) T_p1) tNil)))) := rfl

theorem Wld.grow {H H' : AH} {ap ad ai at' an : Addr} {das : List Addr} {st : St} {fp : List Addr} (w : Wld H ap ad ai at' an das st fp) (g : ∀ b o, H b = some o → (∀ es, o ≠ .bots es) → (∀ es, o ≠ .tup es) → H' b = some o) : Wld H' ap ad ai at' an das st fp := by
  obtain ⟨pv, hp, r⟩ := w.parts
  refine ⟨⟨pv, g _ _ hp (by intro _; nofun) (by intro _; nofun), r.frame fun a ha => ?_⟩, g _ _ w.ls (by intro _; nofun) (by intro _; nofun), w.dl.frame fun a ha => ?_, g _ _ w.ix (by intro _; nofun) (by intro _; nofun), g _ _ w.tr (by intro _; nofun) (by intro _; nofun), g _ _ w.nx (by intro _; nofun) (by intro _; nofun), w.nfp, w.nds, w.nls, w.dis, g _ _ w.tab (by intro _; nofun) (by intro _; nofun)⟩
  · rcases r.live a ha with ⟨_, e⟩ | ⟨_, e⟩ <;> rw [e] <;> exact g _ _ e (by intro _; nofun) (by intro _; nofun)
  · obtain ⟨x, e⟩ := w.dl.mem a ha
    have e' : H a = _ := e
    rw [e']; exact g _ _ e' (by intro _; nofun) (by intro _; nofun)
theorem Wld.grow1 {H H' : AH} {ap ad ai at' an : Addr} {das : List Addr} {st : St} {fp : List Addr} (w : Wld H ap ad ai at' an das st fp) (g : Grow H H') : Wld H' ap ad ai at' an das st fp := w.grow fun b o e _ _ => g b o e
theorem Grow.keep {H H' : AH} (g : Grow H H') : KeepB H H' := fun a o e _ => g a o e

structure PW (ap ad ai at' an bb : Addr) (das : List Addr) (H : AH) (st : St) (bots : List (BKey × Nat)) (fp : List Addr) : Prop where
  w : Wld H ap ad ai at' an das st fp
  b : H bb = some (.bots (botsV bots))
  pb : PB st bots
theorem PW.grow {ap ad ai at' an bb : Addr} {das : List Addr} {H H' : AH} {st : St} {bots : List (BKey × Nat)} {fp : List Addr} (p : PW ap ad ai at' an bb das H st bots fp) (g : Grow H H') : PW ap ad ai at' an bb das H' st bots fp := ⟨p.w.grow1 g, g _ _ p.b, p.pb⟩
theorem p4_ok {ap ad ai at' an bb : Addr} {das : List Addr} {H : AH} {st st' : St} {bots : List (BKey × Nat)} {fp : List Addr} (p : PW ap ad ai at' an bb das H st bots fp)
    {op cp oi ci u : Nat} {a b tk l : Addr} {key : BKey} {pv : List V} {kids : List Nd} {x' y' : Dl} (hp : H ap = some (.list pv)) (ha : das[op]? = some a) (hb : das[cp]? = some b) (hk : isKey tk key H)
    (hks : kids = (st.ns.drop (oi + 1)).take (ci - (oi + 1))) (hl : H l = some (.list ((pv.drop (oi + 1)).take (ci - (oi + 1))))) (hlf : l ∉ fp) (hln : l ∉ [ap, ad, at', an]) (hu : u = 1 ∨ u = 2)
    (hap : applyM st op cp oi ci u kids = some st') (hx : st'.ds[op]? = some x') (hy : st'.ds[cp]? = some y') {v2 v8 v9 : Option V} {K : Fl → Loc → AH → Prop}
    (q : ∀ H' fp', PW ap ad ai at' an bb das H' st' bots fp' → K .next [some (.ref ap), some (.ref ad), v2, some (.ref ai), some (.int ((if x'.co || y'.cc then max op (botsAt bots key) else cp + 1 : Nat) : Int)), some (.ref bb), some (.ref b), some (.ref tk), v8, v9, some (.int op), some (.ref a), some (.int oi), some (.int ci), some (.int u), some (.ref l)] H') :
    T_p4 [some (.ref ap), some (.ref ad), v2, some (.ref ai), some (.int cp), some (.ref bb), some (.ref b), some (.ref tk), v8, v9, some (.int op), some (.ref a), some (.int oi), some (.int ci), some (.int u), some (.ref l)] H K := by
  have b1 := p.pb.wt
  have b2 := p.pb.dl
  have b3 := p.pb.tl
  have b4 := p.pb.nl
  have b5 := len_wtL st.ns
  simp [T_p4]
  refine ⟨ap, ad, ai, at', an, l, das, st, st', fp, pv, op, cp, oi, ci, u, kids, a, b, rfl, p.w, hp, ha, hb, hks, hl, hlf, hln, hu, by omega, by omega, by omega, by omega, fun y hy => by have := (p.pb.ix _ _ hy).1; omega, fun n hn => by have := mem_wtL hn; have := raw_wtN n; omega, hap, ?_⟩
  intro H' fp' w' kb
  have pw : PW ap ad ai at' an bb das H' st' bots fp' := ⟨w', kb _ _ p.b (.inl ⟨_, rfl⟩), p.pb.apply (by omega) (hks ▸ hap)⟩
  have hk' : isKey tk key H' := kb _ _ hk (.inr ⟨_, rfl⟩)
  have hax := w'.dl.at ha hx
  have hbx := w'.dl.at hb hy
  have qq := q H' fp' pw
  have e : (max (op : Int) (botsAt bots key : Nat)) = ((max op (botsAt bots key) : Nat) : Int) := by omega
  simp [hax]
  cases h1 : x'.co
  · cases h2 : y'.cc
    · simp [h1, h2] at qq
      simp [hbx, h2]
      exact qq
    · simp [h1, h2] at qq
      simp [hbx, h2, pw.b]
      refine qBG_ok pw.b hk' ?_
      rw [s_max, e]
      exact qq
  · simp [h1] at qq
    simp [pw.b]
    refine qBG_ok pw.b hk' ?_
    rw [s_max, e]
    exact qq

theorem findOp_lt {ds : List Dl} {c : Dl} {ob : Nat} : ∀ {n k : Nat}, findOp ds c ob n = some k → k < n
  | 0, k, h => by unfold findOp at h; cases h
  | n + 1, k, h => by
    unfold findOp at h
    split at h
    · cases h
    · split at h
      · split at h
        · cases h; omega
        · have := findOp_lt h; omega
      · cases h
theorem useLen_eq {x y : Dl} {s1 s2 : Sh} {n1 n2 : Nd} (h1 : ShN s1 n1) (h2 : ShN s2 n2) : useLen x y s1 s2 = useLenN x y n1 n2 := by
  unfold useLen useLenN; rw [h1.raw, h2.raw]
theorem useLenN_ok {x y : Dl} {n1 n2 : Nd} {u : Nat} (h : useLenN x y n1 n2 = some u) : u = 1 ∨ u = 2 := by
  unfold useLenN at h
  split at h
  · cases h; exact .inr rfl
  · split at h
    · cases h; exact .inl rfl
    · cases h
theorem kidsM_ok {ns : List Nd} {oi ci m : Nat} {n1 n2 : Nd} {ks : List Nd} (h : kidsM ns oi ci n1 n2 m = some ks) : ks = (ns.drop (oi + 1)).take (ci - (oi + 1)) := by
  unfold kidsM at h
  dsimp only at h
  split at h
  · cases h
  · split at h
    · cases h
    · split at h
      · cases h
      · cases h; rfl
theorem iF_cur (x y : Addr) : pget (iF x y) (Str.ofString "current") = none := iF_none _ _ _ (by decide) (by decide)

/-- the rest of a turn, once an opener stands -/
theorem p3_ok {ap ad ai at' an bb : Addr} {das : List Addr} {H : AH} {st : St} {bots : List (BKey × Nat)} {fp : List Addr} (p : PW ap ad ai at' an bb das H st bots fp)
    {op cp oi ci maxd : Nat} {a b tk t : Addr} {key : BKey} {x y : Dl} {n1 n2 : Nd} (ha : das[op]? = some a) (hb : das[cp]? = some b) (hk : isKey tk key H) (ht : H t = some (.tup [.int op, .ref a])) (hx : st.ds[op]? = some x) (hy : st.ds[cp]? = some y)
    (hoi : curM st.tree x = some oi) (hci : curM st.tree y = some ci) (hn1 : st.ns[oi]? = some n1) (hn2 : st.ns[ci]? = some n2) (hlt : oi < ci) {v8 v10 v11 v12 v13 v14 v15 : Option V} {K : Fl → Loc → AH → Prop}
    (q0 : (useLenN x y n1 n2 = none ∨ kidsM st.ns oi ci n1 n2 maxd = none) → ∀ H' v10 v11 v12 v13 v14 v15, PW ap ad ai at' an bb das H' st bots fp → K .cont [some (.ref ap), some (.ref ad), some (.int maxd), some (.ref ai), some (.int ((cp + 1 : Nat) : Int)), some (.ref bb), some (.ref b), some (.ref tk), v8, some (.ref t), v10, v11, v12, v13, v14, v15] H')
    (q1 : ∀ u ks, useLenN x y n1 n2 = some u → kidsM st.ns oi ci n1 n2 maxd = some ks → ∃ st' x' y', applyM st op cp oi ci u ks = some st' ∧ st'.ds[op]? = some x' ∧ st'.ds[cp]? = some y' ∧
      ∀ H' fp' v10 v11 v12 v13 v14 v15, PW ap ad ai at' an bb das H' st' bots fp' → K .next [some (.ref ap), some (.ref ad), some (.int maxd), some (.ref ai), some (.int ((if x'.co || y'.cc then max op (botsAt bots key) else cp + 1 : Nat) : Int)), some (.ref bb), some (.ref b), some (.ref tk), v8, some (.ref t), v10, v11, v12, v13, v14, v15] H') :
    T_p3 [some (.ref ap), some (.ref ad), some (.int maxd), some (.ref ai), some (.int cp), some (.ref bb), some (.ref b), some (.ref tk), v8, some (.ref t), v10, v11, v12, v13, v14, v15] H K := by
  have b1 := p.pb.wt
  have b2 := p.pb.dl
  have b3 := p.pb.tl
  have b4 := p.pb.nl
  have b5 := len_wtL st.ns
  have b6 := size_wtL st.ns
  obtain ⟨pv, hp, r⟩ := p.w.parts
  obtain ⟨ss, hts, hsn⟩ := r.toks
  obtain ⟨s1, hs1, k1⟩ := hsn.get hn1
  obtain ⟨s2, hs2, k2⟩ := hsn.get hn2
  have hax := p.w.dl.at ha hx
  have hby := p.w.dl.at hb hy
  have ho1 := (List.getElem?_eq_some_iff.mp hn1).1
  have ho2 := (List.getElem?_eq_some_iff.mp hn2).1
  have w1 := mem_wtL (List.mem_of_getElem? hn1)
  have w2 := mem_wtL (List.mem_of_getElem? hn2)
  have r1 := raw_wtN n1
  have r2 := raw_wtN n2
  simp [T_p3, ht, setAll]
  simp [p.w.ix, iF_cur]
  refine ⟨ai, a, at', an, st.tree, x, oi, rfl, p.w.ix, p.w.tr, by omega, hax, hoi, ?_⟩
  simp [p.w.ix, iF_cur]
  refine ⟨ai, b, at', an, st.tree, y, ci, rfl, p.w.ix, p.w.tr, by omega, hby, hci, ?_⟩
  simp
  refine ⟨ap, a, b, oi, ci, s1, s2, x, y, rfl, ⟨pv, ss, hp, hts, getV_nat hs1, getV_nat hs2, Bnd.of (by omega) (by omega), Bnd.of (by omega) (by omega), L62.of (by rw [k1.raw]; omega), L62.of (by rw [k2.raw]; omega)⟩, hax, hby, ?_⟩
  rw [useLen_eq k1 k2]
  refine ⟨ap, pv, st.ns, fp, oi, ci, maxd, n1, n2, rfl, hp, r, hn1, hn2, hlt, p.w.tab, by omega, ?_, ?_⟩
  · intro hkn H' g
    have pw := p.grow g
    have := q0 (.inr hkn) H' (some (.int op)) (some (.ref a)) (some (.int oi)) (some (.int ci)) (some (optV (useLenN x y n1 n2))) (some .none) pw
    push_cast at this
    split
    · exact this
    · rw [if_pos (show isNone V.none = true from rfl)]; exact this
  · intro ks hks H' c g hc0 hc
    have pw := p.grow g
    cases hu : useLenN x y n1 n2 with
    | none =>
      simp only [optV]
      have := q0 (.inl hu) H' (some (.int op)) (some (.ref a)) (some (.int oi)) (some (.int ci)) (some .none) (some (.ref c)) pw
      push_cast at this
      refine Eq.mpr (if_pos (c := isNone V.none = true) rfl) ?_
      exact this
    | some u =>
      simp only [optV]
      refine Eq.mpr (if_neg (c := isNone (V.int (u : Nat)) = true) (by simp [isNone])) ?_
      refine Eq.mpr (if_neg (c := isNone (V.ref c) = true) (by simp [isNone])) ?_
      obtain ⟨st', x', y', hap, hx', hy', qq⟩ := q1 u ks hu hks
      refine p4_ok pw (g _ _ hp) ha hb (g _ _ hk) (kidsM_ok hks) hc (fun h => r.isLive h hc0) ?_ (useLenN_ok hu) hap hx' hy' fun H2 fp2 pw2 => qq _ _ _ _ _ _ _ _ pw2
      intro hm
      simp at hm
      rcases hm with rfl | rfl | rfl | rfl
      · rw [hp] at hc0; cases hc0
      · have := p.w.ls; rw [hc0] at this; cases this
      · have := p.w.tr; rw [hc0] at this; cases this
      · have := p.w.nx; rw [hc0] at this; cases this
end Mine
namespace Mine
theorem del_ne {H : AH} {a b : Addr} (h : b ≠ a) : (H.del a) b = H b := by
  unfold AH.del; rw [if_neg h]
theorem p2_ok {ap ad ai at' an bb : Addr} {das : List Addr} {H : AH} {st : St} {bots : List (BKey × Nat)} {fp : List Addr} (p : PW ap ad ai at' an bb das H st bots fp)
    {cp maxd f : Nat} {b : Addr} {y : Dl} {ns' : List Nd} (hb : das[cp]? = some b) (hy : st.ds[cp]? = some y)
    (hm : (match findOp st.ds y (botsAt bots (keyOf y)) cp with
        | none => procM maxd f st (cp + 1) (botsPut bots (keyOf y) cp)
        | some op => match st.ds[op]? with
          | none => none
          | some x => match curM st.tree x, curM st.tree y with
            | some oi, some ci => match st.ns[oi]?, st.ns[ci]? with
              | some n1, some n2 => if oi < ci then match useLenN x y n1 n2, kidsM st.ns oi ci n1 n2 maxd with
                  | some u, some ks => match applyM st op cp oi ci u ks with
                    | none => none
                    | some st' => match st'.ds[op]?, st'.ds[cp]? with
                      | some x', some y' => if x'.co || y'.cc then procM maxd f st' (max op (botsAt bots (keyOf y))) bots else procM maxd f st' (cp + 1) bots
                      | _, _ => none
                  | _, _ => procM maxd f st (cp + 1) bots
                else none
              | _, _ => none
            | _, _ => none) = some ns')
    {K : Fl → Loc → AH → Prop} {v7 v8 v9 v10 v11 v12 v13 v14 v15 : Option V}
    (q : ∀ fl, (fl = .next ∨ fl = .cont) → ∀ H' cp' st' bots' fp' v6 v7 v8 v9 v10 v11 v12 v13 v14 v15, PW ap ad ai at' an bb das H' st' bots' fp' → procM maxd f st' cp' bots' = some ns' →
      K fl [some (.ref ap), some (.ref ad), some (.int maxd), some (.ref ai), some (.int (cp' : Nat)), some (.ref bb), v6, v7, v8, v9, v10, v11, v12, v13, v14, v15] H') :
    T_p2 [some (.ref ap), some (.ref ad), some (.int maxd), some (.ref ai), some (.int cp), some (.ref bb), some (.ref b), v7, v8, v9, v10, v11, v12, v13, v14, v15] H K := by
  have hby := p.w.dl.at hb hy
  have f3 : ((y.length : Int)).fmod 3 = ((y.length % 3 : Nat) : Int) := by rw [Int.fmod_eq_emod_of_nonneg _ (by omega)]; omega
  have hlt := (List.getElem?_eq_some_iff.mp hy).1
  have b2 := p.pb.dl
  have b3 := p.pb.at (keyOf y)
  simp [T_p2, hby, f3]
  intro c hc
  have hbc : bb ≠ c := ne_old hc p.b
  have g1 : Grow H (H.set c (.tup [.str y.marker, .int ((y.length % 3 : Nat) : Int), .bool y.co])) := .set hc
  have pw := p.grow g1
  have hk : isKey c (keyOf y) (H.set c (.tup [.str y.marker, .int ((y.length % 3 : Nat) : Int), .bool y.co])) := AH.set_self ..
  push_cast at g1 pw hk
  refine ⟨⟨_, pw.b⟩, qBG_ok pw.b hk ?_⟩
  have hdl := p.w.dl.length
  refine ⟨ad, b, cp, botsAt bots (keyOf y), y, das, st.ds, rfl, pw.w.ls, pw.w.dl, g1 _ _ hby, by omega, by omega, by omega, ?_, ?_⟩
  · intro hf
    rw [hf] at hm
    dsimp only at hm
    refine Eq.mpr (if_pos (c := isNone V.none = true) rfl) ?_
    refine storeB_ok pw.b hk pw.pb.room ?_
    have := q .cont (.inr rfl) (((H.set c (.tup [.str y.marker, .int ((y.length : Int) % 3), .bool y.co])).del c).set bb (.bots (botsV (botsPut bots (keyOf y) cp)))) (cp + 1) st (botsPut bots (keyOf y) cp) fp (some (.ref b)) (some (.ref c)) (some (.int (botsAt bots (keyOf y) : Nat))) (some .none) v10 v11 v12 v13 v14 v15 ⟨?_, AH.set_self .., p.pb.put hy⟩ hm
    · push_cast at this
      simpa using this
    · refine pw.w.grow fun b' o e n1 n2 => ?_
      have hb1 : b' ≠ bb := by rintro rfl; rw [pw.b] at e; cases e; exact n1 _ rfl
      have hb2 : b' ≠ c := by rintro rfl; rw [AH.set_self] at e; cases e; exact n2 _ rfl
      rw [AH.set_ne _ _ hb1, del_ne hb2]; exact e
  · intro k a hf hka t ht
    rw [hf] at hm
    dsimp only at hm
    refine Eq.mpr (if_neg (c := isNone (V.ref t) = true) (by simp [isNone])) ?_
    have hkl := findOp_lt hf
    split at hm
    · cases hm
    rename_i x hx
    split at hm
    · rename_i oi ci hoi hci
      split at hm
      · rename_i n1 n2 hn1 hn2
        split at hm
        · rename_i hoc
          have g2 := g1.trans (.set (o := .tup [.int (k : Nat), .ref a]) ht)
          refine p3_ok (pw.grow (.set ht)) (op := k) (cp := cp) (oi := oi) (ci := ci) (x := x) (y := y) hka hb (set_old ht hk) (AH.set_self ..) hx hy hoi hci hn1 hn2 hoc ?_ ?_
          · intro hno H' w10 w11 w12 w13 w14 w15 pw2
            refine q .cont (.inr rfl) _ _ _ _ _ _ _ _ _ _ _ _ _ _ _ pw2 ?_
            split at hm
            · rename_i u ks hu hks
              rcases hno with h | h
              · rw [h] at hu; cases hu
              · rw [h] at hks; cases hks
            · exact hm
          · intro u ks hu hks
            rw [hu, hks] at hm
            dsimp only at hm
            split at hm
            · cases hm
            rename_i st' hap
            split at hm
            · rename_i x' y' hx' hy'
              refine ⟨st', x', y', hap, hx', hy', fun H' fp' w10 w11 w12 w13 w14 w15 pw2 => ?_⟩
              refine q .next (.inl rfl) _ _ _ _ _ _ _ _ _ _ _ _ _ _ _ pw2 ?_
              split
              · rename_i h; rw [if_pos h] at hm; exact hm
              · rename_i h; rw [if_neg h] at hm; exact hm
            · cases hm
        · cases hm
      · cases hm
    · cases hm
end Mine
namespace Mine
theorem p1_ok {ap ad ai at' an bb : Addr} {das : List Addr} {H : AH} {st : St} {bots : List (BKey × Nat)} {fp : List Addr} (p : PW ap ad ai at' an bb das H st bots fp)
    {cp maxd f : Nat} {ns' : List Nd} (hlt : cp < st.ds.length) (hm : procM maxd (f + 1) st cp bots = some ns')
    {K : Fl → Loc → AH → Prop} {v6 v7 v8 v9 v10 v11 v12 v13 v14 v15 : Option V}
    (q : ∀ fl, (fl = .next ∨ fl = .cont) → ∀ H' cp' st' bots' fp' v6 v7 v8 v9 v10 v11 v12 v13 v14 v15, PW ap ad ai at' an bb das H' st' bots' fp' → procM maxd f st' cp' bots' = some ns' →
      K fl [some (.ref ap), some (.ref ad), some (.int maxd), some (.ref ai), some (.int (cp' : Nat)), some (.ref bb), v6, v7, v8, v9, v10, v11, v12, v13, v14, v15] H') :
    T_p1 [some (.ref ap), some (.ref ad), some (.int maxd), some (.ref ai), some (.int cp), some (.ref bb), v6, v7, v8, v9, v10, v11, v12, v13, v14, v15] H K := by
  have hy : st.ds[cp]? = some st.ds[cp] := by simp [hlt]
  generalize st.ds[cp] = y at hy
  obtain ⟨b, hb, hby⟩ := p.w.dl.get hy
  have hby' : H b = some (.inst cD (dF y)) := hby
  have b2 := p.pb.dl
  have e1 := getV_refs hb
  have bc : Bnd (cp : Int) := Bnd.of (by omega) (by omega)
  rw [procM, hy] at hm
  dsimp only at hm
  simp [T_p1, p.w.ls, e1, bc, hby']
  have skip : procM maxd f st (cp + 1) bots = some ns' → K .cont [some (.ref ap), some (.ref ad), some (.int maxd), some (.ref ai), some (.int ((cp : Int) + 1)), some (.ref bb), some (.ref b), v7, v8, v9, v10, v11, v12, v13, v14, v15] H := fun h => by
    have := q .cont (.inr rfl) H (cp + 1) st bots fp (some (.ref b)) v7 v8 v9 v10 v11 v12 v13 v14 v15 p h
    push_cast at this; exact this
  by_cases h1 : y.cc = true
  · by_cases h2 : y.length = 0
    · simp [h1, h2] at hm ⊢
      exact skip hm
    · simp [h1, h2]
      rw [if_neg (by simp [h1, h2])] at hm
      exact p2_ok p hb hy hm q
  · simp [h1] at hm ⊢
    exact skip hm
theorem W_process : WOk P_process 3 13 T_process := by
  rintro _ H Q ⟨ap, ad, pv, ns, ns', fp, das, ds, maxd, fuel, rfl, hne, hp, r, hnd, hapf, hadf, hls, hdl, hdn, htab, hm, hwt, hdsl, hix, q⟩
  refine ⟨rfl, ?_⟩
  have hpl := r.length
  have hnl := len_wtL ns
  have b62 : L62 pv.length := L62.of (by omega)
  have hdas := hdl.length
  rw [T_process_eq]
  simp [List.replicate, hp, b62]
  intro ai hai
  have aiad : ai ≠ ad := by rintro rfl; rw [hai] at hls; cases hls
  refine ⟨ai, ad, das.map .ref, pv.length, rfl, aiad, AH.set_self .., set_old hai hls, by omega, by simp; omega, ?_⟩
  intro H1 at' an hk hat han hne2 ht hn hi
  have hat0 : H at' = none := by
    cases e0 : H at' with
    | none => rfl
    | some o => rw [set_old hai e0] at hat; cases hat
  have han0 : H an = none := by
    cases e0 : H an with
    | none => rfl
    | some o => rw [set_old hai e0] at han; cases han
  have g1 : Grow H H1 := fun b o e => hk b o (ne_old hai e) (set_old hai e)
  refine ⟨trivial, ?_⟩
  intro bb hbb
  have g2 := g1.trans (.set (o := .bots []) hbb)
  have hlen : (das.map V.ref).length = ds.length := by simp; omega
  have w0 : Wld (H1.set bb (.bots [])) ap ad ai at' an das (start ns ds) fp := by
    have d1 : ∀ c, H c = none → c ∉ fp := fun c hc h => r.isLive h hc
    refine ⟨⟨pv, g2 _ _ hp, r.grow g2⟩, g2 _ _ hls, hdl.grow g2, set_old hbb hi, ?_, ?_, hnd, hdn, ?_, ?_, g2 _ _ htab⟩
    · rw [hpl] at ht; exact set_old hbb ht
    · rw [hlen] at hn; exact set_old hbb hn
    · have n1 := ne_old hat0 hp
      have n2 := ne_old han0 hp
      have n3 := ne_old hat0 hls
      have n4 := ne_old han0 hls
      simp [hne, n1, n2, n3, n4, hne2]
    · intro c hc
      simp at hc
      rcases hc with rfl | rfl | rfl | rfl
      · exact hapf
      · exact hadf
      · exact d1 _ hat0
      · exact d1 _ han0
  have pw0 : PW ap ad ai at' an bb das (H1.set bb (.bots [])) (start ns ds) [] fp := ⟨w0, AH.set_self .., .start hwt hdsl hix⟩
  refine ⟨fun m ρ H' => ∃ cp st bots fp' v6 v7 v8 v9 v10 v11 v12 v13 v14 v15, ρ = [some (.ref ap), some (.ref ad), some (.int maxd), some (.ref ai), some (.int (cp : Nat)), some (.ref bb), v6, v7, v8, v9, v10, v11, v12, v13, v14, v15] ∧ PW ap ad ai at' an bb das H' st bots fp' ∧ procM maxd m st cp bots = some ns', fuel,
    ⟨0, _, _, _, none, none, none, none, none, none, none, none, none, none, rfl, pw0, hm⟩, ?_⟩
  rintro m ρ H' ⟨cp, st, bots, fp', v6, v7, v8, v9, v10, v11, v12, v13, v14, v15, rfl, pw, hm⟩
  have b2 := pw.pb.dl
  have hdl2 := pw.w.dl.length
  have bd62 : L62 (das.map V.ref).length := by rw [List.length_map]; exact L62.of (by omega)
  refine ⟨_, rfl, _, rfl, _, .inl pw.w.ls, bd62, ?_⟩
  cases m with
  | zero => unfold procM at hm; cases hm
  | succ f =>
    by_cases hlt : cp < st.ds.length
    · refine Eq.mpr (if_pos (c := decide ((cp : Int) < ((das.map V.ref).length : Nat)) = true) (by simp; omega)) ?_
      refine p1_ok pw hlt hm ?_
      rintro fl hfl H2 cp2 st2 bots2 fp2 w6 w7 w8 w9 w10 w11 w12 w13 w14 w15 pw2 hm2
      have : ∃ m, m < f + 1 ∧ ∃ cp st bots fp' v6 v7 v8 v9 v10 v11 v12 v13 v14 v15, [some (V.ref ap), some (.ref ad), some (.int maxd), some (.ref ai), some (.int (cp2 : Nat)), some (.ref bb), w6, w7, w8, w9, w10, w11, w12, w13, w14, w15] = [some (V.ref ap), some (.ref ad), some (.int maxd), some (.ref ai), some (.int (cp : Nat)), some (.ref bb), v6, v7, v8, v9, v10, v11, v12, v13, v14, v15] ∧ PW ap ad ai at' an bb das H2 st bots fp' ∧ procM maxd m st cp bots = some ns' :=
        ⟨f, Nat.lt_succ_self _, cp2, st2, bots2, fp2, _, _, _, _, _, _, _, _, _, _, rfl, pw2, hm2⟩
      rcases hfl with rfl | rfl
      · exact this
      · exact this
    · refine Eq.mpr (if_neg (c := decide ((cp : Int) < ((das.map V.ref).length : Nat)) = true) (by simp; omega)) ?_
      rw [procM, List.getElem?_eq_none (by omega)] at hm
      cases hm
      obtain ⟨pv2, hp2, r2⟩ := pw.w.parts
      exact q _ _ _ hp2 r2
end Mine
namespace Mine
@[simp] theorem s_tForE {T : TE} {i j : Nat} {B : TS} {ρ : Loc} {H : AH} {Q : Fl → Loc → AH → Prop} : tForE T i j B ρ H Q = T ρ H fun v H1 => match v with | .ref l => qForE i j B ρ Q l H1 | _ => False := rfl
def T_d3 : TS := (tSeq (tIfS (tTest (tVar 5)) (tSeq (tSet 10 (tAttr cD (Str.ofString "index") (tBin pItem (tVar 1) (tBin pSubI (tBin pMulL (tVar 5) (tK (.int 2))) (tK (.int 1)))))) (tSeq (tSetSlice (tBin pAddL (tVar 6) (tSlice (tVar 0) (some (tBin pAddI (tVar 10) (tK (.int 1)))) none)) (tVar 0) none none) tNil)) tNil) (tSeq (tRet (tK (.bool true))) tNil))
def T_d2b : TS := (tSeq (tSet 8 (tBin pItem (tVar 1) (tBin pMulL (tVar 7) (tK (.int 2))))) (tSeq (tSet 9 (tBin pItem (tVar 1) (tBin pAddI (tBin pMulL (tVar 7) (tK (.int 2))) (tK (.int 1))))) (tSeq (tIfS (tOrB [(tNotB (tTest (tAttr cD (Str.ofString "can_open") (tVar 8)))), (tNotB (tTest (tAttr cD (Str.ofString "can_close") (tVar 9)))), (tNotB (tTest (tCall P_can_match [(tVar 8), (tVar 9)]))), (tNotB (tTest (tCall P_has_content [(tVar 0), (tBin pAddI (tAttr cD (Str.ofString "index") (tVar 8)) (tK (.int 1))), (tAttr cD (Str.ofString "index") (tVar 9))])))]) (tSeq (tRet (tK (.bool false))) tNil) tNil) (tSeq (tIfS (tTest (tVar 7)) (tSeq (tExpr (tMeth1 isL pAppend (tVar 6) (tBin pItem (tVar 0) (tBin pSubI (tAttr cD (Str.ofString "index") (tVar 8)) (tK (.int 1)))))) tNil) tNil) (tSeq (tExpr (tMeth1 isL pAppend (tVar 6) (tDict2 (Str.ofString "type") (tK (.str (Str.ofString "emphasis"))) (Str.ofString "children") (tList [(tBin pItem (tVar 0) (tBin pAddI (tAttr cD (Str.ofString "index") (tVar 8)) (tK (.int 1))))])))) tNil)))))
def T_d2 : TS := (tSeq (tSet 5 (tBin pDivI (tCall pLen [(tVar 1)]) (tK (.int 2)))) (tSeq (tSet 6 (tList [])) (tSeq (tForR (tVar 5) 7 T_d2b) T_d3)))
def T_d1b : TS := (tSeq (tIfS (tOrB [(tCmp pNeS (tAttr cD (Str.ofString "marker") (tVar 4)) (tVar 2)), (tCmp pNeI (tAttr cD (Str.ofString "length") (tVar 4)) (tK (.int 1))), (tCmp pNeI (tAttr cD (Str.ofString "index") (tVar 4)) (tBin pMulL (tVar 3) (tK (.int 2)))), (tCmp pNeS (tBin pItem (tBin pItem (tVar 0) (tAttr cD (Str.ofString "index") (tVar 4))) (tK (.str (Str.ofString "type")))) (tK (.str (Str.ofString "text")))), (tCmp pNeS (tBin pItem (tBin pItem (tVar 0) (tBin pAddI (tAttr cD (Str.ofString "index") (tVar 4)) (tK (.int 1)))) (tK (.str (Str.ofString "type")))) (tK (.str (Str.ofString "text"))))]) (tSeq (tRet (tK (.bool false))) tNil) tNil) tNil)
theorem T_dense_eq : T_dense = (tSeq (tIfS (tCmp pLt (tCall pLen [(tVar 1)]) (tK (.int 4))) (tSeq (tRet (tK (.bool false))) tNil) tNil) (tSeq (tSet 2 (tAttr cD (Str.ofString "marker") (tBin pItem (tVar 1) (tK (.int 0))))) (tSeq (tIfS (tOrB [(tCmp pNotInT (tVar 2) (tTuple [(tK (.str (Str.ofString "*"))), (tK (.str (Str.ofString "_")))])), (tCmp pNeI (tCall pLen [(tVar 0)]) (tBin pMulL (tCall pLen [(tVar 1)]) (tK (.int 2))))]) (tSeq (tRet (tK (.bool false))) tNil) tNil) (tSeq (tForE (tVar 1) 3 4 T_d1b) T_d2)))) := rfl

theorem denseOk_step {ns : List Nd} {m : Str} {k : Nat} {ds : List Dl} {x : Dl} (h : ds[k]? = some x) : denseOk ns m k (ds.drop k) = (x.marker == m && decide (x.length = 1) && decide (x.index = 2 * k) && (match ns[2 * k]?, ns[2 * k + 1]? with | some a, some b => a.isText && b.isText | _, _ => false) && denseOk ns m (k + 1) (ds.drop (k + 1))) := by
  rw [drop_at h, denseOk]; try rfl
theorem denseOk_get {ns : List Nd} {m : Str} : ∀ {ds : List Dl} {i : Nat}, denseOk ns m i ds = true → ∀ {k : Nat} {x}, ds[k]? = some x → x.marker = m ∧ x.index = 2 * (i + k)
  | [], i, _, k, x, h => by simp at h
  | y :: r, i, hd, 0, x, h => by
    simp at h; subst h
    unfold denseOk at hd
    simp only [Bool.and_eq_true, decide_eq_true_eq, beq_iff_eq] at hd
    exact ⟨hd.1.1.1.1, hd.1.1.2⟩
  | y :: r, i, hd, k + 1, x, h => by
    unfold denseOk at hd
    simp only [Bool.and_eq_true] at hd
    have := denseOk_get hd.2 (k := k) (by simpa using h)
    exact ⟨this.1, by rw [this.2]; omega⟩
theorem emph_rep {H : AH} {r c1 c2 : Addr} {out done fpo} {v : V} {n : Nd} {g : List Addr} (rep : RepL H out done fpo) (hr : H r ≠ none) (rf : r ∉ fpo) (rn : RepN H v n g) (rg : r ∉ g) (h1 : H c1 = none) (h2 : (H.set c1 (.list [v])) c2 = none) :
    RepL (((H.set c1 (.list [v])).set c2 (.dict (shF (.node (Str.ofString "emphasis") c1)))).set r (.list (out ++ [.ref c2]))) (out ++ [.ref c2]) (done ++ [.node (Str.ofString "emphasis") [n]]) (fpo ++ (c2 :: c1 :: g)) ∧ r ∉ fpo ++ (c2 :: c1 :: g) := by
  have n1 : r ≠ c1 := by rintro rfl; exact hr h1
  have n2 : r ≠ c2 := by rintro rfl; rw [AH.set_ne _ _ n1] at h2; exact hr h2
  have n3 : c1 ≠ c2 := by rintro rfl; rw [AH.set_self] at h2; cases h2
  have hn : r ∉ fpo ++ (c2 :: c1 :: g) := by simp [rf, n2, n1, rg]
  have r1 : RepL ((H.set c1 (.list [v])).set c2 (.dict (shF (.node (Str.ofString "emphasis") c1)))) [v] [n] g := ((RepL.one rn).new _ h1).new _ h2
  refine ⟨(((rep.new _ h1).new _ h2).append (RepL.one (.node (AH.set_self ..) (by decide) ?_ r1))).put _ hn, hn⟩
  rw [AH.set_ne _ _ n3, AH.set_self]
theorem densePairs_step {ns : List Nd} {ds : List Dl} {p n : Nat} : densePairs ns ds p (n + 1) = match densePair ns ds p, densePairs ns ds (p + 1) n with
  | some a, some b => some (a ++ b)
  | _, _ => none := rfl

/-- the state of the pairs -/
structure DJ (H : AH) (fp : List Addr) (ns : List Nd) (ds : List Dl) (pc p : Nat) (H' : AH) (r : Addr) (out : List V) (done : List Nd) (fpo : List Addr) : Prop where
  g : Grow H H'
  r0 : H r = none
  hr : H' r = some (.list out)
  rep : RepL H' out done fpo
  rf : r ∉ fpo
  eq : (densePairs ns ds p (pc - p)).map (done ++ ·) = densePairs ns ds 0 pc
  ln : out.length ≤ 2 * p
  sub : ∀ c ∈ fpo, c ∈ fp ∨ H c = Option.none
theorem DJ.none {H : AH} {fp : List Addr} {ns : List Nd} {ds : List Dl} {pc p : Nat} {H' : AH} {r : Addr} {out : List V} {done : List Nd} {fpo : List Addr} (j : DJ H fp ns ds pc p H' r out done fpo) (hp : p < pc) (h : densePair ns ds p = none) : densePairs ns ds 0 pc = none := by
  rw [← j.eq, show pc - p = (pc - (p + 1)) + 1 by omega, densePairs_step, h]; rfl
theorem DJ.next {H : AH} {fp : List Addr} {ns : List Nd} {ds : List Dl} {pc p : Nat} {H' : AH} {r : Addr} {out : List V} {done : List Nd} {fpo : List Addr} (j : DJ H fp ns ds pc p H' r out done fpo) (hp : p < pc) {a : List Nd} (h : densePair ns ds p = some a) : (densePairs ns ds (p + 1) (pc - (p + 1))).map ((done ++ a) ++ ·) = densePairs ns ds 0 pc := by
  rw [← j.eq, show pc - p = (pc - (p + 1)) + 1 by omega, densePairs_step, h]
  cases densePairs ns ds (p + 1) (pc - (p + 1)) with
  | none => rfl
  | some b => simp

theorem has_content_ok {H : AH} {ap : Addr} {pv : List V} {ns : List Nd} {fp : List Addr} {i j : Nat} {Q : V → AH → Prop} (hp : H ap = some (.list pv)) (r : RepL H pv ns fp) (hl : ns.length ≤ 100000) (hi : i + 1 ≤ ns.length) (hj : j ≤ ns.length) (q : ∀ H', Grow H H' → Q (.bool (((ns.drop (i + 1)).take (j - (i + 1))).any Nd.content)) H') : P_has_content [.ref ap, .int ((i : Int) + 1), .int (j : Nat)] H Q := by
  obtain ⟨ss, ht, hs⟩ := r.toks
  have h1 := r.length
  have h2 := hs.length
  refine ⟨ap, pv, ss, _, _, rfl, hp, ht, by omega, fun H' g => ?_⟩
  have e : ((i : Int) + 1) = ((i + 1 : Nat) : Int) := by push_cast; rfl
  rw [e, sliceV_mid (by omega) (by omega), ((hs.drop _).take _).any]
  exact q H' g
theorem can_match_ok {H : AH} {a b : Addr} {x y : Dl} {Q : V → AH → Prop} (ha : isDl H a x) (hb : isDl H b y) (q : Q (.bool (canMatch x y)) H) : P_can_match [.ref a, .ref b] H Q := ⟨a, b, x, y, rfl, ha, hb, q⟩
theorem d2b_ok {H H' : AH} {ap ad r : Addr} {pv : List V} {ns : List Nd} {fp das : List Addr} {ds : List Dl} {pc p : Nat} {out : List V} {done : List Nd} {fpo : List Addr} (hp : H ap = some (.list pv)) (rp : RepL H pv ns fp) (hls : H ad = some (.list (das.map .ref))) (hdl : Dls H das ds)
    (hns : ns.length = ds.length * 2) (hdsl : ds.length ≤ 10000) {m : Str} (hok : denseOk ns m 0 ds = true) (hpc : pc = ds.length / 2) (hlt : p < pc) (j : DJ H fp ns ds pc p H' r out done fpo) {v2 v3 v4 v5 v8 v9 v10 : Option V} {K : Fl → Loc → AH → Prop}
    (q0 : densePairs ns ds 0 pc = none → ∀ H2 ρ, Grow H H2 → K (.ret (.bool false)) ρ H2)
    (q1 : ∀ H2 out done fpo v8 v9, DJ H fp ns ds pc (p + 1) H2 r out done fpo → K .next [some (.ref ap), some (.ref ad), v2, v3, v4, v5, some (.ref r), some (.int p), v8, v9, v10] H2) :
    T_d2b [some (.ref ap), some (.ref ad), v2, v3, v4, v5, some (.ref r), some (.int p), v8, v9, v10] H' K := by
  have hdas := hdl.length
  have hx : ds[2 * p]? = some ds[2 * p] := List.getElem?_eq_getElem (by omega)
  have hy : ds[2 * p + 1]? = some ds[2 * p + 1] := List.getElem?_eq_getElem (by omega)
  generalize ds[2 * p] = x at hx
  generalize ds[2 * p + 1] = y at hy
  obtain ⟨a, ha, hax⟩ := hdl.get hx
  obtain ⟨b, hb, hby⟩ := hdl.get hy
  have hax0 : H a = some (.inst cD (dF x)) := hax
  have hby0 : H b = some (.inst cD (dF y)) := hby
  have hax' := j.g _ _ hax0
  have hby' := j.g _ _ hby0
  have hix := (denseOk_get hok hx).2
  have hiy := (denseOk_get hok hy).2
  have hpl := rp.length
  have hk : ns[x.index + 1]? = some ns[x.index + 1] := List.getElem?_eq_getElem (by omega)
  generalize ns[x.index + 1] = k at hk
  have ea : getV (das.map V.ref) ((p : Int) * 2) = some (.ref a) := by rw [show ((p : Int) * 2) = ((2 * p : Nat) : Int) by push_cast; omega]; exact getV_refs ha
  have eb : getV (das.map V.ref) ((p : Int) * 2 + 1) = some (.ref b) := by rw [show ((p : Int) * 2 + 1) = ((2 * p + 1 : Nat) : Int) by push_cast; omega]; exact getV_refs hb
  have b1 : Bnd ((p : Int) * 2) := Bnd.of (by omega) (by omega)
  have b2 : Bnd ((p : Int) * 2 + 1) := Bnd.of (by omega) (by omega)
  have b0 : Bnd 2 := Bnd.of (by omega) (by omega)
  have hpair : densePair ns ds p = if (x.co && y.cc && canMatch x y && ((ns.drop (x.index + 1)).take (y.index - (x.index + 1))).any Nd.content) = true then (if p = 0 then some [.node (Str.ofString "emphasis") [k]] else match ns[x.index - 1]? with | some b => some [b, .node (Str.ofString "emphasis") [k]] | none => none) else none := by
    unfold densePair
    rw [hx, hy]
    simp only [hk]
    try rfl
  have ls' := j.g _ _ hls
  simp [T_d2b, ls', ea, eb, b1, b2, b0, hax', hby']
  by_cases h1 : x.co = true
  · by_cases h2 : y.cc = true
    · simp [h1, h2]
      refine can_match_ok hax' hby' ?_
      by_cases h3 : canMatch x y = true
      · simp [h3, hax', hby']
        refine has_content_ok (i := x.index) (j := y.index) (ns := ns) (j.g _ _ hp) (rp.grow j.g) (by omega) (by omega) (by omega) fun H2 g2 => ?_
        have gg := j.g.trans g2
        cases h4 : ((ns.drop (x.index + 1)).take (y.index - (x.index + 1))).any Nd.content with
        | false =>
          simp
          exact q0 (j.none hlt (by rw [hpair, h4]; simp)) _ _ gg
        | true =>
          rw [h4] at hpair
          simp [h1, h2, h3] at hpair
          obtain ⟨v, hv⟩ : ∃ v, pv[x.index + 1]? = some v := ⟨_, List.getElem?_eq_getElem (by omega)⟩
          obtain ⟨k', gk, hk', rk, sk⟩ := rp.get hv
          rw [hk] at hk'; cases hk'
          have ev := getV_nat hv
          push_cast at ev
          have bx : Bnd ((x.index : Int) + 1) := Bnd.of (by omega) (by omega)
          have bx2 : Bnd ((x.index : Int) - 1) := Bnd.of (by omega) (by omega)
          have hr2 := g2 _ _ j.hr
          have hax2 := gg _ _ hax0
          have hp2 := gg _ _ hp
          have rep2 := j.rep.grow g2
          have rk2 := rk.frame (H' := H2) fun c hc => by
            rcases (RepL.one rk).live c hc with ⟨_, e⟩ | ⟨_, e⟩ <;> rw [e, gg _ _ e]
          have rgk : r ∉ gk := fun h => rk.isLive h j.r0
          have m1 : M24 out.length := M24.of (by have := j.ln; omega)
          have m2 : M24 (out.length + 1) := M24.of (by have := j.ln; omega)
          by_cases hp0 : p = 0
          · rw [if_pos hp0] at hpair
            simp [hp0, hax2, hp2, ev, bx, hr2]
            intro c1 hc1 c2 hc2
            have n1 : r ≠ c1 := ne_old hc1 hr2
            have n2 : r ≠ c2 := by rintro rfl; rw [AH.set_ne _ _ n1, hr2] at hc2; cases hc2
            obtain ⟨rn, rfn⟩ := emph_rep rep2 (by rw [hr2]; simp) j.rf rk2 rgk hc1 hc2
            simp [AH.set_ne _ _ n1, AH.set_ne _ _ n2, hr2, m1]
            have hsub : ∀ c ∈ fpo ++ (c2 :: c1 :: gk), c ∈ fp ∨ H c = Option.none := by
              intro c hc
              simp at hc
              rcases hc with hc | rfl | rfl | hc
              · exact j.sub c hc
              · exact .inr ((gg.trans (.set hc1)).none hc2)
              · exact .inr (gg.none hc1)
              · exact .inl (sk c hc)
            have := q1 _ _ _ _ (some (.ref a)) (some (.ref b)) ⟨?_, j.r0, AH.set_self .., rn, rfn, j.next hlt hpair, by have := j.ln; simp; omega, hsub⟩
            · subst hp0; exact this
            · intro c o e
              have e2 := gg _ _ e
              rw [AH.set_ne _ _ (ne_old j.r0 e)]
              exact set_old hc2 (set_old hc1 e2)
          · rw [if_neg hp0] at hpair
            obtain ⟨w, hw⟩ : ∃ w, pv[x.index - 1]? = some w := ⟨_, List.getElem?_eq_getElem (by omega)⟩
            obtain ⟨nb, gb, hnb, rb, sb⟩ := rp.get hw
            rw [hnb] at hpair
            dsimp only at hpair
            have ew := getV_nat hw
            rw [show ((x.index - 1 : Nat) : Int) = (x.index : Int) - 1 by omega] at ew
            have rgb : r ∉ gb := fun h => rb.isLive h j.r0
            have rb2 := rb.frame (H' := H2) fun c hc => by
              rcases (RepL.one rb).live c hc with ⟨_, e⟩ | ⟨_, e⟩ <;> rw [e, gg _ _ e]
            have hapr : ap ≠ r := ne_old j.r0 hp
            have har : a ≠ r := ne_old j.r0 hax0
            have rep3 : RepL (H2.set r (.list (out ++ [w]))) (out ++ [w]) (done ++ [nb]) (fpo ++ gb) := (rep2.append (RepL.one rb2)).put _ (by simp [j.rf, rgb])
            have rk3 : RepN (H2.set r (.list (out ++ [w]))) v k gk := rk2.frame fun c hc => AH.set_ne _ _ (by rintro rfl; exact rgk hc)
            simp [hp0, hax2, hp2, ev, bx, bx2, ew, hr2, m1, AH.set_ne _ _ hapr, AH.set_ne _ _ har]
            intro c1 hc1 c2 hc2
            have hr3 : (H2.set r (.list (out ++ [w]))) r = some (.list (out ++ [w])) := AH.set_self ..
            have n1 : r ≠ c1 := ne_old hc1 hr3
            have n2 : r ≠ c2 := by rintro rfl; rw [AH.set_ne _ _ n1, hr3] at hc2; cases hc2
            obtain ⟨rn, rfn⟩ := emph_rep rep3 (by rw [hr3]; simp) (by simp [j.rf, rgb]) rk3 rgk hc1 hc2
            simp [AH.set_ne _ _ n1, AH.set_ne _ _ n2, m2]
            have gr3 : Grow H (H2.set r (.list (out ++ [w]))) := fun c o e => by rw [AH.set_ne _ _ (ne_old j.r0 e)]; exact gg _ _ e
            have hsub : ∀ c ∈ (fpo ++ gb) ++ (c2 :: c1 :: gk), c ∈ fp ∨ H c = Option.none := by
              intro c hc
              simp only [List.mem_append, List.mem_cons] at hc
              rcases hc with (hc | hc) | rfl | rfl | hc
              · exact j.sub c hc
              · exact .inl (sb c hc)
              · exact .inr ((gr3.trans (.set hc1)).none hc2)
              · exact .inr (gr3.none hc1)
              · exact .inl (sk c hc)
            have := q1 _ _ _ _ (some (.ref a)) (some (.ref b)) ⟨?_, j.r0, AH.set_self .., rn, rfn, ?_, by have := j.ln; simp; omega, hsub⟩
            · simpa [shF] using this
            · intro c o e
              have e2 := gg _ _ e
              rw [AH.set_ne _ _ (ne_old j.r0 e)]
              exact set_old hc2 (set_old hc1 (by rw [AH.set_ne _ _ (ne_old j.r0 e)]; exact e2))
            · have := j.next hlt hpair
              simpa using this
      · simp [h3]
        exact q0 (j.none hlt (by rw [hpair]; simp [h3])) _ _ j.g
    · simp [h1, h2]
      exact q0 (j.none hlt (by rw [hpair]; simp [h2])) _ _ j.g
  · simp [h1]
    exact q0 (j.none hlt (by rw [hpair]; simp [h1])) _ _ j.g
end Mine
namespace Mine
theorem sliceV_from {α : Type} {xs : List α} {i : Nat} (hi : i ≤ xs.length) : sliceV xs (some (i : Int)) none = xs.drop i := by
  unfold sliceV
  simp only [Option.elim]
  rw [clip_in hi]
  exact List.take_of_length_le (by simp)
theorem put_all {α : Type} (xs ys : List α) : putSlice xs ys none none = ys := by
  unfold putSlice
  simp [Option.elim]
theorem d3_ok {H H' : AH} {ap ad r : Addr} {pv : List V} {ns : List Nd} {fp das : List Addr} {ds : List Dl} {pc : Nat} {out : List V} {done : List Nd} {fpo : List Addr} (hp : H ap = some (.list pv)) (rp : RepL H pv ns fp) (hapf : ap ∉ fp) (hls : H ad = some (.list (das.map .ref))) (hdl : Dls H das ds)
    (hns : ns.length = ds.length * 2) (hdsl : ds.length ≤ 10000) (h4 : 4 ≤ ds.length) {m : Str} (hok : denseOk ns m 0 ds = true) (hpc : pc = ds.length / 2) (j : DJ H fp ns ds pc pc H' r out done fpo) (hne : ap ≠ ad) {v2 v3 v4 v7 v8 v9 v10 : Option V} {Q : V → AH → Prop}
    (q : densePairs ns ds 0 pc = some done → ∀ H2 pv' fp', H2 ap = some (.list pv') → RepL H2 pv' (done ++ ns.drop (4 * pc - 1)) fp' → Q (.bool true) H2) :
    T_d3 [some (.ref ap), some (.ref ad), v2, v3, v4, some (.int (pc : Nat)), some (.ref r), v7, v8, v9, v10] H' (retQ Q) := by
  have hdas := hdl.length
  have hpl := rp.length
  have hpc0 : pc ≠ 0 := by omega
  have hy : ds[2 * pc - 1]? = some ds[2 * pc - 1] := List.getElem?_eq_getElem (by omega)
  generalize ds[2 * pc - 1] = y at hy
  obtain ⟨b, hb, hby⟩ := hdl.get hy
  have hby0 : H b = some (.inst cD (dF y)) := hby
  have hby' := j.g _ _ hby0
  have hiy := (denseOk_get hok hy).2
  have ls' := j.g _ _ hls
  have hp' := j.g _ _ hp
  have eb : getV (das.map V.ref) ((pc : Int) * 2 - 1) = some (.ref b) := by rw [show ((pc : Int) * 2 - 1) = ((2 * pc - 1 : Nat) : Int) by omega]; exact getV_refs hb
  have b1 : Bnd ((pc : Int) * 2 - 1) := Bnd.of (by omega) (by omega)
  have b0 : Bnd 2 := Bnd.of (by omega) (by omega)
  have l1 : L24 pv.length := L24.of (by omega)
  have hln := j.ln
  have hidx : y.index + 1 = 4 * pc - 1 := by omega
  have es : sliceV pv (some ((y.index : Int) + 1)) none = pv.drop (4 * pc - 1) := by
    rw [show ((y.index : Int) + 1) = ((4 * pc - 1 : Nat) : Int) by omega]
    exact sliceV_from (by omega)
  have l2 : L24 (out.length + (pv.drop (4 * pc - 1)).length) := L24.of (by simp; omega)
  have l3 : L24 (pv.length + (out ++ pv.drop (4 * pc - 1)).length) := L24.of (by simp; omega)
  have hdone : densePairs ns ds 0 pc = some done := by
    rw [← j.eq, Nat.sub_self]; simp [densePairs]
  simp [T_d3, hpc0, ls', eb, b1, b0, hby', hp', l1, es]
  intro c1 hc1
  have hr1 := set_old (o := .list (pv.drop (4 * pc - 1))) hc1 j.hr
  have n1 : r ≠ c1 := ne_old hc1 j.hr
  simp [AH.set_ne _ _ n1, j.hr]
  refine ⟨by simpa using l2, fun c2 hc2 => ?_⟩
  have na1 : ap ≠ c1 := ne_old hc1 hp'
  have na2 : ap ≠ c2 := ne_old hc2 (set_old hc1 hp')
  simp [AH.set_ne _ _ na1, AH.set_ne _ _ na2, hp', na2, put_all]
  refine ⟨by simpa using l3, ?_⟩
  obtain ⟨f1, f2, ef, r1, r2⟩ := rp.split (4 * pc - 1)
  have hapo : ap ∉ fpo ++ f2 := by
    intro h
    rcases List.mem_append.mp h with h | h
    · rcases j.sub _ h with h | h
      · exact hapf h
      · rw [hp] at h; cases h
    · exact hapf (by rw [ef]; simp [h])
  refine q hdone _ _ _ (AH.set_self ..) ((RepL.new (RepL.new (j.rep.append (r2.grow j.g)) _ hc1) _ hc2).put _ hapo)
theorem d1b_ok {H : AH} {ap b : Addr} {pv : List V} {ns : List Nd} {fp : List Addr} {ds : List Dl} {k : Nat} {x : Dl} {m : Str} (hp : H ap = some (.list pv)) (rp : RepL H pv ns fp) (hbx : H b = some (.inst cD (dF x))) (hx : ds[k]? = some x) (hk : k < ds.length)
    (hns : ns.length = ds.length * 2) (hdsl : ds.length ≤ 10000) {v1 v5 v6 v7 v8 v9 v10 : Option V} {K : Fl → Loc → AH → Prop} (q0 : denseOk ns m k (ds.drop k) = false → ∀ ρ, K (.ret (.bool false)) ρ H)
    (q1 : denseOk ns m k (ds.drop k) = denseOk ns m (k + 1) (ds.drop (k + 1)) → K .next [some (.ref ap), v1, some (.str m), some (.int (k : Nat)), some (.ref b), v5, v6, v7, v8, v9, v10] H) :
    T_d1b [some (.ref ap), v1, some (.str m), some (.int (k : Nat)), some (.ref b), v5, v6, v7, v8, v9, v10] H K := by
  rw [denseOk_step hx] at q0 q1
  obtain ⟨ss, ht, hs⟩ := rp.toks
  have hpl := rp.length
  have h1 : ns[2 * k]? = some ns[2 * k] := List.getElem?_eq_getElem (by omega)
  have h2 : ns[2 * k + 1]? = some ns[2 * k + 1] := List.getElem?_eq_getElem (by omega)
  generalize ns[2 * k] = n1 at h1
  generalize ns[2 * k + 1] = n2 at h2
  obtain ⟨s1, hs1, k1⟩ := hs.get h1
  obtain ⟨s2, hs2, k2⟩ := hs.get h2
  obtain ⟨t1, ht1, ta1⟩ := ht.get hs1
  obtain ⟨t2, ht2, ta2⟩ := ht.get hs2
  have e1 := getV_nat ht1
  have e2 := getV_nat ht2
  rw [h1, h2] at q0 q1
  dsimp only at q0 q1
  have b0 : Bnd 2 := Bnd.of (by omega) (by omega)
  have ty1 := Sh.ty_text ta1.2
  have ty2 := Sh.ty_text ta2.2
  have hne1 : (s1.ty = Str.ofString "text") ↔ n1.isText = true := by rw [← k1.isText, ← ty1]; simp
  have hne2 : (s2.ty = Str.ofString "text") ↔ n2.isText = true := by rw [← k2.isText, ← ty2]; simp
  simp [T_d1b, hbx, b0]
  by_cases c1 : x.marker = m
  · by_cases c2 : x.length = 1
    · by_cases c3 : x.index = 2 * k
      · have c3' : (x.index : Int) = (k : Int) * 2 := by omega
        have c2' : (x.length : Int) = 1 := by omega
        have bi : Bnd (x.index : Int) := Bnd.of (by omega) (by omega)
        have bi1 : Bnd ((x.index : Int) + 1) := Bnd.of (by omega) (by omega)
        have e1' : getV pv (x.index : Int) = some (.ref t1) := by rw [c3]; exact e1
        have e2' : getV pv ((x.index : Int) + 1) = some (.ref t2) := by rw [c3]; have := e2; push_cast at this ⊢; exact this
        rw [← c3']
        simp [c1, c2', bi, bi1, hp, e1', e2', ta1.1, ta2.1, hne1, hne2]
        by_cases c4 : n1.isText = true
        · by_cases c5 : n2.isText = true
          · simp [c4, c5, c1, c2, c3] at q1
            simp [c4, c5, hbx, bi1, hp, e2', ta2.1, hne2]
            exact q1
          · simp [c4, c5] at q0
            simp [c4, c5, hbx, bi1, hp, e2', ta2.1, hne2]
            exact q0 _
        · simp [c4] at q0 ⊢
          exact q0 _
      · have c3' : ¬ (x.index : Int) = (k : Int) * 2 := by omega
        have c2' : (x.length : Int) = 1 := by omega
        simp [c1, c2', c3', c3] at q0 ⊢
        exact q0 _
    · have c2' : ¬ (x.length : Int) = 1 := by omega
      simp [c1, c2', c2] at q0 ⊢
      exact q0 _
  · simp [c1] at q0 ⊢
    exact q0 _

@[simp] theorem s_tForR {T : TE} {i : Nat} {B : TS} {ρ : Loc} {H : AH} {Q : Fl → Loc → AH → Prop} : tForR T i B ρ H Q = T ρ H fun v H1 => match v with
  | .int n => -(2 ^ 62) ≤ n ∧ n < 2 ^ 62 ∧ ∃ J : Nat → Loc → AH → Prop, J 0 ρ H1 ∧
      (∀ k ρ H, k < n.toNat → J k ρ H → B (ρ.set i (some (.int k))) H fun fl ρ2 H2 => match fl with
        | .next | .cont => J (k + 1) ρ2 H2
        | .brk => Q .next ρ2 H2
        | .ret v => Q (.ret v) ρ2 H2) ∧
      (∀ ρ H, J n.toNat ρ H → Q .next ρ H)
  | _ => False := rfl
theorem W_dense : WOk P_dense 2 9 T_dense := by
  rintro _ H Q ⟨ap, ad, pv, ns, fp, das, ds, rfl, hne, hp, rp, hnd, hapf, hls, hdl, hnl, hdsl, hix, hraw, q0, q1⟩
  refine ⟨rfl, ?_⟩
  have hdas := hdl.length
  have hpl := rp.length
  have b62 : L62 das.length := L62.of (by omega)
  have b62p : L62 pv.length := L62.of (by omega)
  have b0 : Bnd 2 := Bnd.of (by omega) (by omega)
  rw [T_dense_eq]
  simp [List.replicate, hls, b62]
  by_cases h4 : 4 ≤ ds.length
  · have h4' : ¬ ((das.length : Int) < 4) := by omega
    have hx : ds[0]? = some ds[0] := List.getElem?_eq_getElem (by omega)
    generalize ds[0] = x at hx
    obtain ⟨b, hb, hbx⟩ := hdl.get hx
    have hbx' : H b = some (.inst cD (dF x)) := hbx
    have eb : getV (das.map V.ref) 0 = some (.ref b) := getV_refs hb
    have hds : ∃ r, ds = x :: r := by cases ds with | nil => simp at h4 | cons y r => simp at hx; exact ⟨r, by rw [hx]⟩
    obtain ⟨rr, hrr⟩ := hds
    have hden : denseM ns ds = if 4 ≤ ds.length ∧ (x.marker = Str.ofString "*" ∨ x.marker = Str.ofString "_") ∧ ns.length = ds.length * 2 ∧ denseOk ns x.marker 0 ds = true then
      (densePairs ns ds 0 (ds.length / 2)).map (· ++ ns.drop (4 * (ds.length / 2) - 1)) else none := by
      rw [hrr]; rfl
    simp [h4', eb, hbx']
    intro c hc
    have g1 : Grow H (H.set c (.tup [.str (Str.ofString "*"), .str (Str.ofString "_")])) := .set hc
    refine ⟨[Str.ofString "*", Str.ofString "_"], rfl, ?_⟩
    by_cases hm : x.marker = Str.ofString "*" ∨ x.marker = Str.ofString "_"
    · rw [if_neg (by
        intro h
        rcases hm with h1 | h1
        · exact h _ (by simp) h1.symm
        · exact h _ (by simp) h1.symm)]
      simp [g1 _ _ hls, g1 _ _ hp, b62, b62p, b0]
      by_cases hns : ns.length = ds.length * 2
      · have hns' : (pv.length : Int) = (das.length : Int) * 2 := by omega
        simp [hns']
        have hdl1 := hdl.grow g1
        refine ⟨das.map .ref, .inl (g1 _ _ hls), fun k ρ' H' => H' = H.set c (.tup [.str (Str.ofString "*"), .str (Str.ofString "_")]) ∧ (∃ o3 o4, ρ' = [some (.ref ap), some (.ref ad), some (.str x.marker), o3, o4, none, none, none, none, none, none]) ∧ denseOk ns x.marker 0 ds = denseOk ns x.marker k (ds.drop k), ⟨rfl, ⟨_, _, rfl⟩, by simp⟩, ?_, ?_⟩
        · rintro k ρ' H' hk ⟨rfl, ⟨o3, o4, rfl⟩, he⟩
          refine ⟨.inl (g1 _ _ hls), ?_⟩
          have hk' : k < ds.length := by simp at hk; omega
          have hy : ds[k]? = some ds[k] := List.getElem?_eq_getElem hk'
          obtain ⟨b2, hb2, hbx2⟩ := hdl1.get hy
          have e2 : (das.map V.ref)[k]? = some (.ref b2) := by rw [List.getElem?_map, hb2]; rfl
          rw [e2]
          refine d1b_ok (ds := ds) (g1 _ _ hp) (rp.grow g1) hbx2 hy hk' hns hdsl (fun hf ρ => ?_) (fun hf => ?_)
          · rw [hf] at he
            exact q0 (by rw [hden, if_neg (fun h => by rw [he] at h; simp at h)]) _ g1
          · exact ⟨rfl, ⟨_, _, rfl⟩, he.trans hf⟩
        · rintro ρ' H' ⟨rfl, ⟨o3, o4, rfl⟩, he⟩
          refine ⟨.inl (g1 _ _ hls), ?_⟩
          have hok : denseOk ns x.marker 0 ds = true := by
            rw [he, List.drop_of_length_le (by simp; omega)]; rfl
          rw [if_pos ⟨h4, hm, hns, hok⟩] at hden
          have ed : ((das.length : Int)).fdiv 2 = ((ds.length / 2 : Nat) : Int) := by rw [Int.fdiv_eq_ediv_of_nonneg _ (by omega)]; omega
          generalize hpc : ds.length / 2 = pc at *
          simp [T_d2, g1 _ _ hls, b62, ed]
          intro r hr
          have hr0 := g1.none hr
          have g2 := g1.trans (.set (o := .list []) hr)
          refine ⟨by omega, fun p ρ' H' => ∃ out done fpo o7 o8 o9, ρ' = [some (.ref ap), some (.ref ad), some (.str x.marker), o3, o4, some (.int (pc : Nat)), some (.ref r), o7, o8, o9, none] ∧ DJ H fp ns ds pc p H' r out done fpo,
            ⟨[], [], [], none, none, none, rfl, g2, hr0, AH.set_self .., .nil, by simp, by simp, by simp, by simp⟩, ?_, ?_⟩
          · rintro p ρ' H' hlt ⟨out, done, fpo, o7, o8, o9, rfl, j⟩
            refine d2b_ok hp rp hls hdl hns hdsl hok hpc.symm (by omega) j (fun hn H2 ρ g => ?_) (fun H2 out done fpo v8 v9 j => ?_)
            · exact q0 (by rw [hden, hn]; rfl) _ g
            · exact ⟨_, _, _, _, _, _, rfl, j⟩
          · rintro ρ' H' ⟨out, done, fpo, o7, o8, o9, rfl, j⟩
            refine d3_ok hp rp hapf hls hdl hns hdsl h4 hok hpc.symm j hne fun hd H2 pv' fp' h1 h2 => ?_
            exact q1 _ (by rw [hden, hd]; rfl) H2 pv' fp' h1 h2
      · have hns' : ¬ (pv.length : Int) = (das.length : Int) * 2 := by omega
        simp [hns']
        exact q0 (by rw [hden, if_neg (fun h => hns h.2.2.1)]) _ g1
    · rw [if_pos (by
        intro y hy h1
        simp only [not_or] at hm
        simp at hy
        rcases hy with rfl | rfl
        · exact hm.1 h1.symm
        · exact hm.2 h1.symm)]
      exact q0 (by rw [hden, if_neg (fun h => hm h.2.1)]) _ g1
  · have h4' : ((das.length : Int) < 4) := by omega
    simp [h4']
    refine q0 ?_ H (.refl H)
    unfold denseM
    cases ds with
    | nil => rfl
    | cons x r =>
      dsimp only
      rw [if_neg (fun h => h4 h.1)]
end Mine
namespace Mine
def noC (x : Str) : Prop := ∀ c ∈ x.cps.toList, c ≠ 38
theorem amp_is : (Str.ofString "&") = (⟨#[38]⟩ : Str) := by decide
theorem noAmp_of {n : Nd} (h : noC n.raw) : noAmp n := by
  unfold noAmp Txt.endswith
  rw [amp_is]
  by_cases hl : 1 ≤ n.raw.length
  · have e : (⟨#[38]⟩ : Str).length = 1 := rfl
    rw [e]
    have hlt : n.raw.length - 1 < n.raw.cps.toList.length := by rw [← len_cps]; omega
    have hc := h _ (List.getElem_mem hlt)
    simp only [Bool.and_eq_false_iff]
    right
    have := drop_at (List.getElem?_eq_getElem hlt)
    rw [StrLaws.subAt_eq, this, e]
    simp
    exact hc
  · have e : (⟨#[38]⟩ : Str).length = 1 := rfl
    rw [e]
    have : ¬ (0 + 1 ≤ n.raw.length) := by omega
    simp [this]

theorem chars_sub {l : List Nat} {i k : Nat} {c : Nat} (h : c ∈ (strOf ((l.drop i).take k)).cps.toList) : c ∈ l := by
  simp [strOf] at h
  exact List.mem_of_mem_drop (List.mem_of_mem_take h)
theorem strOf_len (l : List Nat) : (strOf l).length = l.length := by simp [strOf, Str.length]
/-- what the cutting gives -/
structure SG (t : List Nat) (pos : Nat) (ns : List Nd) (ds : List Dl) : Prop where
  ch : ∀ n ∈ ns, ∀ c ∈ n.raw.cps.toList, c ∈ t
  wt : wtL ns ≤ 2 * pos
  ln : ns.length ≤ pos
  dn : ds.length ≤ pos
  ix : ∀ x ∈ ds, x.index < ns.length ∧ isMark x.marker
theorem SG.push {t : List Nat} {pos n : Nat} {ns : List Nd} {ds : List Dl} (g : SG t pos ns ds) (h0 : 0 < n) (h1 : pos + n ≤ t.length) : SG t (pos + n) (ns ++ [.text (strOf ((t.drop pos).take n))]) ds := by
  refine ⟨fun m hm c hc => ?_, ?_, ?_, ?_, fun x hx => ?_⟩
  · rcases List.mem_append.mp hm with h | h
    · exact g.ch m h c hc
    · simp at h; subst h; exact chars_sub hc
  · rw [wtL_append]
    simp only [wtL, wtN, strOf_len]
    have := g.wt
    simp; omega
  · have := g.ln; simp; omega
  · have := g.dn; omega
  · have := g.ix x hx; exact ⟨by simp; omega, this.2⟩
theorem SG.pushD {t : List Nat} {pos : Nat} {ns : List Nd} {ds : List Dl} (g : SG t pos ns ds) {y : Dl} (h1 : y.index < ns.length) (h2 : isMark y.marker) (h3 : ds.length + 1 ≤ pos) : SG t pos ns (ds ++ [y]) := by
  refine ⟨g.ch, g.wt, g.ln, by simp; omega, fun x hx => ?_⟩
  rcases List.mem_append.mp hx with h | h
  · exact g.ix x h
  · simp at h; subst h; exact ⟨h1, h2⟩
theorem splitM_good {src t : List Nat} {start : Nat} : ∀ (f pos : Nat) {ns ns' : List Nd} {ds ds' : List Dl}, pos ≤ t.length → SG t pos ns ds → splitM src start t f pos ns ds = some (ns', ds') → SG t t.length ns' ds'
  | 0, pos, ns, ns', ds, ds', _, _, h => by unfold splitM at h; cases h
  | f + 1, pos, ns, ns', ds, ds', hp, g, h => by
    unfold splitM at h
    split at h
    · cases h
      exact ⟨g.ch, by have := g.wt; omega, by have := g.ln; omega, by have := g.dn; omega, g.ix⟩
    · rename_i c hc
      split at h
      · rename_i hs
        have h1 := run_le t (fun x => !isSign x) pos hp
        have h2 := run_pos t (fun x => !isSign x) pos hc hs
        exact splitM_good f _ h1 (g.push h2 h1) h
      · rename_i hs
        have h1 := run_le t (fun x => x == c) pos hp
        have h2 := run_pos t (fun x => x == c) pos hc (by simp)
        have g2 := g.push h2 h1
        dsimp only at h
        split at h
        · refine splitM_good f _ h1 (g2.pushD ?_ ?_ ?_) h
          · simp
          · have : isSign c = true := by simpa using hs
            unfold isSign at this
            simp only [Bool.or_eq_true, beq_iff_eq] at this
            rcases this with rfl | rfl
            · exact .inl rfl
            · exact .inr rfl
          · have := g.dn; omega
        · exact splitM_good f _ h1 g2 h
def goodL (ns : List Nd) : Prop := ∀ n ∈ ns, noC n.raw
theorem goodL.node {ns : List Nd} (g : goodL ns) {i j u : Nat} {x y : Str} {ks : List Nd} (hi : ns[i]? = some (.text x)) (hj : ns[j]? = some (.text y)) : goodL (putNode ns i j u x y ks) := by
  intro n hn
  unfold putNode at hn
  simp only [List.mem_append, List.mem_cons] at hn
  rcases hn with (h | h | h | h | h) | h
  · exact g n (List.mem_of_mem_take h)
  · subst h
    intro c hc
    simp [Nd.raw, cutEnd] at hc
    exact g _ (List.mem_of_getElem? hi) c (by simpa [Nd.raw] using List.mem_of_mem_take hc)
  · subst h
    intro c hc
    have : (Str.ofString "").cps.toList = [] := by decide
    simp [Nd.raw, this] at hc
  · subst h
    intro c hc
    simp [Nd.raw, cutFront] at hc
    exact g _ (List.mem_of_getElem? hj) c (by simpa [Nd.raw] using List.mem_of_mem_drop hc)
  · simp at h
  · exact g n (List.mem_of_mem_drop h)
theorem procM_good {maxd : Nat} : ∀ (f : Nat) {st : St} {cp : Nat} {bots : List (BKey × Nat)} {ns' : List Nd}, goodL st.ns → procM maxd f st cp bots = some ns' → goodL ns' ∧ wtL ns' ≤ wtL st.ns
  | 0, st, cp, bots, ns', _, h => by unfold procM at h; cases h
  | f + 1, st, cp, bots, ns', g, h => by
    rw [procM] at h
    split at h
    · cases h; exact ⟨g, Nat.le_refl _⟩
    · split at h
      · exact procM_good f g h
      · split at h
        · exact procM_good f g h
        · split at h
          · cases h
          · split at h
            · split at h
              · split at h
                · split at h
                  · rename_i u ks hu hks
                    split at h
                    · cases h
                    · rename_i st' hap
                      have hks' := kidsM_ok hks
                      subst hks'
                      obtain ⟨x1, x2, ds1, n1, t1, ds2, n3, e1, e2, hoc, hop, hu1, hu2, hr, hc, rfl⟩ := applyM_split hap
                      have g2 := fun ks => g.node (u := u) e1 e2 (ks := ks)
                      have w2 := putNode_wt e1 e2 (by omega) hu1 hu2 (by rcases useLenN_ok hu with h | h <;> omega)
                      split at h
                      · split at h
                        · obtain ⟨a, b⟩ := procM_good f (g2 _) h
                          exact ⟨a, Nat.le_trans b w2⟩
                        · obtain ⟨a, b⟩ := procM_good f (g2 _) h
                          exact ⟨a, Nat.le_trans b w2⟩
                      · cases h
                  · exact procM_good f g h
                · cases h
              · cases h
            · cases h
end Mine
namespace Mine
theorem densePair_mem {ns : List Nd} {ds : List Dl} {p : Nat} {a : List Nd} (h : densePair ns ds p = some a) : a.length ≤ 2 ∧ ∀ n ∈ a, n ∈ ns ∨ n.raw = Str.ofString "" := by
  unfold densePair at h
  split at h
  · split at h
    · split at h
      · split at h
        · cases h; exact ⟨by simp, fun n hn => by simp at hn; subst hn; exact .inr rfl⟩
        · split at h
          · rename_i b hb
            cases h
            refine ⟨by simp, fun n hn => ?_⟩
            simp at hn
            rcases hn with rfl | rfl
            · exact .inl (List.mem_of_getElem? hb)
            · exact .inr rfl
          · cases h
      · cases h
    · cases h
  · cases h
theorem densePairs_mem {ns : List Nd} {ds : List Dl} : ∀ (k p : Nat) {a : List Nd}, densePairs ns ds p k = some a → a.length ≤ 2 * k ∧ ∀ n ∈ a, n ∈ ns ∨ n.raw = Str.ofString ""
  | 0, p, a, h => by unfold densePairs at h; cases h; simp
  | k + 1, p, a, h => by
    rw [densePairs_step] at h
    split at h
    · rename_i a1 b1 h1 h2
      cases h
      obtain ⟨l1, m1⟩ := densePair_mem h1
      obtain ⟨l2, m2⟩ := densePairs_mem k _ h2
      refine ⟨by simp; omega, fun n hn => ?_⟩
      rcases List.mem_append.mp hn with h | h
      · exact m1 n h
      · exact m2 n h
    · cases h
theorem denseM_mem {ns ns' : List Nd} {ds : List Dl} (h : denseM ns ds = some ns') : ns'.length ≤ ds.length + ns.length + 1 ∧ ∀ n ∈ ns', n ∈ ns ∨ n.raw = Str.ofString "" := by
  unfold denseM at h
  split at h
  · cases h
  · rename_i x r
    split at h
    · obtain ⟨a, ha, he⟩ := Option.map_eq_some_iff.mp h
      subst he
      obtain ⟨l, m⟩ := densePairs_mem _ _ ha
      refine ⟨by simp at l ⊢; omega, fun n hn => ?_⟩
      rcases List.mem_append.mp hn with h | h
      · exact m n h
      · exact .inl (List.mem_of_mem_drop h)
    · cases h
theorem sum_le {b : Nat} : ∀ {ns : List Nd}, (∀ n ∈ ns, n.raw.length ≤ b) → (ns.map fun n => n.raw.length).sum ≤ ns.length * b
  | [], _ => by simp
  | n :: r, h => by
    have h1 := sum_le (ns := r) fun m hm => h m (by simp [hm])
    have h2 := h n (by simp)
    simp only [List.map_cons, List.sum_cons, List.length_cons, Nat.succ_mul]
    omega
theorem raw_empty {x : Str} (h : x = Str.ofString "") : noC x ∧ x.length = 0 := by
  subst h
  refine ⟨?_, by decide⟩
  have : (Str.ofString "").cps.toList = [] := by decide
  intro c hc; rw [this] at hc; cases hc
theorem sum_wt : ∀ ns : List Nd, (ns.map fun n => n.raw.length).sum ≤ wtL ns
  | [] => by simp
  | n :: r => by have := sum_wt r; have := raw_wtN n; simp only [List.map_cons, List.sum_cons, wtL]; omega
@[simp] theorem s_tComp {T TE' : TE} {fr : List Nat} {C : TB} {ρ : Loc} {H : AH} {Q : V → AH → Prop} : tComp T fr C TE' ρ H Q = T ρ H fun v H1 => match v with
  | .ref l => qComp fr C TE' ρ (fun acc H2 => ∀ c, H2 c = none → Q (.ref c) (H2.set c (.list acc))) l H1
  | _ => False := rfl
def T_f2 : TS := (tSeq (tIfS (tTest (tCall P_dense [(tVar 3), (tVar 4)])) (tSeq (tRet (tCall P_merge [(tVar 3)])) tNil) tNil) (tSeq (tExpr (tCall P_process [(tVar 3), (tVar 4), (tVar 2)])) (tSeq (tRet (tCall P_merge [(tVar 3)])) tNil)))
def T_f1b : TS := (tSeq (tIfS (tAndB [(tCmp pEqS (tBin pItem (tVar 7) (tK (.str (Str.ofString "type")))) (tK (.str (Str.ofString "text")))), (tTest (tDictGet2 (tVar 7) (tK (.str (Str.ofString "_emphasis"))) (tK (.bool true))))]) (tSeq (tExpr (tCall P_split [(tVar 7), (tVar 5), (tVar 6), (tVar 3), (tVar 4)])) tNil) (tSeq tDeadS tNil)) (tSeq (tAug 6 pAddI (tCall P_srclen [(tVar 7)])) tNil))
theorem T_finalize_eq : T_finalize = (tSeq (tIfS (tCmp pGt (tCall pLen [(tVar 0)]) (tK (.int 1))) (tSeq tDeadS tNil) tNil) (tSeq (tIfS (tOrB [(tNotB (tTest (tVar 1))), (tNotB (tTest (tCall P_contains [(tVar 0)])))]) (tSeq (tRet (tComp (tVar 0) [] tTrueB (tCall P_clean [(tVar 0)]))) tNil) tNil) (tSeq (tSet 3 (tList [])) (tSeq (tSet 4 (tList [])) (tSeq (tSet 5 (tCall P_source [(tVar 0)])) (tSeq (tSet 6 (tK (.int 0))) (tSeq (tForL (tVar 0) 7 T_f1b) T_f2))))))) := rfl
/-- what follows the cutting -/
theorem f2_ok {H : AH} {ap ad : Addr} {pv : List V} {ns ns0 : List Nd} {ds : List Dl} {fp das : List Addr} {maxd fuel : Nat} (hne : ap ≠ ad) (hp : H ap = some (.list pv)) (r : RepL H pv ns0 fp) (hnd : fp.Nodup) (h1 : ap ∉ fp) (h2 : ad ∉ fp) (hls : H ad = some (.list (das.map .ref))) (hdl : Dls H das ds) (hdn : das.Nodup) (ht : tabOk H)
    {t : List Nat} (g : SG t t.length ns0 ds) (hl : t.length ≤ 100) (hc : ∀ c ∈ t, c ≠ 38)
    (hm : (match denseM ns0 ds with | some ns' => some (mergeM ns' []) | none => (procM maxd fuel (start ns0 ds) 0 []).map (mergeM · [])) = some ns)
    {Q : V → AH → Prop} (q : ∀ H' c pv fp, H' c = some (.list pv) → RepL H' pv ns fp → Q (.ref c) H') {v0 v1 v5 v6 v7 : Option V} :
    T_f2 [v0, v1, some (.int (maxd : Nat)), some (.ref ap), some (.ref ad), v5, v6, v7] H (retQ Q) := by
  have gw := g.wt
  have gl := g.ln
  have gd := g.dn
  have good : goodL ns0 := fun n hn c hc' => hc c (g.ch n hn c hc')
  have rw0 : ∀ n ∈ ns0, n.raw.length ≤ 200 := fun n hn => by have := mem_wtL hn; have := raw_wtN n; omega
  have hix : ∀ x ∈ ds, x.index ≤ 100 ∧ isMark x.marker := fun x hx => by have := g.ix x hx; exact ⟨by omega, this.2⟩
  have mrg : ∀ H' pv' ns' fp', H' ap = some (.list pv') → RepL H' pv' ns' fp' → goodL ns' → ns'.length ≤ 10000 → (ns'.map fun n => n.raw.length).sum ≤ 100000 → mergeM ns' [] = ns → P_merge [.ref ap] H' Q := fun H' pv' ns' fp' e1 e2 e3 e4 e5 e6 =>
    ⟨ap, pv', ns', fp', rfl, e1, e2, fun n hn => noAmp_of (e3 n hn), e4, e5, fun H2 c pv2 fp2 k1 k2 => q H2 c pv2 fp2 k1 (e6 ▸ k2)⟩
  simp [T_f2]
  refine ⟨ap, ad, pv, ns0, fp, das, ds, rfl, hne, hp, r, hnd, h1, hls, hdl, by omega, by omega, fun x hx => by have := (hix x hx).1; omega, fun n hn => by have := rw0 n hn; omega, ?_, ?_⟩
  · intro hd H' gr
    rw [hd] at hm
    obtain ⟨ns', hpr, rfl⟩ := Option.map_eq_some_iff.mp hm
    simp
    refine ⟨ap, ad, pv, ns0, ns', fp, das, ds, maxd, fuel, rfl, hne, gr _ _ hp, r.grow gr, hnd, h1, h2, gr _ _ hls, hdl.grow gr, hdn, gr _ _ ht, hpr, by omega, by omega, fun x hx => by have := hix x hx; exact ⟨by omega, this.2⟩, ?_⟩
    intro H2 pv' fp' k1 k2
    obtain ⟨g1, w1⟩ := procM_good fuel (st := start ns0 ds) good hpr
    have w1' : wtL ns' ≤ wtL ns0 := w1
    have := sum_wt ns'
    have := len_wtL ns'
    refine ⟨trivial, mrg H2 pv' ns' fp' k1 k2 g1 (by omega) (by omega) rfl⟩
  · intro ns' hd H' pv' fp' k1 k2
    rw [hd] at hm
    cases hm
    obtain ⟨dl, dm⟩ := denseM_mem hd
    simp
    have rwl : ∀ n ∈ ns', n.raw.length ≤ 200 := fun n hn => by
      rcases dm n hn with h | h
      · exact rw0 n h
      · rw [(raw_empty h).2]; omega
    have sl := sum_le rwl
    have : ns'.length * 200 ≤ 300 * 200 := Nat.mul_le_mul_right _ (by omega)
    refine mrg H' pv' ns' fp' k1 k2 (fun n hn => ?_) (by omega) (by omega) rfl
    rcases dm n hn with h | h
    · exact good n h
    · exact (raw_empty h).1
theorem W_finalize : WOk P_finalize 3 5 T_finalize := by
  rintro _ H Q ⟨l, a, x, maxd, fuel, ns, rfl, hl, hta, htab, hx, hc, hf, q⟩
  refine ⟨rfl, ?_⟩
  unfold finM at hf
  rw [T_finalize_eq]
  have hta1 := hta.1
  simp [List.replicate, hl]
  refine ⟨l, a, x, rfl, hl, hta, ?_⟩
  cases hs : hasSign x with
  | false =>
    rw [hs] at hf
    simp at hf
    subst hf
    simp
    refine ⟨[.ref a], .inl hl, by simp, fun k acc H' => H' = H ∧ acc = [V.ref a].take k, ⟨rfl, rfl⟩, ?_, ?_⟩
    · rintro k acc H' hk ⟨rfl, rfl⟩
      have : k = 0 := by simp at hk; omega
      subst this
      refine ⟨.inl hl, ?_⟩
      simp
      exact clean_of hta (by simp)
    · rintro acc H' ⟨rfl, rfl⟩
      refine ⟨.inl hl, fun c hc' => ?_⟩
      exact q _ c [.ref a] [a] (by simp [AH.set_self]) (RepL.one (.text (set_old hc' hta1)))
  | true =>
    rw [hs] at hf
    simp at hf
    simp
    intro ap hap ad had
    have hne : ap ≠ ad := by rintro rfl; rw [AH.set_self] at had; cases had
    have g1 : Grow H ((H.set ap (.list [])).set ad (.list [])) := (Grow.set hap).trans (.set had)
    have hap0 := hap
    have had0 : H ad = none := (Grow.set (o := .list []) hap).none had
    refine ⟨l, a, x, rfl, g1 _ _ hl, hta.grow g1, by omega, fun H2 g2 => ?_⟩
    have g3 := g1.trans g2
    cases hsp : splitM x.cps.toList 0 x.cps.toList (x.length + 1) 0 [] [] with
    | none => rw [hsp] at hf; cases hf
    | some pr =>
      obtain ⟨ns0, ds⟩ := pr
      rw [hsp] at hf
      dsimp only at hf
      have hap2 : H2 ap = some (.list []) := g2 _ _ (by rw [AH.set_ne _ _ hne, AH.set_self])
      have had2 : H2 ad = some (.list []) := g2 _ _ (AH.set_self ..)
      have hl2 := g3 _ _ hl
      have hta2 := hta.grow g3
      have htab2 : tabOk H2 := g3 _ _ htab
      have hlap : l ≠ ap := ne_old hap0 hl
      have hlad : l ≠ ad := ne_old had0 hl
      have haap : a ≠ ap := ne_old hap0 hta1
      have haad : a ≠ ad := ne_old had0 hta1
      have htap : pTD ≠ ap := ne_old hap0 htab
      have htad : pTD ≠ ad := ne_old had0 htab
      have hlc := len_cps x
      refine ⟨[.ref a], .inl hl2, fun k ρ' H' => (k = 0 ∧ H' = H2 ∧ ρ' = [some (.ref l), some (.bool true), some (.int (maxd : Nat)), some (.ref ap), some (.ref ad), some (.str x), some (.int 0), none]) ∨
        (k = 1 ∧ ∃ pv fp das v6 v7, ρ' = [some (.ref l), some (.bool true), some (.int (maxd : Nat)), some (.ref ap), some (.ref ad), some (.str x), v6, v7] ∧ H' ap = some (.list pv) ∧ RepL H' pv ns0 fp ∧ fp.Nodup ∧ ap ∉ fp ∧ ad ∉ fp ∧ H' ad = some (.list (das.map .ref)) ∧ Dls H' das ds ∧ das.Nodup ∧ tabOk H' ∧ H' l = some (.list [.ref a])), .inl ⟨rfl, rfl, rfl⟩, ?_, ?_⟩
      · rintro k ρ' H' hk (⟨rfl, rfl, rfl⟩ | ⟨rfl, _⟩)
        · refine ⟨.inl hl2, ?_⟩
          simp [T_f1b, hta2.1, Sh.ty]
          refine ⟨a, ap, ad, x, ns0, ds, rfl, hne, hta2, hap2, had2, by omega, hsp, ?_⟩
          intro H3 pv fp das k1 k2 k3 k4 k5 k6 k7 k8 kk
          have hta3 : tokAt H3 a (.text x) := ⟨kk _ _ haap haad hta2.1, hta2.2⟩
          simp
          refine ⟨a, x, rfl, hta3, by omega, ?_⟩
          simp
          exact ⟨pv, k1, fp, k2, k3, k4, k5, das, k6, k7, k8, kk _ _ htap htad htab2, kk _ _ hlap hlad hl2⟩
        · simp at hk
      · rintro ρ' H' (⟨h, _⟩ | ⟨_, pv, fp, das, v6, v7, rfl, k1, k2, k3, k4, k5, k6, k7, k8, k9, k10⟩)
        · simp at h
        · refine ⟨.inl k10, ?_⟩
          have sg := splitM_good (x.length + 1) 0 (Nat.zero_le _) (⟨by simp, by simp [wtL], by simp, by simp, by simp⟩ : SG x.cps.toList 0 [] []) hsp
          exact f2_ok hne k1 k2 k3 k4 k5 k6 k7 k8 k9 sg (by omega) hc hf q
end Mine
namespace Mine
/-! what the law makes of the answer -/
def markOf (ty : Str) : Str := if ty = Str.ofString "strong" then Str.ofString "**" else Str.ofString "*"
mutual
def flatN : Nd → Str
  | .text x => x
  | .node ty ks => markOf ty ++ flatL ks ++ markOf ty
def flatL : List Nd → Str
  | [] => Str.ofString ""
  | n :: r => flatN n ++ flatL r
end
mutual
def wholeN : Nd → Bool
  | .text _ => true
  | .node _ ks => wholeL ks && flatL ks != Str.ofString ""
def wholeL : List Nd → Bool
  | [] => true
  | n :: r => wholeN n && wholeL r
end
mutual
def tyN : Nd → Bool
  | .text _ => true
  | .node ty ks => (ty == Str.ofString "emphasis" || ty == Str.ofString "strong") && tyL ks
def tyL : List Nd → Bool
  | [] => true
  | n :: r => tyN n && tyL r
end
def P_back (k : Nat) : FnP := fun vs H Q => ∃ l vs' ns fp, vs = [.ref l] ∧ H l = some (.list vs') ∧ RepL H vs' ns fp ∧ tyL ns = true ∧ wtL ns ≤ 10000 ∧ depthL ns ≤ k ∧
  ∀ H' t, Grow H H' → H' t = some (.tup [.str (flatL ns), .int (depthL ns), .bool (wholeL ns)]) → Q (.ref t) H'
theorem str_app_empty (x : Str) : x ++ Str.ofString "" = x := by
  have : Str.ofString "" = (⟨#[]⟩ : Str) := by decide
  rw [this]
  cases x with
  | mk a => show (⟨a ++ #[]⟩ : Str) = _; simp
theorem str_empty_app (x : Str) : Str.ofString "" ++ x = x := by
  have : Str.ofString "" = (⟨#[]⟩ : Str) := by decide
  rw [this]
  cases x with
  | mk a => show (⟨#[] ++ a⟩ : Str) = _; simp
theorem str_assoc (x y z : Str) : x ++ y ++ z = x ++ (y ++ z) := by
  cases x; cases y; cases z
  show (⟨_ ++ _ ++ _⟩ : Str) = ⟨_ ++ (_ ++ _)⟩
  rw [Array.append_assoc]
theorem str_len_app (x y : Str) : (x ++ y).length = x.length + y.length := strLen_append x y
theorem flatL_append : ∀ a b, flatL (a ++ b) = flatL a ++ flatL b
  | [], b => by rw [List.nil_append, flatL, str_empty_app]
  | n :: r, b => by rw [List.cons_append, flatL, flatL, flatL_append r b, str_assoc]
theorem depthL_append : ∀ a b, depthL (a ++ b) = max (depthL a) (depthL b)
  | [], b => by simp [depthL]
  | n :: r, b => by simp only [List.cons_append, depthL, depthL_append r b]; omega
theorem wholeL_append : ∀ a b, wholeL (a ++ b) = (wholeL a && wholeL b)
  | [], b => by simp [wholeL]
  | n :: r, b => by simp only [List.cons_append, wholeL, wholeL_append r b, Bool.and_assoc]
theorem markOf_len (ty : Str) : (markOf ty).length ≤ 2 := by
  unfold markOf; split <;> decide
mutual
theorem flatN_len : ∀ n, (flatN n).length ≤ 4 * wtN n
  | .text x => by simp only [flatN, wtN]; omega
  | .node ty ks => by
    have := flatL_len ks; have := markOf_len ty
    simp only [flatN, wtN, str_len_app]; omega
theorem flatL_len : ∀ l, (flatL l).length ≤ 4 * wtL l
  | [] => by have : (Str.ofString "").length = 0 := by decide
             simp only [flatL, wtL, this]; omega
  | n :: r => by have := flatN_len n; have := flatL_len r; simp only [flatL, wtL, str_len_app]; omega
end
theorem wt_take (l : List Nd) (k : Nat) : wtL (l.take k) ≤ wtL l := by
  have := wtL_append (l.take k) (l.drop k)
  rw [List.take_append_drop] at this; omega
theorem depth_mem : ∀ {l : List Nd} {n}, n ∈ l → depthN n ≤ depthL l
  | [], n, h => by simp at h
  | m :: r, n, h => by
    rcases List.mem_cons.mp h with rfl | h
    · simp only [depthL]; omega
    · have := depth_mem h; simp only [depthL]; omega
theorem ty_mem : ∀ {l : List Nd} {n}, tyL l = true → n ∈ l → tyN n = true
  | [], n, _, h => by simp at h
  | m :: r, n, ht, h => by
    simp only [tyL, Bool.and_eq_true] at ht
    rcases List.mem_cons.mp h with rfl | h
    · exact ht.1
    · exact ty_mem ht.2 h
end Mine
namespace Mine
def nm_law_back : List Str := [Str.ofString "tokens", Str.ofString "out", Str.ofString "deepest", Str.ofString "whole", Str.ofString "token", Str.ofString "inner", Str.ofString "deep", Str.ofString "sound", Str.ofString "mark"]
def T_law_back (P : FnP) : TS := (tSeq (tSet 1 (tK (.str (Str.ofString "")))) (tSeq (tSet 2 (tK (.int 0))) (tSeq (tSet 3 (tK (.bool true))) (tSeq (tForL (tVar 0) 4 (tSeq (tIfS (tCmp pEqS (tBin pItem (tVar 4) (tK (.str (Str.ofString "type")))) (tK (.str (Str.ofString "text")))) (tSeq (tSet 1 (tBin pAddS (tVar 1) (tBin pItem (tVar 4) (tK (.str (Str.ofString "raw")))))) tNil) (tSeq (tUnpack [5, 6, 7] (tCall P [(tBin pItem (tVar 4) (tK (.str (Str.ofString "children"))))])) (tSeq (tSet 8 (tBin pItem (tDict2 (Str.ofString "emphasis") (tK (.str (Str.ofString "*"))) (Str.ofString "strong") (tK (.str (Str.ofString "**")))) (tBin pItem (tVar 4) (tK (.str (Str.ofString "type")))))) (tSeq (tSet 1 (tBin pAddS (tBin pAddS (tBin pAddS (tVar 1) (tVar 8)) (tVar 5)) (tVar 8))) (tSeq (tSet 2 (tCall pMax [(tVar 2), (tBin pAddI (tVar 6) (tK (.int 1)))])) (tSeq (tSet 3 (tAndE (tVar 3) [(tVar 7), (tCmpE pNeS (tVar 5) (tK (.str (Str.ofString ""))))])) tNil)))))) tNil)) (tSeq (tRet (tTuple [(tVar 1), (tVar 2), (tVar 3)])) tNil)))))
def strongV : List (Str × V) := [(Str.ofString "emphasis", .str (Str.ofString "*")), (Str.ofString "strong", .str (Str.ofString "**"))]
theorem mark_get {ty : Str} (h : (ty == Str.ofString "emphasis" || ty == Str.ofString "strong") = true) : pget [(Str.ofString "emphasis", V.str (Str.ofString "*")), (Str.ofString "strong", .str (Str.ofString "**"))] ty = some (.str (markOf ty)) := by
  simp only [Bool.or_eq_true, beq_iff_eq] at h
  rcases h with rfl | rfl
  · rw [pget_hit]; unfold markOf; rw [if_neg (by decide)]
  · rw [pget_miss _ _ (by decide), pget_hit]; unfold markOf; rw [if_pos rfl]
theorem W_back (k : Nat) (P : FnP) (hP : ∀ j, k = j + 1 → P = P_back j) : WOk (P_back k) 1 8 (T_law_back P) := by
  rintro _ H Q ⟨l, vs, ns, fp, rfl, hl, r, hty, hwt, hd, q⟩
  refine ⟨rfl, ?_⟩
  have hpl := r.length
  have hnl := len_wtL ns
  simp [T_law_back, List.replicate]
  refine ⟨vs, .inl hl, fun i ρ H' => Grow H H' ∧ ∃ o4 o5 o6 o7 o8, ρ = [some (.ref l), some (.str (flatL (ns.take i))), some (.int (depthL (ns.take i))), some (.bool (wholeL (ns.take i))), o4, o5, o6, o7, o8], ⟨.refl H, none, none, none, none, none, by simp [flatL, depthL, wholeL]⟩, ?_, ?_⟩
  · rintro i ρ H' hi ⟨g, o4, o5, o6, o7, o8, rfl⟩
    refine ⟨.inl (g _ _ hl), ?_⟩
    have hv : vs[i]? = some vs[i] := by simp [hi]
    generalize vs[i] = v at *
    obtain ⟨n, f, hn, rn, hsub⟩ := r.get hv
    have hmem := List.mem_of_getElem? hn
    have hty1 := ty_mem hty hmem
    have hw1 := mem_wtL hmem
    have hd1 := depth_mem hmem
    have e := take_at hn
    have f1 := flatL_len (ns.take i)
    have w1 := wt_take ns i
    have f2 : flatL (ns.take (i + 1)) = flatL (ns.take i) ++ flatN n := by rw [e, flatL_append, flatL, flatL, str_app_empty]
    have d2 : depthL (ns.take (i + 1)) = max (depthL (ns.take i)) (depthN n) := by rw [e, depthL_append]; simp [depthL]
    have h2 : wholeL (ns.take (i + 1)) = (wholeL (ns.take i) && wholeN n) := by rw [e, wholeL_append]; simp [wholeL]
    dsimp only
    rw [f2, d2, h2]
    cases rn with
    | text e1 =>
      rename_i a x
      have e1' := g _ _ e1
      simp only [wtN] at hw1
      have bx : L24 ((flatL (ns.take i)).length + x.length) := L24.of (by omega)
      simp [hv, e1', Sh.ty, bx, flatN, depthN, wholeN]
      exact g
    | node e1 e2 e3 rl =>
      rename_i a ty l' vs2 ns2 fp2
      have e1' := g _ _ e1
      simp only [wtN] at hw1
      simp only [tyN, Bool.and_eq_true] at hty1
      simp only [depthN] at hd1
      have hm := mark_get hty1.1
      have hml := markOf_len ty
      have f3 := flatL_len ns2
      have bl := L62.of (n := (flatL ns2).length) (by omega)
      obtain ⟨j, rfl⟩ : ∃ j, k = j + 1 := ⟨k - 1, by omega⟩
      have := hP j rfl
      subst this
      simp [hv, e1', Sh.ty, e2]
      refine ⟨l', vs2, ns2, fp2, rfl, g _ _ e3, rl.grow g, hty1.2, by omega, by omega, fun H2 t g2 ht => ?_⟩
      have e1'' := g2 _ _ e1'
      have b1 : L24 ((flatL (ns.take i)).length + (markOf ty).length) := L24.of (by omega)
      have b2 : L24 ((flatL (ns.take i) ++ markOf ty).length + (flatL ns2).length) := L24.of (by rw [str_len_app]; omega)
      have b3 : L24 ((flatL (ns.take i) ++ markOf ty ++ flatL ns2).length + (markOf ty).length) := L24.of (by rw [str_len_app, str_len_app]; omega)
      simp [ht, setAll]
      intro c hc
      simp [AH.set_self, set_old hc e1'', Sh.ty, hm, b1, b2, b3]
      have gg := (g.trans g2).trans (.set (o := .dict [(Str.ofString "emphasis", V.str (Str.ofString "*")), (Str.ofString "strong", V.str (Str.ofString "**"))]) hc)
      have k1 : flatL (ns.take i) ++ markOf ty ++ flatL ns2 ++ markOf ty = flatL (ns.take i) ++ flatN (.node ty ns2) := by simp only [flatN, str_assoc]
      have k2 : (max ((depthL (ns.take i) : Nat) : Int) (((depthL ns2 : Nat) : Int) + 1)) = ((max (depthL (ns.take i)) (depthN (.node ty ns2)) : Nat) : Int) := by simp only [depthN]; omega
      by_cases w1 : wholeL (ns.take i) = true
      · by_cases w2 : wholeL ns2 = true
        · simp only [w1, w2, if_true]
          exact ⟨gg, k1, k2, by simp [wholeN, w2]⟩
        · simp only [w1, w2, if_true]
          exact ⟨gg, k1, k2, by simp [wholeN, w2]⟩
      · simp only [w1]
        exact ⟨gg, k1, k2, fun h => (by simp at h)⟩
  · rintro ρ H' ⟨g, o4, o5, o6, o7, o8, rfl⟩
    refine ⟨.inl (g _ _ hl), ?_⟩
    rw [List.take_of_length_le (by omega)]
    simp
    intro c hc
    exact q _ c (g.trans (.set hc)) (AH.set_self ..)
end Mine
namespace Mine
def lawSigns : Str := Str.ofString "ab .****"
def nm_law : List Str := [Str.ofString "script", Str.ofString "line", Str.ofString "most", Str.ofString "out", Str.ofString "deepest", Str.ofString "whole"]
def T_law : TS := (tSeq (tSet 1 (tMeth1 isS pJoin (tK (.str (Str.ofString ""))) (tComp (tOrE (tSlice (tVar 0) none (some (tK (.int 26)))) [(tList [(tK (.int 4)), (tK (.int 0)), (tK (.int 4))])]) [] tTrueB (tBin pItem (tK (.str lawSigns)) (tBin pModI (tVar 0) (tK (.int 8))))))) (tSeq (tSet 2 (tBin pAddI (tK (.int 1)) (tBin pModI (tCall pLen [(tVar 0)]) (tK (.int 4))))) (tSeq (tUnpack [3, 4, 5] (tCall (P_back 4) [(tCall P_finalize [(tList [(tDict2 (Str.ofString "type") (tK (.str (Str.ofString "text"))) (Str.ofString "raw") (tVar 1))]), (tK (.bool true)), (tVar 2)])])) (tSeq (tRet (tAndE (tCmpE pEqS (tVar 3) (tVar 1)) [(tCmpE pLe (tVar 4) (tVar 2)), (tVar 5)])) tNil))))
def signL : List Nat := [97, 98, 32, 46, 42, 42, 42, 42]
theorem signs_is : lawSigns.cps.toList = signL := by decide
def signAt (n : Int) : Nat := signL[(n.fmod 8).toNat]?.getD 42
def scriptOf (ns : List Int) : List Int := if ns.take 26 = [] then [4, 0, 4] else ns.take 26
def lineOf (ns : List Int) : List Nat := (scriptOf ns).map signAt
theorem sign_get (n : Int) : getV lawSigns.cps.toList (n.fmod 8) = some (signAt n) := by
  have h1 : 0 ≤ n.fmod 8 := Int.fmod_nonneg_of_pos _ (by omega)
  have h2 : n.fmod 8 < 8 := Int.fmod_lt_of_pos _ (by omega)
  unfold getV signAt
  rw [if_pos h1, signs_is]
  have : (n.fmod 8).toNat < signL.length := by show _ < 8; omega
  rw [List.getElem?_eq_getElem this]; rfl
theorem strOf_append (a b : List Nat) : strOf a ++ strOf b = strOf (a ++ b) := by
  show (⟨_ ++ _⟩ : Str) = _
  simp [strOf]
theorem strOf_nil : strOf [] = Str.ofString "" := by decide
theorem join_chars : ∀ l : List Nat, Str.join (Str.ofString "") (l.map chS) = strOf l
  | [] => by rw [strOf_nil]; rfl
  | [x] => rfl
  | x :: y :: r => by
    have ih := join_chars (y :: r)
    show chS x ++ Str.ofString "" ++ Str.join (Str.ofString "") ((y :: r).map chS) = _
    rw [ih, str_app_empty]
    exact strOf_append [x] (y :: r)
/-- what the plain law is to tell -/
def Plain03 : Prop := ∀ (l : List Nat) (most : Nat), (∀ c ∈ l, c ∈ signL) → l.length ≤ 26 → 0 < most → ∃ fuel ns, finM (strOf l) most fuel = some ns ∧ flatL ns = strOf l ∧ depthL ns ≤ most ∧ wholeL ns = true ∧ tyL ns = true ∧ wtL ns ≤ 10000
def P_law : FnP := fun vs H Q => ∃ (s : Addr) (ns : List Int), vs = [.ref s] ∧ H s = some (.ro (ns.map .int)) ∧ ns.length ≤ 63 ∧ tabOk H ∧ ∀ H', Q (.bool true) H'
theorem law_comp {l : Addr} {ms : List Int} {H : AH} {ρ : Loc} {Q : List V → AH → Prop} (hl : H l = some (.list (ms.map .int))) (hn : ms.length ≤ 100)
    (q : Q (strvs ((ms.map signAt).map chS)) H) : qComp [] tTrueB (tBin pItem (tK (.str lawSigns)) (tBin pModI (tVar 0) (tK (.int 8)))) ρ Q l H := by
  refine ⟨ms.map .int, .inl hl, by simp; omega, fun k acc H' => H' = H ∧ acc = strvs (((ms.take k).map signAt).map chS), ⟨rfl, rfl⟩, ?_, ?_⟩
  · rintro k acc H' hk ⟨rfl, rfl⟩
    simp at hk
    have hg : (ms.map V.int)[k]? = some (.int ms[k]) := by simp [hk]
    have b : Bnd (ms[k].fmod 8) := by
      have h1 : 0 ≤ ms[k].fmod 8 := Int.fmod_nonneg_of_pos _ (by omega)
      have h2 : ms[k].fmod 8 < 8 := Int.fmod_lt_of_pos _ (by omega)
      exact .of (by omega) (by omega)
    refine ⟨.inl hl, ?_⟩
    rw [hg]
    simp [sign_get, b]
    rw [List.take_add_one]
    simp [strvs, chS, hk]
  · rintro acc H' ⟨rfl, rfl⟩
    refine ⟨.inl hl, ?_⟩
    rw [List.take_of_length_le (by simp)]
    exact q
theorem sum_chars : ∀ l : List Nat, ((l.map chS).map (·.length)).sum = l.length
  | [] => rfl
  | c :: r => by
    have := sum_chars r
    simp only [List.map_cons, List.sum_cons, List.length_cons, this]
    show 1 + _ = _; omega
theorem sign_mem (n : Int) : signAt n ∈ signL := by
  have h1 : 0 ≤ n.fmod 8 := Int.fmod_nonneg_of_pos _ (by omega)
  have h2 : n.fmod 8 < 8 := Int.fmod_lt_of_pos _ (by omega)
  unfold signAt
  have : (n.fmod 8).toNat < signL.length := by show _ < 8; omega
  rw [List.getElem?_eq_getElem this]
  exact List.getElem_mem this
theorem scriptOf_len (ns : List Int) : (scriptOf ns).length ≤ 26 := by
  unfold scriptOf; split <;> simp; omega
theorem lineOf_len (ns : List Int) : (lineOf ns).length ≤ 26 := by simp [lineOf, scriptOf_len]
theorem lineOf_mem (ns : List Int) : ∀ c ∈ lineOf ns, c ∈ signL := by
  intro c hc; simp [lineOf] at hc; obtain ⟨a, _, rfl⟩ := hc; exact sign_mem a
def T_law2 : TS := (tSeq (tSet 2 (tBin pAddI (tK (.int 1)) (tBin pModI (tCall pLen [(tVar 0)]) (tK (.int 4))))) (tSeq (tUnpack [3, 4, 5] (tCall (P_back 4) [(tCall P_finalize [(tList [(tDict2 (Str.ofString "type") (tK (.str (Str.ofString "text"))) (Str.ofString "raw") (tVar 1))]), (tK (.bool true)), (tVar 2)])])) (tSeq (tRet (tAndE (tCmpE pEqS (tVar 3) (tVar 1)) [(tCmpE pLe (tVar 4) (tVar 2)), (tVar 5)])) tNil)))
theorem T_law_eq : T_law = (tSeq (tSet 1 (tMeth1 isS pJoin (tK (.str (Str.ofString ""))) (tComp (tOrE (tSlice (tVar 0) none (some (tK (.int 26)))) [(tList [(tK (.int 4)), (tK (.int 0)), (tK (.int 4))])]) [] tTrueB (tBin pItem (tK (.str lawSigns)) (tBin pModI (tVar 0) (tK (.int 8))))))) T_law2) := rfl
theorem clip_nat {n i : Nat} : clipAt n (i : Int) = min i n := by
  unfold clipAt
  split <;> omega
theorem sliceV_to {α : Type} {xs : List α} {j : Nat} : sliceV xs none (some (j : Int)) = xs.take j := by
  unfold sliceV
  simp only [Option.elim]
  rw [clip_nat]
  simp
theorem law2_ok (hP : Plain03) {H : AH} {s : Addr} {ns : List Int} {l : List Nat} (hs : H s = some (.ro (ns.map .int))) (hn : ns.length ≤ 63) (htab : tabOk H) (hl : l.length ≤ 26) (hm : ∀ c ∈ l, c ∈ signL) {Q : V → AH → Prop} (q : ∀ H', Q (.bool true) H') :
    T_law2 [some (.ref s), some (.str (strOf l)), none, none, none, none] H (retQ Q) := by
  have hmod : 0 ≤ ((ns.length : Int)).fmod 4 := Int.fmod_nonneg_of_pos _ (by omega)
  have hmod2 : ((ns.length : Int)).fmod 4 < 4 := Int.fmod_lt_of_pos _ (by omega)
  obtain ⟨most, hmost⟩ : ∃ m : Nat, (1 + ((ns.length : Int)).fmod 4 : Int) = (m : Int) := ⟨(1 + ((ns.length : Int)).fmod 4).toNat, by omega⟩
  have b1 : L62 ns.length := L62.of (by omega)
  obtain ⟨fuel, out, hf, h1, h2, h3, h4, h5⟩ := hP l most hm hl (by omega)
  have x1 := strOf_len l
  have hc : ∀ c ∈ (strOf l).cps.toList, c ≠ 38 := by
    intro c hc
    simp [strOf] at hc
    have := hm c hc
    simp [signL] at this
    omega
  simp [T_law2, hs, b1, hmost]
  intro a ha b hb
  have htab1 : tabOk ((H.set a (.dict [(Str.ofString "type", V.str (Str.ofString "text")), (Str.ofString "raw", V.str (strOf l))])).set b (.list [.ref a])) := ((Grow.set ha).trans (.set hb)) _ _ htab
  have hta : ((H.set a (.dict [(Str.ofString "type", V.str (Str.ofString "text")), (Str.ofString "raw", V.str (strOf l))])).set b (.list [.ref a])) a = some (.dict [(Str.ofString "type", V.str (Str.ofString "text")), (Str.ofString "raw", V.str (strOf l))]) := (Grow.set hb) _ _ (AH.set_self ..)
  refine ⟨b, a, strOf l, most, fuel, out, rfl, AH.set_self .., ⟨hta, trivial⟩, htab1, by omega, hc, hf, ?_⟩
  intro H' c pv fp hc' r'
  refine ⟨c, pv, out, fp, rfl, hc', r', h4, h5, by omega, ?_⟩
  intro H2 t g2 ht
  simp [ht, setAll, h1, h3, h2]
  exact q _
theorem W_law (hP : Plain03) : WOk P_law 1 5 T_law := by
  rintro _ H Q ⟨s, ns, rfl, hs, hn, htab, q⟩
  refine ⟨rfl, ?_⟩
  have b1 : L24 ns.length := L24.of (by omega)
  have b2 : L62 (ns.take 26).length := L62.of (by simp; omega)
  rw [T_law_eq]
  have hsl : sliceV (ns.map V.int) none (some (26 : Int)) = (ns.take 26).map V.int := by
    have := sliceV_to (xs := ns.map V.int) (j := 26)
    rw [List.map_take]; exact this
  have key : ∀ (H1 : AH) (ms : List Int), Grow H H1 → ms.length ≤ 26 → ∀ l, H1 l = some (.list (ms.map .int)) →
     qComp [] tTrueB (tBin pItem (tK (.str lawSigns)) (tBin pModI (tVar 0) (tK (.int 8)))) [some (.ref s), none, none, none, none, none] (fun acc H2 => ∀ c, H2 c = none → ∃ l, acc = strvs l ∧
        L24 ((List.map (fun x => x.length) l).sum + l.length * (Str.ofString "").length) ∧ T_law2 [some (V.ref s), some (V.str ((Str.ofString "").join l)), none, none, none, none] (H2.set c (MO.list acc)) (retQ Q)) l H1 := by
    intro H1 ms g hms l hl
    refine law_comp hl (by omega) ?_
    intro c hc
    have e0 : (Str.ofString "").length = 0 := by decide
    refine ⟨(ms.map signAt).map chS, rfl, ?_, ?_⟩
    · rw [e0, sum_chars]
      exact L24.of (by simp; omega)
    · rw [join_chars]
      refine law2_ok hP (((g.trans (.set hc))) _ _ hs) hn ((g.trans (.set hc)) _ _ htab) (by simp; omega) ?_ q
      intro c hc
      simp at hc
      obtain ⟨a, _, rfl⟩ := hc
      exact sign_mem a
  simp [List.replicate, hs, b1, hsl]
  intro c hc
  refine ⟨by simpa using b2, ?_⟩
  have k1 := key (H.set c (MO.list (List.take 26 (List.map V.int ns)))) (ns.take 26) (.set hc) (by simp; omega) c (by rw [AH.set_self, List.map_take])
  by_cases h0 : 0 < min 26 ns.length
  · rw [if_pos h0]
    exact k1
  · rw [if_neg h0]
    intro c2 hc2
    exact key _ [4, 0, 4] ((Grow.set hc).trans (.set hc2)) (by simp) c2 (AH.set_self ..)
end Mine
namespace Mine
/-! sums over a prefix, kept in a tree -/
def lowTab : List Nat := [0, 1, 2, 1, 4, 1, 2, 1, 8, 1, 2, 1, 4, 1, 2, 1, 16, 1, 2, 1, 4, 1, 2, 1, 8, 1, 2, 1, 4, 1, 2, 1, 32, 1, 2, 1, 4, 1, 2, 1, 8, 1, 2, 1, 4, 1, 2, 1, 16, 1, 2, 1, 4, 1, 2, 1, 8, 1, 2, 1, 4, 1, 2, 1, 64]
theorem lowb_tab : ∀ c, c < 65 → lowb c = lowTab[c]?.getD 0 := by decide +kernel
theorem lowOk_tab : ∀ c, c < 65 → 0 < c → lowOk c = true := by decide +kernel
def lowI (c j : Nat) : Bool := decide (j - lowTab[j]?.getD 0 < c) && decide (c ≤ j)
theorem lowI_tab : ∀ c, c < 65 → 0 < c → ∀ j, j < 65 → lowI c j = (decide (c = j) || lowI (c + lowTab[c]?.getD 0) j) := by decide +kernel
theorem low_pos {c : Nat} (h : c < 65) (h0 : 0 < c) : 0 < lowb c ∧ lowb c ≤ c := by
  have := lowOk_tab c h h0
  unfold lowOk at this
  simp only [Bool.and_eq_true, decide_eq_true_eq] at this
  exact ⟨this.1.2, this.2⟩
def inI (c j : Nat) : Prop := j - lowb j < c ∧ c ≤ j
theorem inI_step {c j : Nat} (h : c < 65) (h0 : 0 < c) (hj : j < 65) : inI c j ↔ c = j ∨ inI (c + lowb c) j := by
  have := lowI_tab c h h0 j hj
  unfold inI
  rw [lowb_tab _ h, lowb_tab _ hj]
  unfold lowI at this
  rw [Bool.eq_iff_iff] at this
  simpa using this
structure FenOk (tree : List Nat) (pre : Nat → Nat) : Prop where
  zero : pre 0 = 0
  ln : tree.length ≤ 65
  get : ∀ j, 0 < j → j < tree.length → ∃ t, tree[j]? = some t ∧ t + pre (j - lowb j) = pre j
theorem qSum_ok {tree : List Nat} {pre : Nat → Nat} (h : FenOk tree pre) : ∀ f c, c < tree.length → c ≤ f → qSum tree f c = some (pre c)
  | f, 0, _, _ => by cases f <;> (unfold qSum; rw [h.zero])
  | 0, c + 1, _, hf => by omega
  | f + 1, c + 1, hc, hf => by
    have hl := h.ln
    obtain ⟨t, ht, e⟩ := h.get (c + 1) (by omega) hc
    have lp := low_pos (c := c + 1) (by omega) (by omega)
    unfold qSum
    rw [ht]
    simp only [lowOk_tab (c + 1) (by omega) (by omega), if_true]
    rw [qSum_ok h f _ (by omega) (by omega)]
    simp [e]
theorem addT_get (r : Nat) : ∀ f (tree : List Nat) c, 0 < c → tree.length ≤ 65 → tree.length < c + f → 0 < f → ∃ t', addT r f tree c = some t' ∧ t'.length = tree.length ∧
    ∀ j t, 0 < j → tree[j]? = some t → ∃ b, (b = true ↔ inI c j) ∧ t'[j]? = some (t + if b then r else 0)
  | 0, tree, c, h0, h1, h2, h3 => by
    omega
  | f + 1, tree, c, h0, h1, h2, h3 => by
    unfold addT
    by_cases hc : c < tree.length
    · rw [List.getElem?_eq_getElem hc]
      have lp := low_pos (c := c) (by omega) h0
      simp only [lowOk_tab c (by omega) h0, if_true]
      obtain ⟨t', e, l, g⟩ := addT_get r f (tree.set c (tree[c] + r)) (c + lowb c) (by omega) (by simpa using h1) (by simp; omega) (by omega)
      refine ⟨t', e, by simpa using l, fun j t hj0 ht => ?_⟩
      have hj : j < tree.length := (List.getElem?_eq_some_iff.mp ht).1
      have st := inI_step (c := c) (j := j) (by omega) h0 (by omega)
      by_cases hjc : c = j
      · subst hjc
        have ht' : tree[c] = t := by rw [List.getElem?_eq_getElem hc] at ht; exact Option.some.inj ht
        obtain ⟨b, hb, e2⟩ := g c (tree[c] + r) hj0 (by simp [hc])
        have : b = false := by
          cases b with
          | false => rfl
          | true => have := (hb.mp rfl).2; omega
        subst this
        exact ⟨true, by simp [st], by rw [e2, ht']; simp⟩
      · obtain ⟨b, hb, e2⟩ := g j t hj0 (by rw [List.getElem?_set_ne hjc]; exact ht)
        exact ⟨b, by rw [hb, st]; simp [hjc], e2⟩
    · rw [List.getElem?_eq_none (by omega)]
      refine ⟨tree, rfl, rfl, fun j t hj0 ht => ⟨false, ?_, by simpa using ht⟩⟩
      have hj : j < tree.length := (List.getElem?_eq_some_iff.mp ht).1
      unfold inI; simp; omega
theorem addT_ok {tree : List Nat} {pre : Nat → Nat} (h : FenOk tree pre) {c : Nat} (h0 : 0 < c) (r : Nat) : ∃ t', addT r (tree.length + 1) tree c = some t' ∧ t'.length = tree.length ∧ FenOk t' (fun n => pre n + if c ≤ n then r else 0) := by
  obtain ⟨t', e, l, g⟩ := addT_get r (tree.length + 1) tree c h0 h.ln (by omega) (by omega)
  refine ⟨t', e, l, ⟨?_, by rw [l]; exact h.ln, fun j hj0 hj => ?_⟩⟩
  · rw [h.zero, if_neg (by omega)]
  · rw [l] at hj
    have hl := h.ln
    obtain ⟨t, ht, e2⟩ := h.get j hj0 hj
    obtain ⟨b, hb, e3⟩ := g j t hj0 ht
    refine ⟨_, e3, ?_⟩
    have lp := low_pos (c := j) (by omega) hj0
    unfold inI at hb
    by_cases h1 : c ≤ j
    · by_cases h2 : c ≤ j - lowb j
      · have : b = false := by
          cases b with
          | false => rfl
          | true => have := (hb.mp rfl).1; omega
        subst this
        rw [if_pos h1, if_pos h2]; simp; omega
      · have : b = true := hb.mpr ⟨by omega, h1⟩
        subst this
        rw [if_pos h1, if_neg h2]; simp; omega
    · have : b = false := by
        cases b with
        | false => rfl
        | true => have := (hb.mp rfl).2; omega
      subst this
      have h3 : ¬ c ≤ j - lowb j := by omega
      rw [if_neg h1, if_neg h3]; simp; omega
theorem fen_start (n : Nat) (h : n ≤ 65) : FenOk (List.replicate n 0) (fun _ => 0) :=
  ⟨rfl, by simpa using h, fun j _ hj => ⟨0, by simp at hj; simp [hj], rfl⟩⟩
end Mine
namespace Mine
/-! the table of the next live ones -/
structure NxtOk (n : Nat) (D : Nat → Prop) (nxt : List Nat) : Prop where
  ln : nxt.length = n + 1
  get : ∀ i, i ≤ n → ∃ p, nxt[i]? = some p ∧ i ≤ p ∧ p ≤ n ∧ ∀ k, i ≤ k → k < p → D k
theorem NxtOk.mono {n : Nat} {D D' : Nat → Prop} {nxt : List Nat} (h : NxtOk n D nxt) (m : ∀ k, D k → D' k) : NxtOk n D' nxt :=
  ⟨h.ln, fun i hi => by obtain ⟨p, a, b, c, d⟩ := h.get i hi; exact ⟨p, a, b, c, fun k h1 h2 => m k (d k h1 h2)⟩⟩
theorem NxtOk.set {n : Nat} {D : Nat → Prop} {nxt : List Nat} (h : NxtOk n D nxt) {o r : Nat} (h1 : o ≤ r) (h2 : r ≤ n) (h3 : ∀ k, o ≤ k → k < r → D k) : NxtOk n D (nxt.set o r) := by
  refine ⟨by simpa using h.ln, fun i hi => ?_⟩
  by_cases e : o = i
  · subst e
    exact ⟨r, List.getElem?_set_self (by rw [h.ln]; omega), h1, h2, h3⟩
  · obtain ⟨p, a, b, c, d⟩ := h.get i hi
    exact ⟨p, by rw [List.getElem?_set_ne e]; exact a, b, c, d⟩
theorem rootOf_ok {n : Nat} {D : Nat → Prop} {nxt : List Nat} (h : NxtOk n D nxt) : ∀ f o, o ≤ n → n - o < f → ∃ r, rootOf nxt f o = some r ∧ o ≤ r ∧ r ≤ n ∧ (∀ k, o ≤ k → k < r → D k) ∧ (∀ p, nxt[o]? = some p → p ≤ r)
  | 0, o, _, hf => by omega
  | f + 1, o, ho, hf => by
    obtain ⟨p, a, b, c, d⟩ := h.get o ho
    unfold rootOf
    rw [a]
    by_cases e : p = o
    · subst e
      exact ⟨p, by simp, Nat.le_refl _, c, d, fun q hq => by cases hq; exact Nat.le_refl _⟩
    · obtain ⟨r, e1, e2, e3, e4, _⟩ := rootOf_ok h f p c (by omega)
      refine ⟨r, by simp [e, e1], by omega, e3, fun k h1 h2 => ?_, fun q hq => by cases hq; exact e2⟩
      by_cases hk : k < p
      · exact d k h1 hk
      · exact e4 k (by omega) h2
theorem rootOf_set {n : Nat} {D : Nat → Prop} {nxt : List Nat} (h : NxtOk n D nxt) {o v : Nat} : ∀ f p, o < p → p ≤ n → rootOf (nxt.set o v) f p = rootOf nxt f p
  | 0, p, _, _ => rfl
  | f + 1, p, hp, hn => by
    unfold rootOf
    rw [List.getElem?_set_ne (by omega)]
    obtain ⟨q, a, b, c, d⟩ := h.get p hn
    rw [a]
    dsimp only
    by_cases e : q = p
    · rw [if_pos e, if_pos e]
    · rw [if_neg e, if_neg e, rootOf_set h f q (by omega) c]
theorem squash_ok {n : Nat} {D : Nat → Prop} {root : Nat} : ∀ f {nxt : List Nat} {o g : Nat}, NxtOk n D nxt → rootOf nxt g o = some root → o ≤ root → root ≤ n → (∀ k, o ≤ k → k < root → D k) → n - o < f → ∃ n', squash root f nxt o = some n' ∧ NxtOk n D n'
  | 0, nxt, o, g, _, _, _, _, _, hf => by omega
  | f + 1, nxt, o, g, h, hr, h1, h2, h3, hf => by
    obtain ⟨p, a, b, c, d⟩ := h.get o (by omega)
    unfold squash
    rw [a]
    by_cases e : p = o
    · exact ⟨nxt, by simp [e], h⟩
    · dsimp only
      rw [if_neg e]
      have hs := h.set h1 h2 h3
      cases g with
      | zero => unfold rootOf at hr; cases hr
      | succ g =>
        unfold rootOf at hr
        rw [a] at hr
        dsimp only at hr
        rw [if_neg e] at hr
        have hle : p ≤ root := by
          obtain ⟨r', e1, e2, _⟩ := rootOf_ok h (n + 1 + g) p c (by omega)
          have mono : ∀ g x, rootOf nxt g x = some root → rootOf nxt (g + 1) x = some root := by
            intro g
            induction g with
            | zero => intro x hx; unfold rootOf at hx; cases hx
            | succ g ih =>
              intro x hx
              unfold rootOf at hx ⊢
              cases hn : nxt[x]? with
              | none => rw [hn] at hx; cases hx
              | some q =>
                rw [hn] at hx
                dsimp only at hx ⊢
                by_cases hq : q = x
                · rw [if_pos hq] at hx ⊢; exact hx
                · rw [if_neg hq] at hx ⊢; exact ih q hx
          have mono2 : ∀ k, rootOf nxt (g + k) p = some root := by
            intro k
            induction k with
            | zero => exact hr
            | succ k ih => exact mono _ _ ih
          have := mono2 (n + 1)
          rw [Nat.add_comm g] at this
          rw [this] at e1
          cases e1
          exact e2
        exact squash_ok f (g := g) hs (by rw [rootOf_set h g p (by omega) c]; exact hr) hle h2 (fun k k1 k2 => h3 k (by omega) k2) (by omega)
theorem findM_ok {n : Nat} {D : Nat → Prop} {nxt : List Nat} (h : NxtOk n D nxt) {o : Nat} (ho : o ≤ n) : ∃ r n', findM nxt o = some (r, n') ∧ o ≤ r ∧ r ≤ n ∧ (∀ k, o ≤ k → k < r → D k) ∧ NxtOk n D n' ∧ (∀ p, nxt[o]? = some p → p ≤ r) := by
  obtain ⟨r, e1, e2, e3, e4, e5⟩ := rootOf_ok h (nxt.length + 1) o ho (by rw [h.ln]; omega)
  obtain ⟨n', e6, e7⟩ := squash_ok (nxt.length + 1) h e1 e2 e3 e4 (by rw [h.ln]; omega)
  exact ⟨r, n', by unfold findM; rw [e1]; simp [e6], e2, e3, e4, e7, e5⟩
theorem deactM_ok {n : Nat} {D : Nat → Prop} {nxt : List Nat} (h : NxtOk n D nxt) {o : Nat} (ho : o < n) (hD : D o) : ∃ n', deactM nxt o = some n' ∧ NxtOk n D n' ∧ ∃ r, n'[o]? = some r ∧ o < r := by
  obtain ⟨r, n', e1, e2, e3, e4, e5, _⟩ := findM_ok h (o := o + 1) (by omega)
  refine ⟨n'.set o r, ?_, e5.set (by omega) e3 fun k k1 k2 => ?_, r, List.getElem?_set_self (by rw [e5.ln]; omega), by omega⟩
  · unfold deactM
    rw [e1]
    simp [e5.ln]; omega
  · by_cases hk : k = o
    · exact hk ▸ hD
    · exact e4 k (by omega) k2
def dead (ds : List Dl) (k : Nat) : Prop := ∀ x, ds[k]? = some x → x.length = 0
/-- those from a up to e lose their signs -/
def zeroR (ds : List Dl) (a e : Nat) : List Dl := ds.mapIdx fun i x => if a ≤ i ∧ i < e then { x with length := 0 } else x
theorem zeroR_len (ds : List Dl) (a e : Nat) : (zeroR ds a e).length = ds.length := by simp [zeroR]
theorem zeroR_get (ds : List Dl) (a e i : Nat) : (zeroR ds a e)[i]? = ds[i]?.map fun x => if a ≤ i ∧ i < e then { x with length := 0 } else x := by
  unfold zeroR; rw [List.getElem?_mapIdx]
theorem zeroR_none {ds : List Dl} {a e : Nat} (h : e ≤ a) : zeroR ds a e = ds := by
  refine List.ext_getElem? fun i => ?_
  rw [zeroR_get]
  cases ds[i]? with
  | none => rfl
  | some x => simp; omega
theorem dl_zero {x : Dl} (h : x.length = 0) : { x with length := 0 } = x := by cases x; simp at h; subst h; rfl
theorem zeroR_from {ds : List Dl} {a b e : Nat} (hab : a ≤ b) (h : ∀ k, a ≤ k → k < b → dead ds k) : zeroR ds b e = zeroR ds a e := by
  refine List.ext_getElem? fun i => ?_
  rw [zeroR_get, zeroR_get]
  cases hx : ds[i]? with
  | none => rfl
  | some x =>
    simp only [Option.map_some, Option.some.injEq]
    by_cases h1 : b ≤ i ∧ i < e
    · rw [if_pos h1, if_pos ⟨by omega, h1.2⟩]
    · rw [if_neg h1]
      by_cases h2 : a ≤ i ∧ i < e
      · rw [if_pos h2]
        exact (dl_zero (h i h2.1 (by omega) x hx)).symm
      · rw [if_neg h2]
theorem dead_set {ds : List Dl} {o k : Nat} {y : Dl} (h : dead ds k) (hy : k = o → y.length = 0) : dead (ds.set o y) k := by
  intro x hx
  by_cases e : o = k
  · subst e
    rw [List.getElem?_set] at hx
    simp at hx
    rw [← hx.2]; exact hy rfl
  · rw [List.getElem?_set_ne e] at hx
    exact h x hx
theorem rangeM_ok {e : Nat} : ∀ f {ds : List Dl} {nxt : List Nat} {o : Nat}, NxtOk ds.length (dead ds) nxt → e ≤ ds.length → o ≤ ds.length → e - o < f → ∃ n', rangeM e f ds nxt o = some (zeroR ds o e, n') ∧ NxtOk ds.length (dead (zeroR ds o e)) n'
  | 0, ds, nxt, o, _, _, _, hf => by omega
  | f + 1, ds, nxt, o, h, he, ho, hf => by
    unfold rangeM
    by_cases hoe : e ≤ o
    · rw [if_pos hoe, zeroR_none hoe]; exact ⟨nxt, rfl, h⟩
    · rw [if_neg hoe]
      have hlt : o < ds.length := by omega
      have hx : ds[o]? = some ds[o] := List.getElem?_eq_getElem hlt
      unfold zeroLen
      rw [hx]
      dsimp only
      have m1 : ∀ k, dead ds k → dead (ds.set o { ds[o] with length := 0 }) k := fun k hk => dead_set hk fun _ => rfl
      have d1 : dead (ds.set o { ds[o] with length := 0 }) o := by
        intro x hx; simp [hlt] at hx; rw [← hx]
      obtain ⟨n1, e1, ok1, r0, hr0, hr1⟩ := deactM_ok (h.mono m1) hlt d1
      rw [e1]
      dsimp only
      obtain ⟨r, n2, e2, g1, g2, g3, ok2, g4⟩ := findM_ok ok1 (o := o) (by omega)
      rw [e2]
      dsimp only
      have hro : o < r := by have := g4 r0 hr0; omega
      obtain ⟨n', e3, ok3⟩ := rangeM_ok f (ds := ds.set o { ds[o] with length := 0 }) (nxt := n2) (o := r) (by simpa using ok2) (by simpa using he) (by simpa using g2) (by omega)
      have hz : zeroR (ds.set o { ds[o] with length := 0 }) r e = zeroR ds o e := by
        rw [zeroR_from (a := o) (by omega) g3]
        refine List.ext_getElem? fun i => ?_
        rw [zeroR_get, zeroR_get]
        by_cases hi : o = i
        · subst hi
          simp [hlt, hoe]
        · rw [List.getElem?_set_ne hi]
      rw [hz] at e3 ok3
      exact ⟨n', e3, by simpa using ok3⟩
end Mine
namespace Mine
def cur (pre : Nat → Nat) (x : Dl) : Nat := x.index - pre (x.index + 1)
structure StOk (pre : Nat → Nat) (st : St) : Prop where
  fen : FenOk st.tree pre
  nx : NxtOk st.ds.length (dead st.ds) st.nxt
  ord : ∀ (i : Nat) (x : Dl), st.ds[i]? = some x → x.order = i
  inc : ∀ (i j : Nat) (x y : Dl), i < j → st.ds[i]? = some x → st.ds[j]? = some y → x.index < y.index
  ixb : ∀ (i : Nat) (x : Dl), st.ds[i]? = some x → x.index + 1 < st.tree.length
  pos : ∀ (i : Nat) (x : Dl), st.ds[i]? = some x → 0 < x.length → pre (x.index + 1) ≤ x.index
  mon : ∀ (i j : Nat) (x y : Dl), i < j → st.ds[i]? = some x → st.ds[j]? = some y → 0 < x.length → 0 < y.length → cur pre x < cur pre y
theorem StOk.curM {pre : Nat → Nat} {st : St} (h : StOk pre st) {i : Nat} {x : Dl} (hx : st.ds[i]? = some x) (hl : 0 < x.length) : curM st.tree x = some (cur pre x) := by
  unfold Mine.curM
  have hb := h.ixb i x hx
  rw [qSum_ok h.fen _ _ hb (by omega)]
  have := h.pos i x hx hl
  simp [this, cur]
/-- one delimiter before and after a match -/
structure sameDl (x x' : Dl) : Prop where
  ix : x'.index = x.index
  mr : x'.marker = x.marker
  og : x'.orig = x.orig
  od : x'.order = x.order
  le : x'.length ≤ x.length
  co : x'.co = true → x.co = true
  cc : x'.cc = true → x.cc = true
theorem sameDl.refl (x : Dl) : sameDl x x := ⟨rfl, rfl, rfl, rfl, Nat.le_refl _, id, id⟩
theorem sameDl.trans {x y z : Dl} (a : sameDl x y) (b : sameDl y z) : sameDl x z := ⟨b.ix.trans a.ix, b.mr.trans a.mr, b.og.trans a.og, b.od.trans a.od, Nat.le_trans b.le a.le, fun h => a.co (b.co h), fun h => a.cc (b.cc h)⟩
theorem sameDl.spend (u : Nat) (x : Dl) : sameDl x (spend u x) := ⟨rfl, rfl, rfl, rfl, Nat.sub_le _ _, id, id⟩
theorem sameDl.close (b : Bool) (x : Dl) : sameDl x (closeDl b x) := by
  unfold closeDl
  split
  · split
    · exact ⟨rfl, rfl, rfl, rfl, Nat.le_refl _, by simp, id⟩
    · exact ⟨rfl, rfl, rfl, rfl, Nat.le_refl _, id, by simp⟩
  · exact .refl x
theorem closeDl_len (b : Bool) (x : Dl) : (closeDl b x).length = x.length := by
  unfold closeDl; split
  · split <;> rfl
  · rfl
theorem sameDl.zero (x : Dl) : sameDl x { x with length := 0 } := ⟨rfl, rfl, rfl, rfl, Nat.zero_le _, id, id⟩
def dsMid (ds : List Dl) (op cp k : Nat) : List Dl := if k = 0 then ds else zeroR ds (op + 1) cp
def dsA (ds : List Dl) (op cp u k : Nat) (x y : Dl) : List Dl := ((dsMid ds op cp k).set op (closeDl true (spend u x))).set cp (closeDl false (spend u y))
theorem dsMid_len (ds : List Dl) (op cp k : Nat) : (dsMid ds op cp k).length = ds.length := by
  unfold dsMid; split
  · rfl
  · exact zeroR_len ..
theorem dsA_len (ds : List Dl) (op cp u k : Nat) (x y : Dl) : (dsA ds op cp u k x y).length = ds.length := by simp [dsA, dsMid_len]
theorem dsMid_get (ds : List Dl) (op cp k i : Nat) : (dsMid ds op cp k)[i]? = if k ≠ 0 ∧ op < i ∧ i < cp then ds[i]?.map (fun x => { x with length := 0 }) else ds[i]? := by
  unfold dsMid
  by_cases hk : k = 0
  · simp [hk]
  · rw [if_neg hk, zeroR_get]
    by_cases h : op < i ∧ i < cp
    · rw [if_pos ⟨hk, h⟩]
      have : op + 1 ≤ i ∧ i < cp := ⟨by omega, h.2⟩
      simp [this]
    · rw [if_neg (by rintro ⟨_, h1⟩; exact h h1)]
      have : ¬ (op + 1 ≤ i ∧ i < cp) := by omega
      simp [this]
theorem dsA_get {ds : List Dl} {op cp u k : Nat} {x y : Dl} (hop : op < cp) (hcp : cp < ds.length) (i : Nat) : (dsA ds op cp u k x y)[i]? = if i = op then some (closeDl true (spend u x)) else if i = cp then some (closeDl false (spend u y)) else if k ≠ 0 ∧ op < i ∧ i < cp then ds[i]?.map (fun x => { x with length := 0 }) else ds[i]? := by
  unfold dsA
  by_cases h2 : i = cp
  · subst h2
    rw [if_neg (by omega), if_pos rfl, List.getElem?_set_self (by simp [dsMid_len]; omega)]
  · rw [List.getElem?_set_ne (Ne.symm h2)]
    by_cases h1 : i = op
    · subst h1
      rw [if_pos rfl, List.getElem?_set_self (by simp [dsMid_len]; omega)]
    · rw [if_neg h1, if_neg h2, List.getElem?_set_ne (Ne.symm h1), dsMid_get]
theorem dsA_same {ds : List Dl} {op cp u k : Nat} {x y : Dl} (hop : op < cp) (hx : ds[op]? = some x) (hy : ds[cp]? = some y) {i : Nat} {z : Dl} (h : (dsA ds op cp u k x y)[i]? = some z) :
    ∃ z0, ds[i]? = some z0 ∧ sameDl z0 z ∧ (i = op → z.length = z0.length - u) ∧ (i = cp → z.length = z0.length - u) ∧ (i ≠ op → i ≠ cp → (k ≠ 0 ∧ op < i ∧ i < cp) → z.length = 0) ∧ (i ≠ op → i ≠ cp → ¬ (k ≠ 0 ∧ op < i ∧ i < cp) → z = z0) := by
  have hcp : cp < ds.length := (List.getElem?_eq_some_iff.mp hy).1
  rw [dsA_get hop hcp] at h
  by_cases h1 : i = op
  · subst h1
    rw [if_pos rfl] at h
    cases h
    exact ⟨x, hx, (sameDl.spend u x).trans (.close _ _), fun _ => by rw [closeDl_len]; rfl, fun h => absurd h (by omega), fun h => absurd rfl h, fun h => absurd rfl h⟩
  · rw [if_neg h1] at h
    by_cases h2 : i = cp
    · subst h2
      rw [if_pos rfl] at h
      cases h
      exact ⟨y, hy, (sameDl.spend u y).trans (.close _ _), fun h => absurd h h1, fun _ => by rw [closeDl_len]; rfl, fun _ h => absurd rfl h, fun _ h => absurd rfl h⟩
    · rw [if_neg h2] at h
      by_cases h3 : k ≠ 0 ∧ op < i ∧ i < cp
      · rw [if_pos h3] at h
        obtain ⟨z0, e1, e2⟩ := Option.map_eq_some_iff.mp h
        subst e2
        exact ⟨z0, e1, .zero z0, fun h => absurd h h1, fun h => absurd h h2, fun _ _ _ => rfl, fun _ _ h => absurd h3 h⟩
      · rw [if_neg h3] at h
        exact ⟨z, h, .refl z, fun h => absurd h h1, fun h => absurd h h2, fun _ _ h => absurd h h3, fun _ _ _ => rfl⟩
def preA (pre : Nat → Nat) (y : Dl) (k : Nat) : Nat → Nat := fun n => pre n + if y.index + 1 ≤ n then k else 0
theorem preA_zero (pre : Nat → Nat) (y : Dl) : preA pre y 0 = pre := by funext n; simp [preA]
theorem closeNxt_ok {n : Nat} {D : Nat → Prop} {nxt : List Nat} (h : NxtOk n D nxt) {x : Dl} (ho : x.order < n) (hD : x.length = 0 → D x.order) : ∃ n', closeNxt x nxt = some n' ∧ NxtOk n D n' := by
  unfold closeNxt
  by_cases e : x.length = 0
  · rw [if_pos e]
    obtain ⟨n', e1, e2, _⟩ := deactM_ok h ho (hD e)
    exact ⟨n', e1, e2⟩
  · rw [if_neg e]; exact ⟨nxt, rfl, h⟩
theorem apply_ok {pre : Nat → Nat} {st : St} (h : StOk pre st) {op cp u : Nat} {x y : Dl} {x1 x2 : Str} {kids : List Nd} (hop : op < cp) (hx : st.ds[op]? = some x) (hy : st.ds[cp]? = some y) (hlx : 0 < x.length) (hly : 0 < y.length) (hux : u ≤ x.length) (huy : u ≤ y.length)
    (hoc : cur pre x + 2 ≤ cur pre y) (h1 : st.ns[cur pre x]? = some (.text x1)) (h2 : st.ns[cur pre y]? = some (.text x2)) (hu1 : u ≤ x1.length) (hu2 : u ≤ x2.length) :
    ∃ tree' nxt', applyM st op cp (cur pre x) (cur pre y) u kids = some ⟨putNode st.ns (cur pre x) (cur pre y) u x1 x2 kids, dsA st.ds op cp u (cur pre y - cur pre x - 2) x y, tree', nxt'⟩ ∧
      StOk (preA pre y (cur pre y - cur pre x - 2)) ⟨putNode st.ns (cur pre x) (cur pre y) u x1 x2 kids, dsA st.ds op cp u (cur pre y - cur pre x - 2) x y, tree', nxt'⟩ := by
  have hcp : cp < st.ds.length := (List.getElem?_eq_some_iff.mp hy).1
  generalize hk : cur pre y - cur pre x - 2 = k
  -- the range
  have hr : ∃ n1 t1, rangeStep st op cp k = some ((dsMid st.ds op cp k, n1), t1) ∧ NxtOk st.ds.length (dead (dsMid st.ds op cp k)) n1 ∧ t1.length = st.tree.length ∧ FenOk t1 (preA pre y k) := by
    unfold rangeStep
    by_cases hk0 : k = 0
    · rw [if_pos hk0]
      subst hk0
      refine ⟨st.nxt, st.tree, by simp [dsMid], by simpa [dsMid] using h.nx, rfl, by rw [preA_zero]; exact h.fen⟩
    · rw [if_neg hk0]
      obtain ⟨r, n1, e1, g1, g2, g3, ok1, _⟩ := findM_ok h.nx (o := op + 1) (by omega)
      rw [e1]
      dsimp only
      obtain ⟨n2, e2, ok2⟩ := rangeM_ok (e := cp) (st.ds.length + 1) ok1 (by omega) g2 (by omega)
      rw [zeroR_from (a := op + 1) g1 g3] at e2 ok2
      rw [e2]
      dsimp only
      have hm : zeroR st.ds (op + 1) cp = dsMid st.ds op cp k := by simp [dsMid, hk0]
      rw [hm] at ok2 ⊢
      have hyc : (dsMid st.ds op cp k)[cp]? = some y := by rw [dsMid_get, if_neg (by omega)]; exact hy
      rw [hyc]
      dsimp only
      obtain ⟨t1, e3, e4, e5⟩ := addT_ok h.fen (c := y.index + 1) (by omega) k
      rw [e3]
      exact ⟨n2, t1, rfl, ok2, e4, e5⟩
  obtain ⟨n1, t1, e1, ok1, lt1, fen1⟩ := hr
  have hxm : (dsMid st.ds op cp k)[op]? = some x := by rw [dsMid_get, if_neg (by omega)]; exact hx
  have hym : (dsMid st.ds op cp k)[cp]? = some y := by rw [dsMid_get, if_neg (by omega)]; exact hy
  have hA : dsA st.ds op cp u k x y = ((dsMid st.ds op cp k).set op (closeDl true (spend u x))).set cp (closeDl false (spend u y)) := rfl
  have hdead : ∀ i, dead (dsMid st.ds op cp k) i → dead (dsA st.ds op cp u k x y) i := by
    intro i hi
    rw [hA]
    refine dead_set (dead_set hi ?_) ?_
    · rintro rfl
      have := hi x hxm
      omega
    · rintro rfl
      have := hi y hym
      omega
  have ok2 := ok1.mono hdead
  have hop' : (spend u x).order = op := h.ord op x hx
  have hcp' : (spend u y).order = cp := h.ord cp y hy
  obtain ⟨n2, e2, ok3⟩ := closeNxt_ok ok2 (x := spend u x) (by rw [hop']; omega) (fun e => by
    rw [hop']; intro z hz
    rw [dsA_get hop hcp, if_pos rfl] at hz
    cases hz; rw [closeDl_len]; exact e)
  obtain ⟨n3, e3, ok4⟩ := closeNxt_ok ok3 (x := spend u y) (by rw [hcp']; omega) (fun e => by
    rw [hcp']; intro z hz
    rw [dsA_get hop hcp, if_neg (by omega), if_pos rfl] at hz
    cases hz; rw [closeDl_len]; exact e)
  have hc : closeStep (dsMid st.ds op cp k) n1 op cp u = some (dsA st.ds op cp u k x y, n3) := by
    unfold closeStep
    rw [hxm, hym]
    dsimp only
    rw [if_pos ⟨hux, huy⟩, e2]
    dsimp only
    rw [e3]
    rfl
  refine ⟨t1, n3, ?_, ?_⟩
  · unfold applyM
    rw [h1, h2]
    dsimp only
    rw [if_pos ⟨hoc, hop, hu1, hu2⟩, hk, e1]
    dsimp only
    rw [hc]
  · have hmono : ∀ i z, (dsA st.ds op cp u k x y)[i]? = some z → 0 < z.length → ∃ z0, st.ds[i]? = some z0 ∧ sameDl z0 z ∧ 0 < z0.length ∧ (op < i → i < cp → k = 0) ∧
        (i < cp → preA pre y k (z0.index + 1) = pre (z0.index + 1)) ∧ (cp ≤ i → preA pre y k (z0.index + 1) = pre (z0.index + 1) + k ∧ cur pre y ≤ cur pre z0) ∧ (i ≤ op → cur pre z0 ≤ cur pre x) := by
      intro i z hz hl
      obtain ⟨z0, a1, a2, a3, a4, a5, a6⟩ := dsA_same hop hx hy hz
      have hz0 : 0 < z0.length := by have := a2.le; omega
      refine ⟨z0, a1, a2, hz0, fun b1 b2 => ?_, fun b => ?_, fun b => ?_, fun b => ?_⟩
      · by_cases hk0 : k = 0
        · exact hk0
        · have := a5 (by omega) (by omega) ⟨hk0, b1, b2⟩; omega
      · have := h.inc i cp z0 y b a1 hy
        unfold preA
        rw [if_neg (by omega)]; rfl
      · by_cases hic : i = cp
        · subst hic
          rw [hy] at a1; cases a1
          unfold preA
          simp
        · have := h.inc cp i y z0 (by omega) hy a1
          have := h.mon cp i y z0 (by omega) hy a1 hly hz0
          unfold preA
          rw [if_pos (by omega)]
          exact ⟨rfl, by omega⟩
      · by_cases hic : i = op
        · subst hic
          rw [hx] at a1; cases a1
          exact Nat.le_refl _
        · have := h.mon i op z0 x (by omega) a1 hx hz0 hlx
          omega
    refine ⟨fen1, by simpa [dsA_len] using ok4, fun i z hz => ?_, fun i j z w hij hz hw => ?_, fun i z hz => ?_, fun i z hz hl => ?_, fun i j z w hij hz hw hl1 hl2 => ?_⟩
    · obtain ⟨z0, a1, a2, _⟩ := dsA_same hop hx hy hz
      rw [a2.od]; exact h.ord i z0 a1
    · obtain ⟨z0, a1, a2, _⟩ := dsA_same hop hx hy hz
      obtain ⟨w0, b1, b2, _⟩ := dsA_same hop hx hy hw
      rw [a2.ix, b2.ix]; exact h.inc i j z0 w0 hij a1 b1
    · obtain ⟨z0, a1, a2, _⟩ := dsA_same hop hx hy hz
      rw [a2.ix]
      show _ < t1.length
      rw [lt1]; exact h.ixb i z0 a1
    · obtain ⟨z0, a1, a2, a3, a4, a5, a6, a7⟩ := hmono i z hz hl
      have p0 := h.pos i z0 a1 a3
      rw [a2.ix]
      by_cases hi : i < cp
      · rw [a5 hi]; exact p0
      · obtain ⟨c1, c2⟩ := a6 (by omega)
        rw [c1]
        unfold cur at c2 hk
        have := h.pos cp y hy hly
        omega
    · obtain ⟨z0, a1, a2, a3, a4, a5, a6, a7⟩ := hmono i z hz hl1
      obtain ⟨w0, b1, b2, b3, b4, b5, b6, b7⟩ := hmono j w hw hl2
      have m0 := h.mon i j z0 w0 hij a1 b1 a3 b3
      have pz := h.pos i z0 a1 a3
      have pw := h.pos j w0 b1 b3
      have e1 : cur (preA pre y k) z = z0.index - preA pre y k (z0.index + 1) := by unfold cur; rw [a2.ix]
      have e2 : cur (preA pre y k) w = w0.index - preA pre y k (w0.index + 1) := by unfold cur; rw [b2.ix]
      rw [e1, e2]
      by_cases hj : j < cp
      · rw [b5 hj, a5 (by omega)]; exact m0
      · obtain ⟨c1, c2⟩ := b6 (by omega)
        rw [c1]
        by_cases hi : i < cp
        · rw [a5 hi]
          by_cases hio : i ≤ op
          · have := a7 hio
            unfold cur at *
            omega
          · have := a4 (by omega) hi
            unfold cur at *
            omega
        · obtain ⟨d1, d2⟩ := a6 (by omega)
          rw [d1]
          unfold cur at *
          omega
end Mine
namespace Mine
/-- what a match leaves of the places -/
theorem dsA_cur {pre : Nat → Nat} {st : St} (h : StOk pre st) {op cp u k : Nat} {x y : Dl} (hop : op < cp) (hx : st.ds[op]? = some x) (hy : st.ds[cp]? = some y) (hly : 0 < y.length) (hk : k ≤ cur pre y) {i : Nat} {z : Dl} (hz : (dsA st.ds op cp u k x y)[i]? = some z) (hl : 0 < z.length) :
    ∃ z0, st.ds[i]? = some z0 ∧ sameDl z0 z ∧ 0 < z0.length ∧ (op < i → i < cp → k = 0) ∧ (i < cp → cur (preA pre y k) z = cur pre z0) ∧ (cp ≤ i → cur (preA pre y k) z + k = cur pre z0) ∧
      (i = op ∨ i = cp → z.length = z0.length - u) ∧ (i ≠ op → i ≠ cp → z = z0) := by
  obtain ⟨z0, a1, a2, a3, a4, a5, a6⟩ := dsA_same hop hx hy hz
  have hz0 : 0 < z0.length := by have := a2.le; omega
  have e1 : cur (preA pre y k) z = z0.index - preA pre y k (z0.index + 1) := by unfold cur; rw [a2.ix]
  have hno : op < i → i < cp → k = 0 := fun b1 b2 => by
    by_cases hk0 : k = 0
    · exact hk0
    · have := a5 (by omega) (by omega) ⟨hk0, b1, b2⟩; omega
  refine ⟨z0, a1, a2, hz0, hno, fun b => ?_, fun b => ?_, fun b => ?_, fun b1 b2 => ?_⟩
  · have := h.inc i cp z0 y b a1 hy
    rw [e1]
    unfold preA
    rw [if_neg (by omega)]; rfl
  · rw [e1]
    have hc : cur pre y ≤ cur pre z0 ∧ y.index + 1 ≤ z0.index + 1 := by
      by_cases hic : i = cp
      · subst hic
        rw [hy] at a1; cases a1
        exact ⟨Nat.le_refl _, Nat.le_refl _⟩
      · have := h.inc cp i y z0 (by omega) hy a1
        have := h.mon cp i y z0 (by omega) hy a1 hly hz0
        omega
    unfold preA
    rw [if_pos hc.2]
    have := hc.1
    unfold cur at *
    omega
  · rcases b with b | b
    · exact a3 b
    · exact a4 b
  · refine a6 b1 b2 ?_
    rintro ⟨c1, c2, c3⟩
    exact c1 (hno c2 c3)
def total (ds : List Dl) : Nat := (ds.map (·.length)).sum
theorem total_le : ∀ {a b : List Dl}, a.length = b.length → (∀ (i : Nat) (x y : Dl), a[i]? = some x → b[i]? = some y → y.length ≤ x.length) → total b ≤ total a
  | [], [], _, _ => Nat.le_refl _
  | [], _ :: _, h, _ => by simp at h
  | _ :: _, [], h, _ => by simp at h
  | x :: a, y :: b, h, g => by
    have := total_le (a := a) (b := b) (by simpa using h) fun i x y hx hy => g (i + 1) x y hx hy
    have := g 0 x y rfl rfl
    simp only [total, List.map_cons, List.sum_cons] at *
    omega
theorem total_lt : ∀ {a b : List Dl} {o : Nat}, a.length = b.length → (∀ (i : Nat) (x y : Dl), a[i]? = some x → b[i]? = some y → y.length ≤ x.length) → (∃ x y : Dl, a[o]? = some x ∧ b[o]? = some y ∧ y.length < x.length) → total b < total a
  | [], _, _, _, _, h => by obtain ⟨x, y, h1, _⟩ := h; simp at h1
  | _ :: _, [], _, h, _, _ => by simp at h
  | x :: a, y :: b, 0, h, g, s => by
    have := total_le (a := a) (b := b) (by simpa using h) fun i x y hx hy => g (i + 1) x y hx hy
    obtain ⟨x', y', e1, e2, e3⟩ := s
    simp at e1 e2
    subst e1 e2
    simp only [total, List.map_cons, List.sum_cons] at *
    omega
  | x :: a, y :: b, o + 1, h, g, s => by
    have := total_lt (a := a) (b := b) (o := o) (by simpa using h) (fun i x y hx hy => g (i + 1) x y hx hy) (by simpa using s)
    have := g 0 x y rfl rfl
    simp only [total, List.map_cons, List.sum_cons] at *
    omega
theorem dsA_total {ds : List Dl} {op cp u k : Nat} {x y : Dl} (hop : op < cp) (hx : ds[op]? = some x) (hy : ds[cp]? = some y) (hlx : 0 < x.length) (hu : 0 < u) : total (dsA ds op cp u k x y) < total ds := by
  refine total_lt (o := op) (dsA_len ..).symm (fun i a b ha hb => ?_) ⟨x, _, hx, by rw [dsA_get hop (List.getElem?_eq_some_iff.mp hy).1, if_pos rfl], by rw [closeDl_len]; show x.length - u < x.length; omega⟩
  obtain ⟨z0, e, s, _⟩ := dsA_same hop hx hy hb
  rw [ha] at e; cases e
  exact s.le
/-! the list after a match -/
theorem put_lt {ns : List Nd} {oi ci u : Nat} {x1 x2 : Str} {ks : List Nd} {i : Nat} (hi : i < oi) (hn : oi < ns.length) : (putNode ns oi ci u x1 x2 ks)[i]? = ns[i]? := by
  unfold putNode
  rw [List.append_assoc, List.getElem?_append_left (by simp; omega), List.getElem?_take, if_pos hi]
theorem pn_mid {ns : List Nd} {oi ci u : Nat} {x1 x2 : Str} {ks : List Nd} (hn : oi < ns.length) : (putNode ns oi ci u x1 x2 ks)[oi]? = some (.text (cutEnd x1 u)) ∧ (putNode ns oi ci u x1 x2 ks)[oi + 1]? = some (.node (nodeTy u) ks) ∧ (putNode ns oi ci u x1 x2 ks)[oi + 2]? = some (.text (cutFront x2 u)) := by
  unfold putNode
  have e : (ns.take oi).length = oi := by simp; omega
  refine ⟨?_, ?_, ?_⟩
  · rw [List.append_assoc, List.getElem?_append_right (by omega), e, Nat.sub_self]; rfl
  · rw [List.append_assoc, List.getElem?_append_right (by omega), e, Nat.add_sub_cancel_left]; rfl
  · rw [List.append_assoc, List.getElem?_append_right (by omega), e, Nat.add_sub_cancel_left]; rfl
theorem put_gt {ns : List Nd} {oi ci u : Nat} {x1 x2 : Str} {ks : List Nd} {i : Nat} (hi : oi + 2 < i) (hoc : oi + 2 ≤ ci) (hn : oi < ns.length) : (putNode ns oi ci u x1 x2 ks)[i]? = ns[i + (ci - oi - 2)]? := by
  unfold putNode
  have e : (ns.take oi).length = oi := by simp; omega
  rw [List.getElem?_append_right (by simp; omega), List.getElem?_drop]
  congr 1
  simp
  omega
theorem put_flat {ns : List Nd} {oi ci u : Nat} {x1 x2 : Str} (h1 : ns[oi]? = some (.text x1)) (h2 : ns[ci]? = some (.text x2)) (hoc : oi < ci) (e1 : cutEnd x1 u ++ markOf (nodeTy u) = x1) (e2 : markOf (nodeTy u) ++ cutFront x2 u = x2) :
    flatL (putNode ns oi ci u x1 x2 ((ns.drop (oi + 1)).take (ci - (oi + 1)))) = flatL ns := by
  have e := ns_cut h1 h2 hoc
  generalize (ns.drop (oi + 1)).take (ci - (oi + 1)) = ks at *
  unfold putNode
  have e3 : flatL ns = flatL (ns.take oi ++ Nd.text x1 :: (ks ++ Nd.text x2 :: ns.drop (ci + 1))) := congrArg flatL e
  rw [e3]
  have key : ∀ A B C E F M : Str, E ++ M = x1 → M ++ F = x2 → A ++ (E ++ ((M ++ B ++ M) ++ (F ++ C))) = A ++ (x1 ++ (B ++ (x2 ++ C))) := by
    intro A B C E F M h1 h2
    rw [← h1, ← h2]
    simp only [str_assoc]
  have c1 : ∀ n r, flatL (n :: r) = flatN n ++ flatL r := fun _ _ => rfl
  have c0 : flatL [] = Str.ofString "" := rfl
  have n1 : ∀ x, flatN (.text x) = x := fun _ => rfl
  have n2 : flatN (.node (nodeTy u) ks) = markOf (nodeTy u) ++ flatL ks ++ markOf (nodeTy u) := rfl
  rw [flatL_append, flatL_append, flatL_append, c1, c1, c1, c1, flatL_append, c1, c0, n1, n1, n1, n1, n2, str_app_empty, str_assoc (flatL (ns.take oi)), str_assoc (cutEnd x1 u), str_assoc (markOf (nodeTy u) ++ flatL ks ++ markOf (nodeTy u))]
  exact key _ _ _ _ _ _ e1 e2
theorem put_depth {ns : List Nd} {oi ci u m : Nat} {x1 x2 : Str} {ks : List Nd} (h : depthL ns ≤ m) (hk : depthL ks < m) : depthL (putNode ns oi ci u x1 x2 ks) ≤ m := by
  have t1 : depthL (ns.take oi) ≤ m := by
    have := depthL_append (ns.take oi) (ns.drop oi)
    rw [List.take_append_drop] at this; omega
  have t2 : depthL (ns.drop (ci + 1)) ≤ m := by
    have := depthL_append (ns.take (ci + 1)) (ns.drop (ci + 1))
    rw [List.take_append_drop] at this; omega
  unfold putNode
  simp only [depthL_append, depthL, depthN]
  omega
theorem who_take {ns : List Nd} (h : wholeL ns = true) (k : Nat) : wholeL (ns.take k) = true ∧ wholeL (ns.drop k) = true := by
  have := wholeL_append (ns.take k) (ns.drop k)
  rw [List.take_append_drop, h] at this
  simpa using this.symm
theorem tyL_append : ∀ a b, tyL (a ++ b) = (tyL a && tyL b)
  | [], b => by simp [tyL]
  | n :: r, b => by simp only [List.cons_append, tyL, tyL_append r b, Bool.and_assoc]
theorem ty_take {ns : List Nd} (h : tyL ns = true) (k : Nat) : tyL (ns.take k) = true ∧ tyL (ns.drop k) = true := by
  have := tyL_append (ns.take k) (ns.drop k)
  rw [List.take_append_drop, h] at this
  simpa using this.symm
theorem markOf_pos (ty : Str) : 0 < (markOf ty).length := by unfold markOf; split <;> decide
theorem flat_ne {ks : List Nd} (h : ks.any Nd.content = true) : 0 < (flatL ks).length := by
  rw [List.any_eq_true] at h
  obtain ⟨n, hn, hc⟩ := h
  obtain ⟨a, b, rfl⟩ := List.append_of_mem hn
  rw [flatL_append, flatL, str_len_app, str_len_app]
  have : 0 < (flatN n).length := by
    cases n with
    | text x =>
      simp [Nd.content, Nd.isText, Nd.raw] at hc
      simp only [flatN]
      cases hx : x.length with
      | succ n => omega
      | zero =>
        refine absurd ?_ hc
        have := len_cps x
        have h0 : x.cps.toList = [] := List.eq_nil_of_length_eq_zero (by omega)
        cases x with
        | mk a =>
          simp at h0
          subst h0
          decide
    | node ty ks =>
      have := markOf_pos ty
      simp only [flatN, str_len_app]; omega
  omega
theorem put_whole {ns : List Nd} {oi ci u : Nat} {x1 x2 : Str} {ks : List Nd} (h : wholeL ns = true) (hk : wholeL ks = true) (hc : ks.any Nd.content = true) : wholeL (putNode ns oi ci u x1 x2 ks) = true := by
  unfold putNode
  have hf := flat_ne hc
  have hne : (flatL ks != Str.ofString "") = true := by
    simp only [bne_iff_ne, ne_eq]
    intro e
    rw [e] at hf
    have : (Str.ofString "").length = 0 := by decide
    omega
  simp only [wholeL_append, wholeL, wholeN, (who_take h oi).1, (who_take h (ci + 1)).2, hk, hne, Bool.and_self]
theorem nodeTy_ok (u : Nat) : (nodeTy u == Str.ofString "emphasis" || nodeTy u == Str.ofString "strong") = true := by
  unfold nodeTy; split <;> decide
theorem put_ty {ns : List Nd} {oi ci u : Nat} {x1 x2 : Str} {ks : List Nd} (h : tyL ns = true) (hk : tyL ks = true) : tyL (putNode ns oi ci u x1 x2 ks) = true := by
  unfold putNode
  simp only [tyL_append, tyL, tyN, (ty_take h oi).1, (ty_take h (ci + 1)).2, hk, nodeTy_ok, Bool.and_self]
theorem mid_of {P : List Nd → Bool} (hP : ∀ {l : List Nd}, P l = true → ∀ k, P (l.take k) = true ∧ P (l.drop k) = true) {ns : List Nd} (h : P ns = true) (i k : Nat) : P ((ns.drop i).take k) = true := (hP (hP h i).2 k).1
/-! rows of one sign -/
def reps (n c : Nat) : Str := strOf (List.replicate n c)
theorem reps_len (n c : Nat) : (reps n c).length = n := by simp [reps, strOf_len]
theorem reps_cutEnd (n c u : Nat) : cutEnd (reps n c) u = reps (n - u) c := by
  simp [cutEnd, reps, strOf, Str.length, List.take_replicate]
theorem reps_cutFront (n c u : Nat) : cutFront (reps n c) u = reps (n - u) c := by
  simp [cutFront, reps, strOf, List.drop_replicate]
theorem reps_add (m n c : Nat) : reps m c ++ reps n c = reps (m + n) c := by
  unfold reps; rw [strOf_append, List.replicate_append_replicate]
theorem mark_reps {u : Nat} (h : u = 1 ∨ u = 2) : markOf (nodeTy u) = reps u 42 := by
  rcases h with rfl | rfl <;> decide
theorem kidsM_more {ns : List Nd} {oi ci m : Nat} {n1 n2 : Nd} {ks : List Nd} (h : kidsM ns oi ci n1 n2 m = some ks) : ks.any Nd.content = true ∧ (0 < m → depthL ks < m) := by
  have e := kidsM_ok h
  unfold kidsM at h
  dsimp only at h
  rw [← e] at h
  split at h
  · cases h
  · rename_i hc
    split at h
    · cases h
    · split at h
      · cases h
      · rename_i hd
        exact ⟨by simpa using hc, fun hm => by omega⟩
theorem useLenN_more {x y : Dl} {n1 n2 : Nd} {u : Nat} (h : useLenN x y n1 n2 = some u) (hx : 0 < x.length) (hy : 0 < y.length) : u ≤ x.length ∧ u ≤ y.length := by
  unfold useLenN at h
  split at h
  · cases h; rename_i g; exact g.1
  · split at h
    · cases h; omega
    · cases h
end Mine
namespace Mine
structure Good3 (line : Str) (m : Nat) (ns : List Nd) : Prop where
  flat : flatL ns = line
  dep : depthL ns ≤ m
  who : wholeL ns = true
  tys : tyL ns = true
structure Inv3 (line : Str) (m : Nat) (pre : Nat → Nat) (st : St) : Prop where
  ok : StOk pre st
  txt : ∀ (i : Nat) (x : Dl), st.ds[i]? = some x → 0 < x.length → st.ns[cur pre x]? = some (.text (reps x.length 42))
  sep : ∀ (i j : Nat) (x y : Dl), i < j → st.ds[i]? = some x → st.ds[j]? = some y → 0 < x.length → 0 < y.length → cur pre x + 2 ≤ cur pre y
  good : Good3 line m st.ns
theorem step3 {line : Str} {m : Nat} (hm : 0 < m) {pre : Nat → Nat} {st : St} (h : Inv3 line m pre st) {op cp u : Nat} {x y : Dl} {ks : List Nd} {n1 n2 : Nd} (hop : op < cp) (hx : st.ds[op]? = some x) (hy : st.ds[cp]? = some y) (hlx : 0 < x.length) (hly : 0 < y.length)
    (h1 : st.ns[cur pre x]? = some n1) (h2 : st.ns[cur pre y]? = some n2) (hu : useLenN x y n1 n2 = some u) (hks : kidsM st.ns (cur pre x) (cur pre y) n1 n2 m = some ks) :
    ∃ st', applyM st op cp (cur pre x) (cur pre y) u ks = some st' ∧ st'.ds = dsA st.ds op cp u (cur pre y - cur pre x - 2) x y ∧ Inv3 line m (preA pre y (cur pre y - cur pre x - 2)) st' := by
  have hse := h.sep op cp x y hop hx hy hlx hly
  have hu12 := useLenN_ok hu
  obtain ⟨hux, huy⟩ := useLenN_more hu hlx hly
  have t1 := h.txt op x hx hlx
  have t2 := h.txt cp y hy hly
  obtain ⟨hc, hd⟩ := kidsM_more hks
  have hke := kidsM_ok hks
  obtain ⟨tree', nxt', e1, ok'⟩ := apply_ok (kids := ks) h.ok hop hx hy hlx hly hux huy hse t1 t2 (by rw [reps_len]; exact hux) (by rw [reps_len]; exact huy)
  refine ⟨_, e1, rfl, ok', fun i z hz hl => ?_, fun i j z w hij hz hw hl1 hl2 => ?_, ?_⟩
  · obtain ⟨z0, a1, a2, a3, a4, a5, a6, a7, a8⟩ := dsA_cur h.ok hop hx hy hly (by omega) hz hl
    have hlen := (List.getElem?_eq_some_iff.mp t1).1
    obtain ⟨p1, p2, p3⟩ := pn_mid (ns := st.ns) (oi := cur pre x) (ci := cur pre y) (u := u) (x1 := reps x.length 42) (x2 := reps y.length 42) (ks := ks) hlen
    dsimp only
    by_cases hi1 : i = op
    · subst hi1
      rw [hx] at a1; cases a1
      rw [a5 hop, a7 (.inl rfl), p1, reps_cutEnd]
    · by_cases hi2 : i = cp
      · subst hi2
        rw [hy] at a1; cases a1
        have := a6 (Nat.le_refl _)
        have e : cur (preA pre y (cur pre y - cur pre x - 2)) z = cur pre x + 2 := by omega
        rw [e, a7 (.inr rfl), p3, reps_cutFront]
      · have hzz := a8 hi1 hi2
        have tz := h.txt i z0 a1 a3
        rw [hzz]
        rw [hzz] at a5 a6
        by_cases hlt : i < op
        · have := h.sep i op z0 x hlt a1 hx a3 hlx
          rw [a5 (by omega), put_lt (by omega) hlen]; exact tz
        · by_cases hgt : cp < i
          · have := h.sep cp i y z0 hgt hy a1 hly a3
            have := a6 (by omega)
            rw [put_gt (by omega) hse hlen]
            have e : cur (preA pre y (cur pre y - cur pre x - 2)) z0 + (cur pre y - cur pre x - 2) = cur pre z0 := by omega
            rw [e]; exact tz
          · have := a4 (by omega) (by omega)
            have := h.sep op i x z0 (by omega) hx a1 hlx a3
            have := h.sep i cp z0 y (by omega) a1 hy a3 hly
            omega
  · obtain ⟨z0, a1, a2, a3, a4, a5, a6, a7, a8⟩ := dsA_cur h.ok hop hx hy hly (by omega) hz hl1
    obtain ⟨w0, b1, b2, b3, b4, b5, b6, b7, b8⟩ := dsA_cur h.ok hop hx hy hly (by omega) hw hl2
    have s0 := h.sep i j z0 w0 hij a1 b1 a3 b3
    by_cases hj : j < cp
    · have := b5 hj; have := a5 (by omega); omega
    · have := b6 (by omega)
      by_cases hi : i < cp
      · have := a5 hi
        have hw : cur pre y ≤ cur pre w0 := by
          by_cases e : j = cp
          · subst e; rw [hy] at b1; cases b1; exact Nat.le_refl _
          · have := h.sep cp j y w0 (by omega) hy b1 hly b3; omega
        by_cases hio : i ≤ op
        · have hz : cur pre z0 ≤ cur pre x := by
            by_cases e : i = op
            · subst e; rw [hx] at a1; cases a1; exact Nat.le_refl _
            · have := h.sep i op z0 x (by omega) a1 hx a3 hlx; omega
          omega
        · have := a4 (by omega) hi
          omega
      · have := a6 (by omega); omega
  · have hg := h.good
    subst hke
    refine ⟨?_, put_depth hg.dep (hd hm), put_whole hg.who (mid_of (P := wholeL) who_take hg.who _ _) hc, put_ty hg.tys (mid_of (P := tyL) ty_take hg.tys _ _)⟩
    dsimp only
    rw [put_flat t1 t2 (by omega) ?_ ?_]
    · exact hg.flat
    · rw [reps_cutEnd, mark_reps hu12, reps_add]; congr 1; omega
    · rw [reps_cutFront, mark_reps hu12, reps_add]; congr 1; omega
theorem findOp_ok {ds : List Dl} {c : Dl} {ob : Nat} : ∀ {k op : Nat}, findOp ds c ob k = some op → op < k ∧ ∃ x, ds[op]? = some x ∧ okOpener c x = true
  | 0, op, h => by unfold findOp at h; cases h
  | k + 1, op, h => by
    unfold findOp at h
    split at h
    · cases h
    · split at h
      · rename_i x hx
        split at h
        · rename_i ho
          cases h
          exact ⟨by omega, x, hx, ho⟩
        · obtain ⟨a, b⟩ := findOp_ok h
          exact ⟨by omega, b⟩
      · cases h
theorem proc3 {line : Str} {m : Nat} (hm : 0 < m) : ∀ f {pre : Nat → Nat} {st : St} {cp : Nat} {bots : List (BKey × Nat)}, Inv3 line m pre st → total st.ds * (st.ds.length + 1) + (st.ds.length - cp) < f → ∃ ns, procM m f st cp bots = some ns ∧ Good3 line m ns
  | 0, pre, st, cp, bots, _, hf => by omega
  | f + 1, pre, st, cp, bots, h, hf => by
    rw [procM]
    cases hy : st.ds[cp]? with
    | none => exact ⟨st.ns, rfl, h.good⟩
    | some y =>
      have hcp := (List.getElem?_eq_some_iff.mp hy).1
      dsimp only
      by_cases hc : (!y.cc || decide (y.length = 0)) = true
      · rw [if_pos hc]
        exact proc3 hm f h (by omega)
      · rw [if_neg hc]
        have hly : 0 < y.length := by
          simp at hc; omega
        cases hf1 : findOp st.ds y (botsAt bots (keyOf y)) cp with
        | none => exact proc3 hm f h (by omega)
        | some op =>
          obtain ⟨hop, x, hx, hox⟩ := findOp_ok hf1
          have hlx : 0 < x.length := by
            unfold okOpener at hox
            simp at hox
            exact hox.1.2
          dsimp only
          rw [hx]
          dsimp only
          rw [h.ok.curM hx hlx, h.ok.curM hy hly]
          dsimp only
          have t1 := h.txt op x hx hlx
          have t2 := h.txt cp y hy hly
          have hse := h.sep op cp x y hop hx hy hlx hly
          rw [t1, t2]
          dsimp only
          rw [if_pos (by omega)]
          split
          · rename_i u ks hu hks
            obtain ⟨st', e1, e2, inv'⟩ := step3 hm h hop hx hy hlx hly t1 t2 hu hks
            rw [e1]
            dsimp only
            have htot := dsA_total (k := cur pre y - cur pre x - 2) (y := y) hop hx hy hlx (u := u) (by rcases useLenN_ok hu with h | h <;> omega)
            rw [← e2] at htot
            have hlen : st'.ds.length = st.ds.length := by rw [e2, dsA_len]
            obtain ⟨x', hx'⟩ : ∃ x', st'.ds[op]? = some x' := ⟨_, List.getElem?_eq_getElem (by omega)⟩
            obtain ⟨y', hy'⟩ : ∃ y', st'.ds[cp]? = some y' := ⟨_, List.getElem?_eq_getElem (by omega)⟩
            rw [hx', hy']
            dsimp only
            have hmul : total st'.ds * (st.ds.length + 1) + (st.ds.length + 1) ≤ total st.ds * (st.ds.length + 1) := by
              have := Nat.mul_le_mul_right (st.ds.length + 1) (show total st'.ds + 1 ≤ total st.ds by omega)
              rw [Nat.add_mul, Nat.one_mul] at this
              exact this
            split
            · exact proc3 hm f inv' (by rw [hlen]; omega)
            · exact proc3 hm f inv' (by rw [hlen]; omega)
          · exact proc3 hm f h (by omega)
end Mine
namespace Mine
theorem take_tw {α : Type} (p : α → Bool) : ∀ l : List α, l.take (l.takeWhile p).length = l.takeWhile p
  | [] => rfl
  | a :: l => by
    by_cases h : p a = true
    · simp [h, take_tw p l]
    · simp [h]
theorem tw_eq (c : Nat) : ∀ l : List Nat, l.takeWhile (fun x => x == c) = List.replicate (l.takeWhile (fun x => x == c)).length c
  | [] => rfl
  | a :: l => by
    by_cases h : (a == c) = true
    · simp only [List.takeWhile_cons, h, if_true, List.length_cons, List.replicate_succ]
      rw [← tw_eq c l, eq_of_beq h]
    · simp [h]
theorem tw_next {α : Type} (p : α → Bool) : ∀ (l : List α) {a : α}, l[(l.takeWhile p).length]? = some a → p a = false
  | [], a, h => by simp at h
  | b :: l, a, h => by
    by_cases hb : p b = true
    · simp [hb] at h
      exact tw_next p l h
    · simp [hb] at h
      subst h; simpa using hb
/-- what the cutting keeps -/
structure SI (t : List Nat) (pos : Nat) (ns : List Nd) (ds : List Dl) : Prop where
  le : pos ≤ t.length
  flat : flatL ns = strOf (t.take pos)
  tx : ∀ n ∈ ns, n.isText = true
  dl : ∀ (i : Nat) (x : Dl), ds[i]? = some x → x.order = i ∧ x.index < ns.length ∧ 0 < x.length ∧ x.orig = x.length ∧ ∃ c, c ∈ t ∧ isSign c = true ∧ x.marker = chS c ∧ ns[x.index]? = some (.text (reps x.length c))
  inc : ∀ (i j : Nat) (x y : Dl), i < j → ds[i]? = some x → ds[j]? = some y → x.index < y.index
  gap : ∀ (i j : Nat) (x y : Dl), i < j → ds[i]? = some x → ds[j]? = some y → x.marker = y.marker → x.index + 2 ≤ y.index
  last : ∀ (i : Nat) (x : Dl), ds[i]? = some x → x.index + 2 ≤ ns.length ∨ ∀ c, t[pos]? = some c → x.marker ≠ chS c
theorem SI.push {t : List Nat} {pos n : Nat} {ns : List Nd} {ds : List Dl} (s : SI t pos ns ds) (h0 : 0 < n) (h1 : pos + n ≤ t.length) : SI t (pos + n) (ns ++ [.text (strOf ((t.drop pos).take n))]) ds := by
  refine ⟨h1, ?_, fun m hm => ?_, fun i x hx => ?_, s.inc, s.gap, fun i x hx => ?_⟩
  · rw [flatL_append, s.flat, flatL, flatL, flatN, str_app_empty, strOf_append]
    congr 1
    rw [List.take_add]
  · rcases List.mem_append.mp hm with h | h
    · exact s.tx m h
    · simp at h; subst h; rfl
  · obtain ⟨a1, a2, a3, a4, c, a5, a6, a7, a8⟩ := s.dl i x hx
    exact ⟨a1, by simp; omega, a3, a4, c, a5, a6, a7, by rw [List.getElem?_append_left a2]; exact a8⟩
  · obtain ⟨a1, a2, _⟩ := s.dl i x hx
    exact .inl (by simp; omega)
theorem splitM_ok {t : List Nat} : ∀ f pos {ns : List Nd} {ds : List Dl}, SI t pos ns ds → t.length - pos < f → ∃ ns' ds', splitM t 0 t f pos ns ds = some (ns', ds') ∧ SI t t.length ns' ds'
  | 0, pos, ns, ds, s, hf => by omega
  | f + 1, pos, ns, ds, s, hf => by
    unfold splitM
    cases hc : t[pos]? with
    | none =>
      have h1 := List.getElem?_eq_none_iff.mp hc
      have h2 := s.le
      have : pos = t.length := by omega
      subst this
      exact ⟨ns, ds, rfl, s⟩
    | some c =>
      have hlt := (List.getElem?_eq_some_iff.mp hc).1
      dsimp only
      by_cases hs : isSign c = true
      · rw [if_neg (by simp [hs])]
        have h1 := run_le t (fun x => x == c) pos s.le
        have h2 := run_pos t (fun x => x == c) pos hc (by simp)
        have htk := take_tw (fun x => x == c) (t.drop pos)
        have hrep := tw_eq c (t.drop pos)
        have hnx := fun a => tw_next (fun x => x == c) (t.drop pos) (a := a)
        have s2 := s.push h2 h1
        generalize hn : ((t.drop pos).takeWhile fun x => x == c).length = n at *
        have htxt : strOf ((t.drop pos).take n) = reps n c := by
          unfold reps; rw [htk, hrep]
        have hnext : ∀ a, t[pos + n]? = some a → a ≠ c := by
          intro a ha e
          have := hnx a (by rw [List.getElem?_drop]; exact ha)
          simp [e] at this
        rw [htxt] at s2 ⊢
        split
        · rename_i hcc
          refine splitM_ok f _ ⟨s2.le, s2.flat, s2.tx, fun i x hx => ?_, fun i j x y hij hx hy => ?_, fun i j x y hij hx hy hm => ?_, fun i x hx => ?_⟩ (by omega)
          · by_cases hi : i < ds.length
            · rw [List.getElem?_append_left hi] at hx
              exact s2.dl i x hx
            · have hi2 : i = ds.length := by
                have := (List.getElem?_eq_some_iff.mp hx).1
                simp at this; omega
              subst hi2
              simp at hx
              subst hx
              exact ⟨rfl, by simp, h2, rfl, c, List.mem_of_getElem? hc, hs, rfl, by simp⟩
          · have hi : i < ds.length := by
              have := (List.getElem?_eq_some_iff.mp hy).1
              simp at this; omega
            rw [List.getElem?_append_left hi] at hx
            by_cases hj : j < ds.length
            · rw [List.getElem?_append_left hj] at hy
              exact s2.inc i j x y hij hx hy
            · have hj2 : j = ds.length := by
                have := (List.getElem?_eq_some_iff.mp hy).1
                simp at this; omega
              subst hj2
              simp at hy
              subst hy
              exact (s.dl i x hx).2.1
          · have hi : i < ds.length := by
              have := (List.getElem?_eq_some_iff.mp hy).1
              simp at this; omega
            rw [List.getElem?_append_left hi] at hx
            by_cases hj : j < ds.length
            · rw [List.getElem?_append_left hj] at hy
              exact s2.gap i j x y hij hx hy hm
            · have hj2 : j = ds.length := by
                have := (List.getElem?_eq_some_iff.mp hy).1
                simp at this; omega
              subst hj2
              simp at hy
              subst hy
              rcases s.last i x hx with h | h
              · exact h
              · exact absurd hm (h c hc)
          · by_cases hi : i < ds.length
            · rw [List.getElem?_append_left hi] at hx
              exact s2.last i x hx
            · have hi2 : i = ds.length := by
                have := (List.getElem?_eq_some_iff.mp hx).1
                simp at this; omega
              subst hi2
              simp at hx
              subst hx
              exact .inr fun a ha e => hnext a ha (chS_inj.mp e).symm
        · exact splitM_ok f _ s2 (by omega)
      · rw [if_pos (by simpa using hs)]
        have hs' : (!isSign c) = true := by simpa using hs
        have h1 := run_le t (fun x => !isSign x) pos s.le
        have h2 := run_pos t (fun x => !isSign x) pos hc hs'
        exact splitM_ok f _ (s.push h2 h1) (by omega)
theorem SI.start (t : List Nat) : SI t 0 [] [] := ⟨Nat.zero_le _, by simp [flatL, strOf_nil], by simp, by simp, by simp, by simp, by simp⟩
theorem text_facts : ∀ {ns : List Nd}, (∀ n ∈ ns, n.isText = true) → depthL ns = 0 ∧ wholeL ns = true ∧ tyL ns = true
  | [], _ => ⟨rfl, rfl, rfl⟩
  | n :: r, h => by
    obtain ⟨a, b, c⟩ := text_facts (ns := r) fun m hm => h m (by simp [hm])
    have := h n (by simp)
    cases n with
    | text x => simp only [depthL, depthN, wholeL, wholeN, tyL, tyN, a, b, c]; simp
    | node ty ks => simp [Nd.isText] at this
theorem start_ok {t : List Nat} {ns : List Nd} {ds : List Dl} (s : SI t t.length ns ds) (hl : ns.length ≤ 64) : StOk (fun _ => 0) (start ns ds) := by
  refine ⟨fen_start _ (by omega), ⟨by simp [start], fun i hi => ⟨i, ?_, Nat.le_refl _, hi, fun k h1 h2 => by omega⟩⟩, fun i x hx => (s.dl i x hx).1, s.inc, fun i x hx => ?_, fun _ _ _ _ => Nat.zero_le _, fun i j x y hij hx hy _ _ => ?_⟩
  · have hi' : i ≤ ds.length := hi
    show (List.range (ds.length + 1))[i]? = some i
    rw [List.getElem?_range (by omega)]
  · have := (s.dl i x hx).2.1
    simp [start]; omega
  · have := s.inc i j x y hij hx hy
    simpa [cur] using this
theorem inv3_start {t : List Nat} {ns : List Nd} {ds : List Dl} {m : Nat} (s : SI t t.length ns ds) (hl : ns.length ≤ 64) (ht : ∀ c ∈ t, isSign c = true → c = 42) : Inv3 (strOf t) m (fun _ => 0) (start ns ds) := by
  obtain ⟨d1, d2, d3⟩ := text_facts s.tx
  have mk : ∀ (i : Nat) (x : Dl), ds[i]? = some x → x.marker = chS 42 := fun i x hx => by
    obtain ⟨_, _, _, _, c, h1, h2, h3, _⟩ := s.dl i x hx
    rw [h3, ht c h1 h2]
  refine ⟨start_ok s hl, fun i x hx _ => ?_, fun i j x y hij hx hy _ _ => ?_, ⟨by rw [show (start ns ds).ns = ns from rfl, s.flat, List.take_length], by rw [show (start ns ds).ns = ns from rfl, d1]; omega, d2, d3⟩⟩
  · obtain ⟨_, _, _, _, c, h1, h2, h3, h4⟩ := s.dl i x hx
    have := ht c h1 h2
    subst this
    show ns[x.index - 0]? = _
    exact h4
  · have := s.gap i j x y hij hx hy (by rw [mk i x hx, mk j y hy])
    simpa [cur] using this
end Mine
namespace Mine
theorem join_snoc (x : Str) : ∀ l : List Str, Str.join (Str.ofString "") (l ++ [x]) = Str.join (Str.ofString "") l ++ x
  | [] => by show x = Str.ofString "" ++ x; rw [str_empty_app]
  | [a] => by show a ++ Str.ofString "" ++ x = a ++ x; rw [str_app_empty]
  | a :: b :: r => by
    have ih := join_snoc x (b :: r)
    show a ++ Str.ofString "" ++ Str.join (Str.ofString "") (b :: (r ++ [x])) = a ++ Str.ofString "" ++ Str.join (Str.ofString "") (b :: r) ++ x
    rw [show b :: (r ++ [x]) = (b :: r) ++ [x] from rfl, ih, str_assoc (a ++ Str.ofString "")]
theorem join_len : ∀ l : List Str, (Str.join (Str.ofString "") l).length = (l.map (·.length)).sum
  | [] => by show (Str.ofString "").length = 0; decide
  | [a] => by show a.length = _; simp
  | a :: b :: r => by
    have ih := join_len (b :: r)
    have e0 : (Str.ofString "").length = 0 := by decide
    show (a ++ Str.ofString "" ++ Str.join (Str.ofString "") (b :: r)).length = _
    rw [str_len_app, str_len_app, ih, e0]
    simp only [List.map_cons, List.sum_cons]
    omega
def wtC (l : List Str) : Nat := (l.map (·.length)).sum + l.length
theorem flush_flat (l : List Str) : flatL (flushM l) = Str.join (Str.ofString "") l := by
  unfold flushM
  split
  · rename_i h; subst h; rfl
  · rw [flatL, flatL, flatN, str_app_empty]
theorem flush_wt (l : List Str) : wtL (flushM l) ≤ wtC l := by
  unfold flushM
  split
  · simp [wtL]
  · rename_i h
    have : 0 < l.length := List.length_pos_iff.mpr h
    simp only [wtL, wtN, join_len, wtC]; omega
theorem flush_facts (l : List Str) : depthL (flushM l) = 0 ∧ wholeL (flushM l) = true ∧ tyL (flushM l) = true := by
  refine text_facts fun n hn => ?_
  unfold flushM at hn
  split at hn
  · simp at hn
  · simp at hn; subst hn; rfl
theorem merge_ok : ∀ (ns : List Nd) (l : List Str), flatL (mergeM ns l) = Str.join (Str.ofString "") l ++ flatL ns ∧ depthL (mergeM ns l) = depthL ns ∧ wholeL (mergeM ns l) = wholeL ns ∧ tyL (mergeM ns l) = tyL ns ∧ wtL (mergeM ns l) ≤ wtC l + wtL ns
  | [], l => by
    obtain ⟨a, b, c⟩ := flush_facts l
    have := flush_wt l
    simp only [mergeM]
    refine ⟨by rw [flush_flat, flatL, str_app_empty], by rw [a]; rfl, by rw [b]; rfl, by rw [c]; rfl, by omega⟩
  | .text x :: r, l => by
    rw [mergeM]
    by_cases h : x = Str.ofString ""
    · rw [if_pos h]
      obtain ⟨a, b, c, d, e⟩ := merge_ok r l
      subst h
      refine ⟨by rw [a, flatL, flatN, str_empty_app], by rw [b, depthL, depthN]; omega, by rw [c, wholeL, wholeN, Bool.true_and], by rw [d, tyL, tyN, Bool.true_and], ?_⟩
      simp only [wtL, wtN]; omega
    · rw [if_neg h]
      obtain ⟨a, b, c, d, e⟩ := merge_ok r (l ++ [x])
      refine ⟨by rw [a, flatL, flatN, join_snoc, str_assoc], by rw [b, depthL, depthN]; omega, by rw [c, wholeL, wholeN, Bool.true_and], by rw [d, tyL, tyN, Bool.true_and], ?_⟩
      simp only [wtL, wtN, wtC, List.map_append, List.sum_append, List.map_cons, List.map_nil, List.sum_cons, List.sum_nil, List.length_append, List.length_cons, List.length_nil] at *
      omega
  | .node ty ks :: r, l => by
    rw [mergeM]
    obtain ⟨a, b, c, d, e⟩ := merge_ok r []
    obtain ⟨f1, f2, f3⟩ := flush_facts l
    have := flush_wt l
    have j0 : Str.join (Str.ofString "") [] = Str.ofString "" := rfl
    refine ⟨?_, ?_, ?_, ?_, ?_⟩
    · rw [flatL_append, flush_flat]
      show _ ++ (flatN (.node ty ks) ++ flatL (mergeM r [])) = _ ++ (flatN (.node ty ks) ++ flatL r)
      rw [a, j0, str_empty_app]
    · rw [depthL_append, f1, depthL, depthL, b]; omega
    · rw [wholeL_append, f2, wholeL, wholeL, c, Bool.true_and]
    · rw [tyL_append, f3, tyL, tyL, d, Bool.true_and]
    · rw [wtL_append, wtL, wtL]
      have : wtC [] = 0 := rfl
      omega
theorem merge_good {line : Str} {m : Nat} {ns : List Nd} (g : Good3 line m ns) : Good3 line m (mergeM ns []) ∧ wtL (mergeM ns []) ≤ wtL ns := by
  obtain ⟨a, b, c, d, e⟩ := merge_ok ns []
  have j0 : Str.join (Str.ofString "") [] = Str.ofString "" := rfl
  have : wtC [] = 0 := rfl
  exact ⟨⟨by rw [a, j0, str_empty_app]; exact g.flat, by rw [b]; exact g.dep, by rw [c]; exact g.who, by rw [d]; exact g.tys⟩, by omega⟩
/-! the dense road -/
theorem dense_pairs {ns : List Nd} {ds : List Dl} (hd : ∀ (k : Nat) (x : Dl), ds[k]? = some x → x.index = 2 * k ∧ ns[2 * k]? = some (.text (reps 1 42))) (ht : ∀ n ∈ ns, n.isText = true) :
    ∀ (n p : Nat) {a : List Nd}, densePairs ns ds p n = some a → flatL (a ++ ns.drop (4 * (p + n) - 1)) = flatL (ns.drop (4 * p - 1)) ∧ wtL (a ++ ns.drop (4 * (p + n) - 1)) ≤ wtL (ns.drop (4 * p - 1)) ∧ depthL a ≤ 1 ∧ wholeL a = true ∧ tyL a = true
  | 0, p, a, h => by
    unfold densePairs at h; cases h
    simp [depthL, wholeL, tyL]
  | n + 1, p, a, h => by
    rw [densePairs_step] at h
    split at h
    · rename_i a1 b1 h1 h2
      cases h
      obtain ⟨i1, i2, i3, i4, i5⟩ := dense_pairs hd ht n (p + 1) h2
      rw [show p + 1 + n = p + (n + 1) by omega] at i1 i2
      have key : flatL a1 ++ flatL (ns.drop (4 * (p + 1) - 1)) = flatL (ns.drop (4 * p - 1)) ∧ wtL a1 + wtL (ns.drop (4 * (p + 1) - 1)) ≤ wtL (ns.drop (4 * p - 1)) ∧ depthL a1 ≤ 1 ∧ wholeL a1 = true ∧ tyL a1 = true := by
        unfold densePair at h1
        split at h1
        · rename_i x y hx hy
          obtain ⟨x1, x2⟩ := hd _ _ hx
          obtain ⟨y1, y2⟩ := hd _ _ hy
          split at h1
          · rename_i hc
            simp only [Bool.and_eq_true] at hc
            have hcon := hc.2
            rw [x1, y1] at hcon
            rw [x1] at h1
            rw [show 2 * (2 * p + 1) - (2 * (2 * p) + 1) = 1 by omega] at hcon
            rw [show 2 * (2 * p) = 4 * p by omega] at h1 hcon x2
            rw [show 2 * (2 * p + 1) = 4 * p + 2 by omega] at y2
            split at h1
            · rename_i k hk
              have hkt := ht k (List.mem_of_getElem? hk)
              rw [drop_at hk] at hcon
              have hcon' : [k].any Nd.content = true := hcon
              obtain ⟨f1, f2, f3⟩ := text_facts (ns := [k]) (by simpa using hkt)
              have hpos := flat_ne hcon'
              have hne : (flatL [k] != Str.ofString "") = true := by
                simp only [bne_iff_ne, ne_eq]
                intro e
                rw [e] at hpos
                have : (Str.ofString "").length = 0 := by decide
                omega
              have d1 := drop_at x2
              have d2 := drop_at hk
              have d3 := drop_at y2
              rw [show 4 * p + 2 + 1 = 4 * (p + 1) - 1 by omega] at d3
              rw [d2, d3] at d1
              have mk : markOf (Str.ofString "emphasis") = reps 1 42 := by decide
              have fl : flatL (ns.drop (4 * p)) = flatN (.node (Str.ofString "emphasis") [k]) ++ flatL (ns.drop (4 * (p + 1) - 1)) := by
                rw [d1]
                show reps 1 42 ++ (flatN k ++ (reps 1 42 ++ flatL (ns.drop (4 * (p + 1) - 1)))) = (markOf (Str.ofString "emphasis") ++ (flatN k ++ Str.ofString "") ++ markOf (Str.ofString "emphasis")) ++ _
                rw [mk, str_app_empty]
                simp only [str_assoc]
              have wl : wtL (ns.drop (4 * p)) = wtN k + 4 + wtL (ns.drop (4 * (p + 1) - 1)) := by
                rw [d1]
                simp only [wtL, wtN, reps_len]; omega
              have facts : depthN (.node (Str.ofString "emphasis") [k]) = 1 ∧ wholeN (.node (Str.ofString "emphasis") [k]) = true ∧ tyN (.node (Str.ofString "emphasis") [k]) = true := by
                refine ⟨by rw [depthN, f1], by rw [wholeN, f2, hne]; rfl, by rw [tyN, f3]; decide⟩
              obtain ⟨g1, g2, g3⟩ := facts
              split at h1
              · rename_i hp0
                cases h1
                subst hp0
                refine ⟨?_, ?_, ?_, ?_, ?_⟩
                · rw [flatL, flatL, str_app_empty]; exact fl.symm
                · have : wtL (ns.drop (4 * 0 - 1)) = _ := wl
                  simp only [wtL, wtN] at *; omega
                · simp only [depthL, g1]; omega
                · simp only [wholeL, g2]; rfl
                · simp only [tyL, g3]; rfl
              · rename_i hp0
                split at h1
                · rename_i b hb
                  cases h1
                  have hbt := ht b (List.mem_of_getElem? hb)
                  obtain ⟨e1, e2, e3⟩ := text_facts (ns := [b]) (by simpa using hbt)
                  have d0 := drop_at hb
                  rw [show 4 * p - 1 + 1 = 4 * p by omega] at d0
                  have ew : wholeN b = true := by simpa [wholeL] using e2
                  have et : tyN b = true := by simpa [tyL] using e3
                  have ed : depthN b = 0 := by simp [depthL] at e1; exact e1
                  refine ⟨?_, ?_, ?_, ?_, ?_⟩
                  · rw [d0]
                    show flatN b ++ (flatN (.node (Str.ofString "emphasis") [k]) ++ Str.ofString "") ++ _ = flatN b ++ flatL (ns.drop (4 * p))
                    rw [fl, str_app_empty, str_assoc]
                  · rw [d0]
                    simp only [wtL, wtN] at *; omega
                  · simp only [depthL, g1, ed]; omega
                  · simp only [wholeL, g2, ew]; rfl
                  · simp only [tyL, g3, et]; rfl
                · cases h1
            · cases h1
          · cases h1
        · cases h1
      obtain ⟨k1, k2, k3, k4, k5⟩ := key
      refine ⟨?_, ?_, ?_, ?_, ?_⟩
      · rw [List.append_assoc, flatL_append, i1]; exact k1
      · rw [List.append_assoc, wtL_append]; omega
      · rw [depthL_append]; omega
      · rw [wholeL_append, k4, i4]; rfl
      · rw [tyL_append, k5, i5]; rfl
    · cases h
theorem denseOk_len {ns : List Nd} {m : Str} : ∀ {ds : List Dl} {i : Nat}, denseOk ns m i ds = true → ∀ {k : Nat} {x}, ds[k]? = some x → x.length = 1
  | [], i, _, k, x, h => by simp at h
  | y :: r, i, hd, 0, x, h => by
    simp at h; subst h
    unfold denseOk at hd
    simp only [Bool.and_eq_true, decide_eq_true_eq, beq_iff_eq] at hd
    exact hd.1.1.1.2
  | y :: r, i, hd, k + 1, x, h => by
    unfold denseOk at hd
    simp only [Bool.and_eq_true] at hd
    exact denseOk_len hd.2 (by simpa using h)
theorem dense_good {line : Str} {m : Nat} (hm : 0 < m) {ns ns' : List Nd} {ds : List Dl} (ht : ∀ n ∈ ns, n.isText = true) (hf : flatL ns = line) (hx : ∀ (i : Nat) (x : Dl), ds[i]? = some x → ns[x.index]? = some (.text (reps x.length 42))) (h : denseM ns ds = some ns') : Good3 line m ns' ∧ wtL ns' ≤ wtL ns := by
  unfold denseM at h
  split at h
  · cases h
  · rename_i x r
    split at h
    · rename_i hc
      obtain ⟨h4, hmk, hln, hok⟩ := hc
      obtain ⟨a, ha, he⟩ := Option.map_eq_some_iff.mp h
      subst he
      have hd : ∀ (k : Nat) (y : Dl), (x :: r)[k]? = some y → y.index = 2 * k ∧ ns[2 * k]? = some (.text (reps 1 42)) := by
        intro k y hy
        have e1 := (denseOk_get hok hy).2
        have e2 := denseOk_len hok hy
        have e3 := hx k y hy
        rw [Nat.zero_add] at e1
        rw [e1, e2] at e3
        exact ⟨e1, e3⟩
      obtain ⟨k1, k2, k3, k4, k5⟩ := dense_pairs hd ht _ _ ha
      simp only [Nat.zero_add, Nat.mul_zero, Nat.zero_sub, List.drop_zero] at k1 k2
      obtain ⟨g1, g2, g3⟩ := text_facts (ns := ns.drop (4 * ((x :: r).length / 2) - 1)) fun n hn => ht n (List.mem_of_mem_drop hn)
      exact ⟨⟨k1.trans hf, by rw [depthL_append]; omega, by rw [wholeL_append, k4, g2]; rfl, by rw [tyL_append, k5, g3]; rfl⟩, k2⟩
    · cases h
theorem sign_star {c : Nat} (h : c ∈ signL) (hs : isSign c = true) : c = 42 := by
  simp [signL] at h
  unfold isSign at hs
  simp at hs
  omega
theorem plain03 : Plain03 := by
  intro l m hc hl hm
  unfold finM
  have hcps : (strOf l).cps.toList = l := by simp [strOf]
  have hlen := strOf_len l
  cases hs : hasSign (strOf l) with
  | false =>
    refine ⟨0, _, rfl, by rw [flatL, flatL, flatN, str_app_empty], by simp [depthL, depthN], by simp [wholeL, wholeN], by simp [tyL, tyN], ?_⟩
    simp only [wtL, wtN, hlen]; omega
  | true =>
    rw [hcps, hlen]
    obtain ⟨ns, ds, e1, si⟩ := splitM_ok (t := l) (l.length + 1) 0 (.start l) (by omega)
    have sg := splitM_good (l.length + 1) 0 (Nat.zero_le _) (⟨by simp, by simp [wtL], by simp, by simp, by simp⟩ : SG l 0 [] []) e1
    have h42 : ∀ c ∈ l, isSign c = true → c = 42 := fun c h1 h2 => sign_star (hc c h1) h2
    have hnl := sg.ln
    have hwt := sg.wt
    rw [e1]
    simp only [Bool.not_true, Bool.false_eq_true, if_false]
    cases hd : denseM ns ds with
    | some ns' =>
      obtain ⟨g, w⟩ := dense_good (line := strOf l) hm si.tx (by rw [si.flat, List.take_length]) (fun i x hx => by
        obtain ⟨_, _, _, _, c, k1, k2, k3, k4⟩ := si.dl i x hx
        rw [← h42 c k1 k2]; exact k4) hd
      obtain ⟨g2, w2⟩ := merge_good g
      exact ⟨0, _, rfl, g2.flat, g2.dep, g2.who, g2.tys, by omega⟩
    | none =>
      have inv := inv3_start (m := m) si (by omega) h42
      obtain ⟨out, e2, g⟩ := proc3 hm (total ds * (ds.length + 1) + ds.length + 1) (cp := 0) (bots := []) inv (by simp [start])
      obtain ⟨g2, w2⟩ := merge_good g
      have gl : goodL (start ns ds).ns := fun n hn c hcc => by
        have := hc c (sg.ch n hn c hcc)
        simp [signL] at this
        omega
      obtain ⟨_, w3⟩ := procM_good _ gl e2
      have : wtL (start ns ds).ns = wtL ns := rfl
      exact ⟨_, mergeM out [], by dsimp only; rw [e2]; rfl, g2.flat, g2.dep, g2.who, g2.tys, by omega⟩
end Mine
namespace Mine
theorem join_append (a : List Str) : ∀ b : List Str, Str.join (Str.ofString "") (a ++ b) = Str.join (Str.ofString "") a ++ Str.join (Str.ofString "") b := by
  have key : ∀ (b a : List Str), Str.join (Str.ofString "") (a ++ b) = Str.join (Str.ofString "") a ++ Str.join (Str.ofString "") b := by
    intro b
    induction b with
    | nil => intro a; rw [List.append_nil]; exact (str_app_empty _).symm
    | cons x r ih =>
      intro a
      rw [show a ++ x :: r = (a ++ [x]) ++ r by simp, ih (a ++ [x]), join_snoc, show x :: r = [x] ++ r from rfl, ih [x], str_assoc]
      rfl
  exact fun b => key b a
theorem join_one (x : Str) : Str.join (Str.ofString "") [x] = x := rfl
theorem join_nil : Str.join (Str.ofString "") [] = Str.ofString "" := rfl
theorem str_cancel {a b c : Str} (h : a ++ b = a ++ c) : b = c := by
  cases a with | mk a => cases b with | mk b => cases c with | mk c =>
  have h' : a ++ b = a ++ c := by
    have : (⟨a ++ b⟩ : Str) = ⟨a ++ c⟩ := h
    exact Str.mk.inj this
  have := congrArg Array.toList h'
  simp at this
  rw [this]
/-! the law's stack over single signs -/
def clsC (c : Nat) : Nat := if c = 32 then 0 else if c = 42 ∨ c = 95 ∨ c = 46 then 1 else 2
def clsZ (l : List Nat) (z : Int) : Nat := if z < 0 then 0 else clsC (l[z.toNat]?.getD 32)
def left2 (l : List Nat) (p : Nat) : Bool := clsZ l ((p : Int) + 1) == 2 || (clsZ l ((p : Int) + 1) == 1 && decide (clsZ l ((p : Int) - 1) < 2))
def right2 (l : List Nat) (p : Nat) : Bool := clsZ l ((p : Int) - 1) == 2 || (clsZ l ((p : Int) - 1) == 1 && decide (clsZ l ((p : Int) + 1) < 2))
def opens2 (l : List Nat) (p c : Nat) : Bool := left2 l p && (c == 42 || !right2 l p || clsZ l ((p : Int) - 1) == 1)
def closes2 (l : List Nat) (p c : Nat) : Bool := right2 l p && (c == 42 || !left2 l p || clsZ l ((p : Int) + 1) == 1)
def fit2 (stk : List (Nat × Nat)) (c : Nat) : List Nat := (List.range stk.length).filter fun k => stk[k]?.map (·.1) == some c
def embr (x : Str) : Str := Str.ofString "{emphasis}" ++ x ++ Str.ofString "{/emphasis}"
abbrev S2 := List Str × List (Nat × Nat)
def hit2 (l : List Nat) (p c : Nat) (stk : List (Nat × Nat)) : Option Nat := if isSign c && closes2 l p c then (fit2 stk c).getLast? else none
def step2 (l : List Nat) (p : Nat) (s : S2) : S2 := match l[p]? with
  | none => s
  | some c => match hit2 l p c s.2 with
    | some k => (s.1.take ((s.2[k]?.map (·.2)).getD 0) ++ [embr (Str.join (Str.ofString "") (s.1.drop ((s.2[k]?.map (·.2)).getD 0 + 1)))], s.2.take k)
    | none => (s.1 ++ [chS c], if isSign c && opens2 l p c then s.2 ++ [(c, s.1.length)] else s.2)
def run2 (l : List Nat) : Nat → S2
  | 0 => ([], [])
  | n + 1 => step2 l n (run2 l n)
def paired2 (l : List Nat) : Str := Str.join (Str.ofString "") (run2 l l.length).1
mutual
def shownN : Nd → Str
  | .text x => x
  | .node ty ks => Str.ofString "{" ++ ty ++ Str.ofString "}" ++ shownL ks ++ Str.ofString "{/" ++ ty ++ Str.ofString "}"
def shownL : List Nd → Str
  | [] => Str.ofString ""
  | n :: r => shownN n ++ shownL r
end
theorem shownL_append : ∀ a b, shownL (a ++ b) = shownL a ++ shownL b
  | [], b => by rw [List.nil_append, shownL, str_empty_app]
  | n :: r, b => by rw [List.cons_append, shownL, shownL, shownL_append r b, str_assoc]
theorem shown_emph (ks : List Nd) : shownN (.node (Str.ofString "emphasis") ks) = embr (shownL ks) := by
  have a : Str.ofString "{" ++ Str.ofString "emphasis" ++ Str.ofString "}" = Str.ofString "{emphasis}" := by decide
  have b : Str.ofString "{/" ++ Str.ofString "emphasis" ++ Str.ofString "}" = Str.ofString "{/emphasis}" := by decide
  rw [shownN, a]
  unfold embr
  rw [← b]
  simp only [str_assoc]
theorem shown_merge : ∀ (ns : List Nd) (l : List Str), shownL (mergeM ns l) = Str.join (Str.ofString "") l ++ shownL ns
  | [], l => by
    simp only [mergeM, shownL, str_app_empty]
    unfold flushM
    split
    · rename_i h; subst h; rfl
    · rw [shownL, shownL, shownN, str_app_empty]
  | .text x :: r, l => by
    rw [mergeM]
    by_cases h : x = Str.ofString ""
    · rw [if_pos h, shown_merge r l, shownL, shownN, h, str_empty_app]
    · rw [if_neg h, shown_merge r (l ++ [x]), join_snoc, shownL, shownN, str_assoc]
  | .node ty ks :: r, l => by
    rw [mergeM, shownL_append]
    show _ ++ (shownN (.node ty ks) ++ shownL (mergeM r [])) = _ ++ (shownN (.node ty ks) ++ shownL r)
    rw [shown_merge r [], join_nil, str_empty_app]
    congr 1
    unfold flushM
    split
    · rename_i h; subst h; rfl
    · rw [shownL, shownL, shownN, str_app_empty]
/-! runs of the law over what does nothing -/
def idle2 (l : List Nat) (p : Nat) : Prop := ∀ c, l[p]? = some c → isSign c = true → opens2 l p c = false ∧ closes2 l p c = false
theorem run2_idle {l : List Nat} {p : Nat} (h : idle2 l p) {c : Nat} (hc : l[p]? = some c) : run2 l (p + 1) = ((run2 l p).1 ++ [chS c], (run2 l p).2) := by
  rw [run2, step2, hc]
  dsimp only
  by_cases hs : isSign c = true
  · obtain ⟨h1, h2⟩ := h c hc hs
    simp [hit2, h1, h2]
  · simp [hit2, hs]
theorem run2_seg {l : List Nat} : ∀ (k a : Nat), a + k ≤ l.length → (∀ p, a ≤ p → p < a + k → idle2 l p) → run2 l (a + k) = ((run2 l a).1 ++ ((l.drop a).take k).map chS, (run2 l a).2)
  | 0, a, _, _ => by simp
  | k + 1, a, h, g => by
    have hlt : a + k < l.length := by omega
    have hc : l[a + k]? = some l[a + k] := List.getElem?_eq_getElem hlt
    rw [show a + (k + 1) = (a + k) + 1 by omega, run2_idle (g (a + k) (by omega) (by omega)) hc, run2_seg k a (by omega) (fun p h1 h2 => g p h1 (by omega))]
    have : (l.drop a).take (k + 1) = (l.drop a).take k ++ [l[a + k]] := take_at (by rw [List.getElem?_drop]; exact hc)
    rw [this]
    simp
theorem embr_pos (x : Str) : 0 < (embr x).length := by
  unfold embr
  rw [str_len_app, str_len_app]
  have : (Str.ofString "{emphasis}").length = 10 := by decide
  omega
/-- every piece holds something -/
theorem run2_pos (l : List Nat) : ∀ p, ∀ x ∈ (run2 l p).1, 0 < x.length
  | 0 => by simp [run2]
  | p + 1 => by
    have ih := run2_pos l p
    intro x hx
    rw [run2, step2] at hx
    split at hx
    · exact ih x hx
    · split at hx
      · rcases List.mem_append.mp hx with h | h
        · exact ih x (List.mem_of_mem_take h)
        · simp at h; subst h; exact embr_pos _
      · rcases List.mem_append.mp hx with h | h
        · exact ih x h
        · simp at h; subst h; show 0 < 1; omega
theorem join_pos : ∀ {l : List Str}, (∀ x ∈ l, 0 < x.length) → l ≠ [] → 0 < (Str.join (Str.ofString "") l).length
  | [], _, h => absurd rfl h
  | x :: r, h, _ => by
    rw [show x :: r = [x] ++ r from rfl, join_append, str_len_app, join_one]
    have := h x (by simp); omega
end Mine
namespace Mine
/-! the two ways to tell what opens and closes -/
def sig2 : List Nat := [97, 98, 32, 42, 95, 46]
def cls10 (a : Nat) : Nat := if a = 10 then 0 else clsC a
def leftC (a b : Nat) : Bool := b == 2 || (b == 1 && decide (a < 2))
def opensC (c a b : Nat) : Bool := leftC a b && (c == 42 || !leftC b a || a == 1)
def closesC (c a b : Nat) : Bool := leftC b a && (c == 42 || !leftC a b || b == 1)
theorem flank_tab : ∀ c ∈ [42, 95], ∀ a ∈ 10 :: sig2, ∀ b ∈ 10 :: sig2, canOpenM c a b = opensC c (cls10 a) (cls10 b) ∧ canCloseM c a b = closesC c (cls10 a) (cls10 b) := by decide +kernel
theorem prev_cls {l : List Nat} (hl : ∀ c ∈ l, c ∈ sig2) {p : Nat} (hp : p < l.length) : prevC l p ∈ 10 :: sig2 ∧ clsZ l ((p : Int) - 1) = cls10 (prevC l p) := by
  unfold prevC clsZ
  by_cases h : 0 < p
  · have hlt : p - 1 < l.length := by omega
    have e : ((p : Int) - 1).toNat = p - 1 := by omega
    rw [if_pos h, if_neg (by omega), e, List.getElem?_eq_getElem hlt]
    have hm := hl _ (List.getElem_mem hlt)
    simp only [Option.getD_some]
    refine ⟨List.mem_cons_of_mem _ hm, ?_⟩
    unfold cls10
    rw [if_neg]
    intro e10
    rw [e10] at hm
    simp [sig2] at hm
  · rw [if_neg h, if_pos (by omega)]
    exact ⟨by simp, rfl⟩
theorem next_cls {l : List Nat} (hl : ∀ c ∈ l, c ∈ sig2) (p : Nat) : nextC l (p + 1) ∈ 10 :: sig2 ∧ clsZ l ((p : Int) + 1) = cls10 (nextC l (p + 1)) := by
  unfold nextC clsZ
  have e : ((p : Int) + 1).toNat = p + 1 := by omega
  rw [if_neg (by omega), e]
  cases hc : l[p + 1]? with
  | none => exact ⟨by simp, rfl⟩
  | some b =>
    have hm := hl _ (List.mem_of_getElem? hc)
    simp only [Option.getD_some]
    refine ⟨List.mem_cons_of_mem _ hm, ?_⟩
    unfold cls10
    rw [if_neg]
    intro e10
    rw [e10] at hm
    simp [sig2] at hm
theorem flank_eq {l : List Nat} (hl : ∀ c ∈ l, c ∈ sig2) {p c : Nat} (hp : p < l.length) (hs : isSign c = true) : canOpenM c (prevC l p) (nextC l (p + 1)) = opens2 l p c ∧ canCloseM c (prevC l p) (nextC l (p + 1)) = closes2 l p c := by
  obtain ⟨a1, a2⟩ := prev_cls hl hp
  obtain ⟨b1, b2⟩ := next_cls hl p
  have hc : c ∈ [42, 95] := by unfold isSign at hs; simpa using hs
  obtain ⟨t1, t2⟩ := flank_tab c hc _ a1 _ b1
  unfold opens2 closes2 left2 right2
  rw [t1, t2, a2, b2]
  exact ⟨rfl, rfl⟩
/-! the cutting where every run is one sign -/
def oneRun (t : List Nat) : Prop := ∀ (p c : Nat), t[p]? = some c → isSign c = true → t[p + 1]? ≠ some c
structure SP (t : List Nat) (pos : Nat) (ns : List Nd) (ds : List Dl) (pl : List Nat) : Prop where
  si : SI t pos ns ds
  len : pl.length = ds.length
  dl : ∀ (i : Nat) (x : Dl), ds[i]? = some x → ∃ p c, pl[i]? = some p ∧ p < pos ∧ t[p]? = some c ∧ isSign c = true ∧ x.marker = chS c ∧ x.length = 1 ∧ x.orig = 1 ∧ x.co = opens2 t p c ∧ x.cc = closes2 t p c ∧ (x.co || x.cc) = true ∧ flatL (ns.take x.index) = strOf (t.take p)
  act : ∀ (p c : Nat), p < pos → t[p]? = some c → isSign c = true → (opens2 t p c || closes2 t p c) = true → p ∈ pl
  inc : ∀ (i j p q : Nat), i < j → pl[i]? = some p → pl[j]? = some q → p < q
theorem SP.push {t : List Nat} {pos n : Nat} {ns : List Nd} {ds : List Dl} {pl : List Nat} (s : SP t pos ns ds pl) (h0 : 0 < n) (h1 : pos + n ≤ t.length)
    (hi : ∀ p c, pos ≤ p → p < pos + n → t[p]? = some c → isSign c = true → (opens2 t p c || closes2 t p c) = false) : SP t (pos + n) (ns ++ [.text (strOf ((t.drop pos).take n))]) ds pl := by
  refine ⟨s.si.push h0 h1, s.len, fun i x hx => ?_, fun p c hp hc hs ha => ?_, s.inc⟩
  · obtain ⟨p, c, a1, a2, a3, a4, a5, a6, a7, a8, a9, a10, a11⟩ := s.dl i x hx
    have := (s.si.dl i x hx).2.1
    exact ⟨p, c, a1, by omega, a3, a4, a5, a6, a7, a8, a9, a10, by rw [List.take_append_of_le_length (by omega)]; exact a11⟩
  · by_cases hlt : p < pos
    · exact s.act p c hlt hc hs ha
    · have := hi p c (by omega) hp hc hs
      rw [this] at ha; cases ha
theorem tw_all {α : Type} (p : α → Bool) : ∀ {l : List α} {d : α}, d ∈ l.takeWhile p → p d = true
  | [], d, h => by simp at h
  | a :: l, d, h => by
    by_cases ha : p a = true
    · simp [ha] at h
      rcases h with rfl | h
      · exact ha
      · exact tw_all p h
    · simp [ha] at h
theorem splitM_one {t : List Nat} (hl : ∀ c ∈ t, c ∈ sig2) (h1 : oneRun t) : ∀ f pos {ns : List Nd} {ds : List Dl} {pl : List Nat}, SP t pos ns ds pl → t.length - pos < f → ∃ ns' ds' pl', splitM t 0 t f pos ns ds = some (ns', ds') ∧ SP t t.length ns' ds' pl'
  | 0, pos, ns, ds, pl, s, hf => by omega
  | f + 1, pos, ns, ds, pl, s, hf => by
    unfold splitM
    cases hc : t[pos]? with
    | none =>
      have h1 := List.getElem?_eq_none_iff.mp hc
      have h2 := s.si.le
      have : pos = t.length := by omega
      subst this
      exact ⟨ns, ds, pl, rfl, s⟩
    | some c =>
      have hlt := (List.getElem?_eq_some_iff.mp hc).1
      dsimp only
      by_cases hs : isSign c = true
      · rw [if_neg (by simp [hs])]
        have hn : ((t.drop pos).takeWhile fun x => x == c).length = 1 := by
          have a := run_step t (fun x => x == c) pos hc (by simp)
          have b := run_stop t (fun x => x == c) (pos + 1) (fun d hd => by
            have := h1 pos c hc hs
            rw [hd] at this
            simpa using this)
          omega
        obtain ⟨f1, f2⟩ := flank_eq hl hlt hs
        rw [hn, Nat.zero_add, f1, f2]
        have htxt : (t.drop pos).take 1 = [c] := by rw [drop_at hc]; rfl
        by_cases ha : (opens2 t pos c || closes2 t pos c) = true
        · rw [if_pos ha]
          refine splitM_one hl h1 f _ (pl := pl ++ [pos]) ⟨?_, by simp [s.len], fun i x hx => ?_, fun p d hp hd hsd had => ?_, fun i j p q hij hp hq => ?_⟩ (by omega)
          · -- the old facts
            have hsi := s.si.push (n := 1) (by omega) (by omega)
            rw [htxt] at hsi ⊢
            have hrep : strOf [c] = reps 1 c := rfl
            refine ⟨hsi.le, hsi.flat, hsi.tx, fun i x hx => ?_, fun i j x y hij hx hy => ?_, fun i j x y hij hx hy hm => ?_, fun i x hx => ?_⟩
            · by_cases hi : i < ds.length
              · rw [List.getElem?_append_left hi] at hx
                exact hsi.dl i x hx
              · have hi2 : i = ds.length := by
                  have := (List.getElem?_eq_some_iff.mp hx).1
                  simp at this; omega
                subst hi2
                simp at hx
                subst hx
                exact ⟨rfl, by simp, by simp, rfl, c, List.mem_of_getElem? hc, hs, rfl, by simp [hrep]⟩
            · have hi : i < ds.length := by
                have := (List.getElem?_eq_some_iff.mp hy).1
                simp at this; omega
              rw [List.getElem?_append_left hi] at hx
              by_cases hj : j < ds.length
              · rw [List.getElem?_append_left hj] at hy
                exact hsi.inc i j x y hij hx hy
              · have hj2 : j = ds.length := by
                  have := (List.getElem?_eq_some_iff.mp hy).1
                  simp at this; omega
                subst hj2
                simp at hy
                subst hy
                exact (s.si.dl i x hx).2.1
            · have hi : i < ds.length := by
                have := (List.getElem?_eq_some_iff.mp hy).1
                simp at this; omega
              rw [List.getElem?_append_left hi] at hx
              by_cases hj : j < ds.length
              · rw [List.getElem?_append_left hj] at hy
                exact hsi.gap i j x y hij hx hy hm
              · have hj2 : j = ds.length := by
                  have := (List.getElem?_eq_some_iff.mp hy).1
                  simp at this; omega
                subst hj2
                simp at hy
                subst hy
                rcases s.si.last i x hx with h | h
                · exact h
                · exact absurd hm (h c hc)
            · by_cases hi : i < ds.length
              · rw [List.getElem?_append_left hi] at hx
                exact hsi.last i x hx
              · have hi2 : i = ds.length := by
                  have := (List.getElem?_eq_some_iff.mp hx).1
                  simp at this; omega
                subst hi2
                simp at hx
                subst hx
                refine .inr fun a ha e => ?_
                have := h1 pos c hc hs
                rw [ha] at this
                exact this (by rw [chS_inj.mp e])
          · by_cases hi : i < ds.length
            · rw [List.getElem?_append_left hi] at hx
              obtain ⟨p, c, a1, a2, a3, a4, a5, a6, a7, a8, a9, a10, a11⟩ := s.dl i x hx
              have := (s.si.dl i x hx).2.1
              exact ⟨p, c, by rw [List.getElem?_append_left (by rw [s.len]; exact hi)]; exact a1, by omega, a3, a4, a5, a6, a7, a8, a9, a10, by rw [List.take_append_of_le_length (by omega)]; exact a11⟩
            · have hi2 : i = ds.length := by
                have := (List.getElem?_eq_some_iff.mp hx).1
                simp at this; omega
              subst hi2
              simp at hx
              subst hx
              refine ⟨pos, c, ?_, by omega, hc, hs, rfl, rfl, rfl, rfl, rfl, ha, ?_⟩
              · rw [List.getElem?_append_right (by rw [s.len]; exact Nat.le_refl _), s.len]; simp
              · rw [List.take_append_of_le_length (Nat.le_refl _), List.take_length]; exact s.si.flat
          · by_cases hlt2 : p < pos
            · exact List.mem_append_left _ (s.act p d hlt2 hd hsd had)
            · exact List.mem_append_right _ (by simp; omega)
          · by_cases hj : j < pl.length
            · rw [List.getElem?_append_left hj] at hq
              rw [List.getElem?_append_left (by omega)] at hp
              exact s.inc i j p q hij hp hq
            · have hj2 : j = pl.length := by
                have := (List.getElem?_eq_some_iff.mp hq).1
                simp at this; omega
              subst hj2
              simp at hq
              subst hq
              rw [List.getElem?_append_left hij] at hp
              have hi : i < ds.length := by rw [← s.len]; exact hij
              obtain ⟨p', c', a1, a2, _⟩ := s.dl i _ (List.getElem?_eq_getElem hi)
              rw [hp] at a1; cases a1
              exact a2
        · rw [if_neg ha]
          refine splitM_one hl h1 f _ (s.push (n := 1) (by omega) (by omega) fun p d h1 h2 hd hsd => ?_) (by omega)
          have : p = pos := by omega
          subst this
          rw [hc] at hd; cases hd
          simpa using ha
      · rw [if_pos (by simpa using hs)]
        have hs' : (!isSign c) = true := by simpa using hs
        have r1 := run_le t (fun x => !isSign x) pos s.si.le
        have r2 := run_pos t (fun x => !isSign x) pos hc hs'
        refine splitM_one hl h1 f _ (s.push r2 r1 fun p d h1 h2 hd hsd => ?_) (by omega)
        have htk := take_tw (fun x => !isSign x) (t.drop pos)
        have hmem : d ∈ (t.drop pos).takeWhile fun x => !isSign x := by
          rw [← htk]
          refine List.mem_of_getElem? (i := p - pos) ?_
          rw [List.getElem?_take, if_pos (by omega), List.getElem?_drop, show pos + (p - pos) = p by omega]
          exact hd
        have := tw_all _ hmem
        rw [hsd] at this; cases this
theorem SP.start (t : List Nat) : SP t 0 [] [] [] := ⟨.start t, rfl, by simp, by simp, by simp⟩
end Mine
namespace Mine
abbrev jn (l : List Str) : Str := Str.join (Str.ofString "") l
def plc (t pl : List Nat) (i : Nat) : Nat := (pl[i]?).getD t.length
def qix (ns0 : List Nd) (ds0 : List Dl) (i : Nat) : Nat := (ds0[i]?.map (·.index)).getD ns0.length
theorem text_shown : ∀ {ns : List Nd}, (∀ n ∈ ns, n.isText = true) → shownL ns = flatL ns
  | [], _ => rfl
  | n :: r, h => by
    have ih := text_shown (ns := r) fun m hm => h m (by simp [hm])
    have := h n (by simp)
    cases n with
    | text x => rw [shownL, flatL, ih]; rfl
    | node ty ks => simp [Nd.isText] at this
theorem jn_chars (l : List Nat) : jn (l.map chS) = strOf l := join_chars l
/-- from one delimiter to the next -/
theorem seg_facts {t : List Nat} {ns0 : List Nd} {ds0 : List Dl} {pl : List Nat} (s : SP t t.length ns0 ds0 pl) {cp : Nat} (hcp : cp ≤ ds0.length) {q0 p0 : Nat} (hq : q0 ≤ qix ns0 ds0 cp) (hp : p0 ≤ plc t pl cp) (hpt : p0 ≤ t.length)
    (hfl : flatL (ns0.take q0) = strOf (t.take p0)) (hidle : ∀ i p, pl[i]? = some p → p0 ≤ p → cp ≤ i) :
    ∃ mid W, ns0.drop q0 = mid ++ ns0.drop (qix ns0 ds0 cp) ∧ run2 t (plc t pl cp) = ((run2 t p0).1 ++ W, (run2 t p0).2) ∧ jn W = shownL mid ∧ (flatL mid).length + p0 = plc t pl cp ∧ mid.length + q0 = qix ns0 ds0 cp := by
  have hqn : qix ns0 ds0 cp ≤ ns0.length := by
    unfold qix
    cases hx : ds0[cp]? with
    | none => exact Nat.le_refl _
    | some x => exact Nat.le_of_lt (s.si.dl cp x hx).2.1
  have hpl : plc t pl cp ≤ t.length ∧ flatL (ns0.take (qix ns0 ds0 cp)) = strOf (t.take (plc t pl cp)) := by
    unfold qix plc
    cases hx : ds0[cp]? with
    | none =>
      have h1 := List.getElem?_eq_none_iff.mp hx
      have : pl[cp]? = none := List.getElem?_eq_none_iff.mpr (by rw [s.len]; exact h1)
      rw [this]
      refine ⟨Nat.le_refl _, ?_⟩
      have := s.si.flat
      simpa using this
    | some x =>
      obtain ⟨p, c, a1, a2, a3, a4, a5, a6, a7, a8, a9, a10, a11⟩ := s.dl cp x hx
      rw [a1]
      exact ⟨Nat.le_of_lt a2, a11⟩
  obtain ⟨hp1, hfl2⟩ := hpl
  generalize hQ : qix ns0 ds0 cp = Q at *
  generalize hP : plc t pl cp = P at *
  have hmid : (ns0.drop q0).take (Q - q0) ++ ns0.drop Q = ns0.drop q0 := by
    have := List.take_append_drop (Q - q0) (ns0.drop q0)
    rw [List.drop_drop, show q0 + (Q - q0) = Q by omega] at this
    exact this
  have hmf : flatL ((ns0.drop q0).take (Q - q0)) = strOf ((t.drop p0).take (P - p0)) := by
    have e1 : ns0.take Q = ns0.take q0 ++ (ns0.drop q0).take (Q - q0) := by rw [← List.take_add, show q0 + (Q - q0) = Q by omega]
    have e2 : t.take P = t.take p0 ++ (t.drop p0).take (P - p0) := by rw [← List.take_add, show p0 + (P - p0) = P by omega]
    rw [e1, e2, flatL_append, ← strOf_append, hfl] at hfl2
    exact str_cancel hfl2
  have htx : ∀ n ∈ (ns0.drop q0).take (Q - q0), n.isText = true := fun n hn => s.si.tx n (List.mem_of_mem_drop (List.mem_of_mem_take hn))
  refine ⟨(ns0.drop q0).take (Q - q0), ((t.drop p0).take (P - p0)).map chS, hmid.symm, ?_, ?_, ?_, by simp; omega⟩
  · have := run2_seg (l := t) (P - p0) p0 (by omega) (fun p h1 h2 c hc hs => by
      by_cases ha : (opens2 t p c || closes2 t p c) = true
      · have hm := s.act p c (by omega) hc hs ha
        obtain ⟨i, hi⟩ := List.getElem?_of_mem hm
        have h3 := hidle i p hi h1
        -- p is at cp or behind it
        exfalso
        by_cases hi2 : i = cp
        · subst hi2
          unfold plc at hP
          rw [hi] at hP
          simp at hP
          omega
        · have hlt : cp < pl.length := by have := (List.getElem?_eq_some_iff.mp hi).1; omega
          have hcpl : pl[cp]? = some pl[cp] := List.getElem?_eq_getElem hlt
          have := s.inc cp i _ p (by omega) hcpl hi
          unfold plc at hP
          rw [hcpl] at hP
          simp at hP
          omega
      · simpa using ha)
    rw [show p0 + (P - p0) = P by omega] at this
    exact this
  · rw [jn_chars, text_shown htx, hmf]
  · rw [hmf, strOf_len]; simp; omega
structure Sim (t : List Nat) (ns0 : List Nd) (ds0 : List Dl) (pl : List Nat) (pre : Nat → Nat) (st : St) (cp : Nat) (L : List (Nat × Nat × Nat)) (bots : List (BKey × Nat)) : Prop where
  ok : StOk pre st
  len : st.ds.length = ds0.length
  same : ∀ (i : Nat) (x : Dl), st.ds[i]? = some x → ∃ x0, ds0[i]? = some x0 ∧ sameDl x0 x ∧ (0 < x.length → x = x0) ∧ (cp ≤ i → x = x0)
  le : cp ≤ ds0.length
  ns : ∃ done C, st.ns = done ++ ns0.drop (qix ns0 ds0 cp) ∧ shownL done = jn (run2 t (plc t pl cp)).1 ∧ (flatL done).length = plc t pl cp ∧ done.length + C = qix ns0 ds0 cp ∧ ∀ (j : Nat) (x : Dl), cp ≤ j → ds0[j]? = some x → pre (x.index + 1) = C
  stk : (run2 t (plc t pl cp)).2 = L.map (·.2)
  ent : ∀ e ∈ L, ∃ x, st.ds[e.1]? = some x ∧ e.1 < cp ∧ 0 < x.length ∧ x.co = true ∧ x.marker = chS e.2.1 ∧ st.ns[cur pre x]? = some (.text (reps 1 e.2.1)) ∧ shownL (st.ns.take (cur pre x)) = jn ((run2 t (plc t pl cp)).1.take e.2.2) ∧ (run2 t (plc t pl cp)).1[e.2.2]? = some (chS e.2.1) ∧ pl[e.1]? = some (flatL (st.ns.take (cur pre x))).length
  srt : L.Pairwise fun a b => a.1 < b.1 ∧ a.2.2 < b.2.2
  gh : ∀ (i : Nat) (x : Dl), st.ds[i]? = some x → i < cp → 0 < x.length → x.co = true → (∃ e ∈ L, e.1 = i) ∨ ((∃ ty ks, st.ns[cur pre x]? = some (.node ty ks)) ∧ ∀ e ∈ L, x.marker = chS e.2.1 → i < e.1)
  cc : ∀ e ∈ L, ∀ x, st.ds[e.1]? = some x → x.cc = true → ∀ e' ∈ L, e'.2.1 = e.2.1 → ¬ e'.1 < e.1
  bot : ∀ (k : BKey) (i : Nat) (x : Dl), i < botsAt bots k → st.ds[i]? = some x → 0 < x.length → x.co = true → x.marker ≠ k.1
  dep : 2 * depthL st.ns + total st.ds ≤ 24
theorem fit2_none {stk : List (Nat × Nat)} {c : Nat} (h : ∀ e ∈ stk, e.1 ≠ c) : fit2 stk c = [] := by
  unfold fit2
  rw [List.filter_eq_nil_iff]
  intro k hk
  simp at hk
  simp [hk]
  exact h _ (List.getElem_mem hk)
theorem fit2_last {a b : List (Nat × Nat)} {e : Nat × Nat} {c : Nat} (he : e.1 = c) (h : ∀ x ∈ b, x.1 ≠ c) : (fit2 (a ++ e :: b) c).getLast? = some a.length := by
  unfold fit2
  have hlen : (a ++ e :: b).length = a.length + 1 + b.length := by simp; omega
  rw [hlen, List.range_add, List.range_add]
  simp only [List.filter_append]
  have h1 : List.filter (fun k => (a ++ e :: b)[k]?.map (·.1) == some c) (List.map (fun x => a.length + x) (List.range 1)) = [a.length] := by
    simp [List.range_succ, he]
  have h2 : List.filter (fun k => (a ++ e :: b)[k]?.map (·.1) == some c) (List.map (fun x => a.length + 1 + x) (List.range b.length)) = [] := by
    rw [List.filter_eq_nil_iff]
    intro k hk
    simp at hk
    obtain ⟨m, hm, rfl⟩ := hk
    rw [List.getElem?_append_right (by omega), show a.length + 1 + m - a.length = m + 1 by omega, List.getElem?_cons_succ]
    simp [hm]
    exact h _ (List.getElem_mem hm)
  rw [h1, h2, List.append_nil]
  simp
end Mine
namespace Mine
theorem isSign_tab {c : Nat} (h : isSign c = true) : clsC c = 1 := by
  unfold isSign at h
  simp at h
  rcases h with rfl | rfl <;> rfl
theorem idx_pl {t : List Nat} {ns0 : List Nd} {ds0 : List Dl} {pl : List Nat} (s : SP t t.length ns0 ds0 pl) {cp p : Nat} (hp : pl[cp]? = some p) {i q : Nat} (hi : pl[i]? = some q) (h : p + 1 ≤ q) : cp + 1 ≤ i := by
  by_cases h1 : i = cp
  · subst h1; rw [hp] at hi; cases hi; omega
  · by_cases h2 : i < cp
    · have := s.inc i cp q p h2 hi hp; omega
    · omega
theorem jn_append (a b : List Str) : jn (a ++ b) = jn a ++ jn b := join_append a b
/-- what stands at one delimiter -/
theorem at_dl {t : List Nat} {ns0 : List Nd} {ds0 : List Dl} {pl : List Nat} (s : SP t t.length ns0 ds0 pl) {cp : Nat} {y : Dl} (hy : ds0[cp]? = some y) :
    ∃ p c, pl[cp]? = some p ∧ plc t pl cp = p ∧ qix ns0 ds0 cp = y.index ∧ t[p]? = some c ∧ isSign c = true ∧ y.marker = chS c ∧ y.length = 1 ∧ y.orig = 1 ∧ y.co = opens2 t p c ∧ y.cc = closes2 t p c ∧ ns0[y.index]? = some (.text (reps 1 c)) ∧ (y.co || y.cc) = true ∧
      ∃ mid W, ns0.drop (y.index + 1) = mid ++ ns0.drop (qix ns0 ds0 (cp + 1)) ∧ run2 t (plc t pl (cp + 1)) = ((run2 t (p + 1)).1 ++ W, (run2 t (p + 1)).2) ∧ jn W = shownL mid ∧ (flatL mid).length + (p + 1) = plc t pl (cp + 1) ∧ mid.length + (y.index + 1) = qix ns0 ds0 (cp + 1) := by
  obtain ⟨p, c, a1, a2, a3, a4, a5, a6, a7, a8, a9, a10, a11⟩ := s.dl cp y hy
  obtain ⟨_, b1, _, _, c', _, _, b2, b3⟩ := s.si.dl cp y hy
  have hcc : c' = c := chS_inj.mp (by rw [← b2, a5])
  subst hcc
  rw [a6] at b3
  have hlt := (List.getElem?_eq_some_iff.mp hy).1
  have hq : y.index + 1 ≤ qix ns0 ds0 (cp + 1) := by
    unfold qix
    cases hx : ds0[cp + 1]? with
    | none => simp; omega
    | some x => have := s.si.inc cp (cp + 1) y x (by omega) hy hx; simp; omega
  have hp : p + 1 ≤ plc t pl (cp + 1) := by
    unfold plc
    cases hx : pl[cp + 1]? with
    | none => simp; omega
    | some q => have := s.inc cp (cp + 1) p q (by omega) a1 hx; simp; omega
  have hfl : flatL (ns0.take (y.index + 1)) = strOf (t.take (p + 1)) := by
    rw [take_at b3, flatL_append, a11, take_at a3, ← strOf_append, flatL, flatL, flatN, str_app_empty]
    rfl
  obtain ⟨mid, W, k1, k2, k3, k4, k5⟩ := seg_facts s (cp := cp + 1) (by omega) hq hp (by omega) hfl (fun i q hi h => idx_pl s a1 hi h)
  refine ⟨p, c', a1, by unfold plc; rw [a1]; rfl, by unfold qix; rw [hy]; rfl, a3, a4, a5, a6, a7, a8, a9, b3, a10, mid, W, k1, k2, k3, k4, k5⟩
theorem sim_pass {t : List Nat} {ns0 : List Nd} {ds0 : List Dl} {pl : List Nat} (s : SP t t.length ns0 ds0 pl) {pre : Nat → Nat} {st : St} {cp : Nat} {L : List (Nat × Nat × Nat)} {bots bots' : List (BKey × Nat)} (h : Sim t ns0 ds0 pl pre st cp L bots)
    {y : Dl} (hy : ds0[cp]? = some y) (hno : y.cc = true → ∀ e ∈ L, y.marker ≠ chS e.2.1)
    (hb : ∀ (k : BKey) (i : Nat) (x : Dl), i < botsAt bots' k → st.ds[i]? = some x → 0 < x.length → x.co = true → x.marker ≠ k.1) : ∃ L', Sim t ns0 ds0 pl pre st (cp + 1) L' bots' := by
  obtain ⟨p, c, a1, a2, a3, a4, a5, a6, a7, _, a9, a10, a11, _, mid, W, k1, k2, k3, k4, k5⟩ := at_dl s hy
  obtain ⟨done, C, n1, n2, n3, n4, n5⟩ := h.ns
  have hstk := h.stk
  rw [a2] at n2 n3 hstk
  rw [a3] at n1 n4
  have hent := h.ent
  rw [a2] at hent
  have hcp := (List.getElem?_eq_some_iff.mp hy).1
  have hfit : hit2 t p c (run2 t p).2 = none := by
    unfold hit2
    by_cases hc : (isSign c && closes2 t p c) = true
    · rw [if_pos hc]
      simp only [a5, Bool.true_and] at hc
      rw [hstk, fit2_none]
      · rfl
      · intro e he
        obtain ⟨e', he', rfl⟩ := List.mem_map.mp he
        have := hno (by rw [a10]; exact hc) e' he'
        rw [a6] at this
        exact fun q => this (by rw [q])
    · rw [if_neg hc]
  have hstep : run2 t (p + 1) = ((run2 t p).1 ++ [chS c], if y.co then (run2 t p).2 ++ [(c, (run2 t p).1.length)] else (run2 t p).2) := by
    rw [run2, step2, a4]
    dsimp only
    rw [hfit, a9]
    simp only [a5, Bool.true_and]
  rw [hstep] at k2
  obtain ⟨x, hx⟩ : ∃ x, st.ds[cp]? = some x := ⟨_, List.getElem?_eq_getElem (by rw [h.len]; exact hcp)⟩
  have hxy : x = y := by
    obtain ⟨x0, b1, _, _, b2⟩ := h.same cp x hx
    rw [hy] at b1; cases b1
    exact b2 (Nat.le_refl _)
  subst hxy
  have hcur : cur pre x = done.length := by
    have := n5 cp x (Nat.le_refl _) hy
    unfold cur; omega
  have hnd : st.ns[done.length]? = some (.text (reps 1 c)) := by
    rw [n1, List.getElem?_append_right (Nat.le_refl _), Nat.sub_self, List.getElem?_drop]
    exact a11
  have hdrop : ns0.drop x.index = .text (reps 1 c) :: ns0.drop (x.index + 1) := drop_at a11
  have hout : (run2 t (plc t pl (cp + 1))).1 = (run2 t p).1 ++ (chS c :: W) := by rw [k2]; simp
  have hrep1 : reps 1 c = chS c := rfl
  generalize hL' : (if x.co then L ++ [(cp, c, (run2 t p).1.length)] else L) = L'
  have mem' : ∀ e, e ∈ L' → e ∈ L ∨ (x.co = true ∧ e = (cp, c, (run2 t p).1.length)) := by
    intro e he
    rw [← hL'] at he
    split at he
    · rename_i hco
      rcases List.mem_append.mp he with h | h
      · exact .inl h
      · simp at h; exact .inr ⟨hco, h⟩
    · exact .inl he
  have sub' : ∀ e, e ∈ L → e ∈ L' := by
    intro e he
    rw [← hL']
    split
    · exact List.mem_append_left _ he
    · exact he
  refine ⟨L', ⟨h.ok, h.len, fun i z hz => ?_, by omega, ?_, ?_, fun e he => ?_, ?_, fun i z hz hi hl hco => ?_, fun e he z hz hcc e' he' hc' => ?_, hb, h.dep⟩⟩
  · obtain ⟨x0, b1, b2, b3, b4⟩ := h.same i z hz
    exact ⟨x0, b1, b2, b3, fun h => b4 (by omega)⟩
  · refine ⟨done ++ (.text (reps 1 c) :: mid), C, ?_, ?_, ?_, ?_, fun j z hj hz => n5 j z (by omega) hz⟩
    · rw [n1, hdrop, k1]; simp
    · rw [shownL_append, n2, hout, jn_append, show chS c :: W = [chS c] ++ W from rfl, jn_append, shownL, shownN, k3]
      rfl
    · rw [flatL_append, flatL, flatN, str_len_app, str_len_app, n3, reps_len]; omega
    · simp; omega
  · rw [k2]
    dsimp only
    rw [← hL', hstk]
    split
    · simp
    · rfl
  · rcases mem' e he with he | ⟨hco, rfl⟩
    · obtain ⟨z, b1, b2, b3, b4, b5, b6, b7, b8, b9⟩ := hent e he
      have hlt := (List.getElem?_eq_some_iff.mp b8).1
      refine ⟨z, b1, by omega, b3, b4, b5, b6, ?_, ?_, b9⟩
      · rw [b7, hout, List.take_append_of_le_length (by omega)]
      · rw [hout, List.getElem?_append_left hlt]; exact b8
    · refine ⟨x, hx, by simp, by omega, hco, a6, by rw [hcur]; exact hnd, ?_, ?_, ?_⟩
      · rw [hcur, hout, List.take_append_of_le_length (Nat.le_refl _), List.take_length, ← n2]
        rw [n1, List.take_append_of_le_length (Nat.le_refl _), List.take_length]
      · rw [hout, List.getElem?_append_right (Nat.le_refl _), Nat.sub_self]; rfl
      · rw [hcur, n1, List.take_append_of_le_length (Nat.le_refl _), List.take_length, n3]; exact a1
  · rw [← hL']
    split
    · refine List.pairwise_append.mpr ⟨h.srt, by simp, fun e he e' he' => ?_⟩
      simp at he'; subst he'
      obtain ⟨z, b1, b2, b3, b4, b5, b6, b7, b8, b9⟩ := hent e he
      exact ⟨b2, (List.getElem?_eq_some_iff.mp b8).1⟩
    · exact h.srt
  · by_cases hic : i = cp
    · subst hic
      rw [hx] at hz; cases hz
      refine .inl ⟨(i, c, (run2 t p).1.length), ?_, rfl⟩
      rw [← hL', if_pos hco]
      simp
    · rcases h.gh i z hz (by omega) hl hco with ⟨e, he, hei⟩ | ⟨hn, hall⟩
      · exact .inl ⟨e, sub' e he, hei⟩
      · refine .inr ⟨hn, fun e he hm => ?_⟩
        rcases mem' e he with he | ⟨_, rfl⟩
        · exact hall e he hm
        · show i < cp; omega
  · rcases mem' e he with he | ⟨hco, rfl⟩
    · rcases mem' e' he' with he' | ⟨_, rfl⟩
      · exact h.cc e he z hz hcc e' he' hc'
      · obtain ⟨_, _, b2, _⟩ := hent e he
        show ¬ cp < e.1; omega
    · rcases mem' e' he' with he' | ⟨_, rfl⟩
      · rw [hx] at hz; cases hz
        have := hno hcc e' he'
        rw [a6] at this
        exact absurd (by rw [hc']) this
      · show ¬ cp < cp; omega
end Mine
namespace Mine
theorem put_take {ns : List Nd} {oi ci u : Nat} {x1 x2 : Str} {ks : List Nd} {i : Nat} (hi : i ≤ oi) (hn : oi < ns.length) : (putNode ns oi ci u x1 x2 ks).take i = ns.take i := by
  unfold putNode
  rw [List.append_assoc, List.take_append_of_le_length (by simp; omega), List.take_take, Nat.min_eq_left hi]
theorem dsA_total2 {ds : List Dl} {op cp u k : Nat} {x y : Dl} (hop : op < cp) (hx : ds[op]? = some x) (hy : ds[cp]? = some y) (hlx : u ≤ x.length) (hly : u ≤ y.length) (hu : 0 < u) : total (dsA ds op cp u k x y) + 2 ≤ total ds := by
  have hcp := (List.getElem?_eq_some_iff.mp hy).1
  -- first the one end, then the other
  have h1 : total (ds.set op (closeDl true (spend u x))) < total ds := by
    refine total_lt (o := op) (by simp) (fun i a b ha hb => ?_) ⟨x, _, hx, by rw [List.getElem?_set_self (by omega)], by rw [closeDl_len]; show x.length - u < x.length; omega⟩
    by_cases hi : op = i
    · subst hi
      rw [hx] at ha; cases ha
      rw [List.getElem?_set_self (by omega)] at hb; cases hb
      rw [closeDl_len]; exact Nat.sub_le _ _
    · rw [List.getElem?_set_ne hi, ha] at hb; cases hb; exact Nat.le_refl _
  have h2 : total (dsA ds op cp u k x y) < total (ds.set op (closeDl true (spend u x))) := by
    refine total_lt (o := cp) (by simp [dsA_len]) (fun i a b ha hb => ?_) ⟨y, _, by rw [List.getElem?_set_ne (by omega)]; exact hy, by rw [dsA_get hop hcp, if_neg (by omega), if_pos rfl], by rw [closeDl_len]; show y.length - u < y.length; omega⟩
    rw [dsA_get hop hcp] at hb
    by_cases hi : i = op
    · subst hi
      rw [List.getElem?_set_self (by omega)] at ha; cases ha
      rw [if_pos rfl] at hb; cases hb
      exact Nat.le_refl _
    · rw [List.getElem?_set_ne (Ne.symm hi)] at ha
      rw [if_neg hi] at hb
      by_cases hi2 : i = cp
      · subst hi2
        rw [hy] at ha; cases ha
        rw [if_pos rfl] at hb; cases hb
        rw [closeDl_len]; exact Nat.sub_le _ _
      · rw [if_neg hi2] at hb
        by_cases hi3 : k ≠ 0 ∧ op < i ∧ i < cp
        · rw [if_pos hi3, ha] at hb
          cases hb; exact Nat.zero_le _
        · rw [if_neg hi3, ha] at hb; cases hb; exact Nat.le_refl _
  omega
theorem closes_mid {t : List Nat} {p c a b : Nat} (hp : 0 < p) (ha : t[p - 1]? = some a) (hb : t[p + 1]? = some b) (hsa : isSign a = true) (hsb : isSign b = true) : closes2 t p c = true := by
  have h1 : clsZ t ((p : Int) - 1) = 1 := by
    unfold clsZ
    rw [if_neg (by omega), show ((p : Int) - 1).toNat = p - 1 by omega, ha]
    exact isSign_tab hsa
  have h2 : clsZ t ((p : Int) + 1) = 1 := by
    unfold clsZ
    rw [if_neg (by omega), show ((p : Int) + 1).toNat = p + 1 by omega, hb]
    exact isSign_tab hsb
  unfold closes2 right2
  rw [h1, h2]
  simp
theorem sim_match {t : List Nat} {ns0 : List Nd} {ds0 : List Dl} {pl : List Nat} (s : SP t t.length ns0 ds0 pl) {pre : Nat → Nat} {st : St} {cp : Nat} {L1 L2 : List (Nat × Nat × Nat)} {e : Nat × Nat × Nat} {bots : List (BKey × Nat)} (h : Sim t ns0 ds0 pl pre st cp (L1 ++ e :: L2) bots)
    {x y : Dl} (hy : ds0[cp]? = some y) (hcc : y.cc = true) (hec : y.marker = chS e.2.1) (h2 : ∀ z ∈ L2, y.marker ≠ chS z.2.1) (hx : st.ds[e.1]? = some x) {ks : List Nd} (hke : ks = (st.ns.drop (cur pre x + 1)).take (cur pre y - (cur pre x + 1))) (hkc : ks.any Nd.content = true) :
    ∃ st' pre', applyM st e.1 cp (cur pre x) (cur pre y) 1 ks = some st' ∧ st'.ds = dsA st.ds e.1 cp 1 (cur pre y - cur pre x - 2) x y ∧ Sim t ns0 ds0 pl pre' st' (cp + 1) L1 bots := by
  obtain ⟨p, c, a1, a2, a3, a4, a5, a6, a7, _, a9, a10, a11, _, mid, W, k1, k2, k3, k4, k5⟩ := at_dl s hy
  obtain ⟨done, C, n1, n2, n3, n4, n5⟩ := h.ns
  have hstk := h.stk
  rw [a2] at n2 n3 hstk
  rw [a3] at n1 n4
  have hent := h.ent
  rw [a2] at hent
  have hcp := (List.getElem?_eq_some_iff.mp hy).1
  obtain ⟨x', hx1, hop, hlx, hco, hxm, hxt, hxs, hxo, hxp⟩ := hent e (by simp)
  rw [hx] at hx1; cases hx1
  have hyd : st.ds[cp]? = some y := by
    obtain ⟨z, hz⟩ : ∃ z, st.ds[cp]? = some z := ⟨_, List.getElem?_eq_getElem (by rw [h.len]; exact hcp)⟩
    obtain ⟨x0, b1, _, _, b2⟩ := h.same cp z hz
    rw [hy] at b1; cases b1
    rw [hz, b2 (Nat.le_refl _)]
  have hec' : e.2.1 = c := chS_inj.mp (by rw [← hec, a6])
  rw [hec'] at hxm hxt hxo
  have hly : 0 < y.length := by omega
  have hcur : cur pre y = done.length := by
    have := n5 cp y (Nat.le_refl _) hy
    unfold cur; omega
  have hmon := h.ok.mon e.1 cp x y hop hx hyd hlx hly
  have hnd : st.ns[cur pre y]? = some (.text (reps 1 c)) := by
    rw [hcur, n1, List.getElem?_append_right (Nat.le_refl _), Nat.sub_self, List.getElem?_drop]
    exact a11
  have hxl : x.length = 1 := by
    obtain ⟨x0, b1, _, b2, _⟩ := h.same e.1 x hx
    have := b2 hlx
    subst this
    obtain ⟨_, _, _, _, _, _, _, b3, _⟩ := s.dl e.1 x b1
    exact b3
  have hoc : cur pre x + 2 ≤ cur pre y := by
    by_cases hq : cur pre y = cur pre x + 1
    · rw [hke, hq, Nat.sub_self] at hkc; simp at hkc
    · omega
  obtain ⟨tree', nxt', e1, ok'⟩ := apply_ok (kids := ks) h.ok hop hx hyd hlx hly (u := 1) (by omega) (by omega) hoc hxt hnd (by rw [reps_len]; exact Nat.le_refl _) (by rw [reps_len]; exact Nat.le_refl _)
  have hlen := (List.getElem?_eq_some_iff.mp hxt).1
  have c0 : reps 0 c = Str.ofString "" := by unfold reps; rw [List.replicate_zero]; exact strOf_nil
  -- the kids, as the law tells them
  have hdone : done = st.ns.take (cur pre x) ++ .text (reps 1 c) :: ks := by
    have e2 : done = st.ns.take (cur pre y) := by rw [hcur, n1, List.take_append_of_le_length (Nat.le_refl _), List.take_length]
    have e3 := List.take_append_drop (cur pre x) (st.ns.take (cur pre y))
    rw [List.take_take, Nat.min_eq_left (by omega), List.drop_take, drop_at hxt] at e3
    rw [e2, ← e3, hke, show cur pre y - cur pre x = (cur pre y - (cur pre x + 1)) + 1 by omega, List.take_succ_cons]
  have hshk : shownL ks = jn ((run2 t p).1.drop (e.2.2 + 1)) := by
    have e2 : shownL done = jn ((run2 t p).1.take e.2.2) ++ (chS c ++ shownL ks) := by
      rw [hdone, shownL_append, hxs, shownL, shownN]; rfl
    have e3 : (run2 t p).1 = (run2 t p).1.take e.2.2 ++ chS c :: (run2 t p).1.drop (e.2.2 + 1) := by
      rw [← drop_at hxo, List.take_append_drop]
    have e4 : jn (run2 t p).1 = jn ((run2 t p).1.take e.2.2) ++ (chS c ++ jn ((run2 t p).1.drop (e.2.2 + 1))) := by
      have := congrArg jn e3
      rw [jn_append, show chS c :: (run2 t p).1.drop (e.2.2 + 1) = [chS c] ++ (run2 t p).1.drop (e.2.2 + 1) from rfl, jn_append] at this
      exact this
    rw [n2, e4] at e2
    exact (str_cancel (str_cancel e2)).symm
  have hhit : hit2 t p c (run2 t p).2 = some L1.length := by
    unfold hit2
    rw [if_pos (by rw [a5, ← a10, hcc]; rfl), hstk, List.map_append, List.map_cons]
    have := fit2_last (a := L1.map (·.2)) (b := L2.map (·.2)) (e := e.2) (c := c) hec' (fun z hz => by
      obtain ⟨z', hz', rfl⟩ := List.mem_map.mp hz
      have := h2 z' hz'
      rw [a6] at this
      exact fun q => this (by rw [q]))
    rw [this, List.length_map]
  have hsk : (run2 t p).2[L1.length]? = some e.2 := by
    rw [hstk, List.map_append, List.getElem?_append_right (by simp), List.length_map, Nat.sub_self]; rfl
  have hstep : run2 t (p + 1) = ((run2 t p).1.take e.2.2 ++ [embr (jn ((run2 t p).1.drop (e.2.2 + 1)))], (run2 t p).2.take L1.length) := by
    rw [run2, step2, a4]
    dsimp only
    rw [hhit]
    dsimp only
    rw [hsk]
    rfl
  rw [hstep] at k2
  have hout : (run2 t (plc t pl (cp + 1))).1 = (run2 t p).1.take e.2.2 ++ (embr (jn ((run2 t p).1.drop (e.2.2 + 1))) :: W) := by rw [k2]; simp
  have hol := (List.getElem?_eq_some_iff.mp hxo).1
  have hsrt := List.pairwise_append.mp h.srt
  have hs1 : ∀ e' ∈ L1, e'.1 < e.1 ∧ e'.2.2 < e.2.2 := fun e' he' => hsrt.2.2 e' he' e (by simp)
  have hs2 : ∀ e' ∈ L2, e.1 < e'.1 ∧ e.2.2 < e'.2.2 := fun e' he' => (List.pairwise_cons.mp hsrt.2.1).1 e' he'
  have hkk : cur pre y - cur pre x - 2 ≤ cur pre y := by omega
  have hfd : (flatL done).length = (flatL (st.ns.take (cur pre x))).length + 1 + (flatL ks).length := by
    rw [hdone, flatL_append, str_len_app, flatL, flatN, str_len_app, reps_len]; omega
  have hnode : nodeTy 1 = Str.ofString "emphasis" := rfl
  have hput : putNode st.ns (cur pre x) (cur pre y) 1 (reps 1 c) (reps 1 c) ks = (st.ns.take (cur pre x) ++ (.text (Str.ofString "") :: .node (Str.ofString "emphasis") ks :: .text (Str.ofString "") :: mid)) ++ ns0.drop (qix ns0 ds0 (cp + 1)) := by
    unfold putNode
    have e2 : st.ns.drop (cur pre y + 1) = mid ++ ns0.drop (qix ns0 ds0 (cp + 1)) := by
      rw [hcur, n1, ← k1, ← List.drop_drop, List.drop_left, List.drop_drop]
    rw [e2, reps_cutEnd, reps_cutFront, hnode, Nat.sub_self, c0]
    simp
  refine ⟨_, _, e1, rfl, ok', by simpa [dsA_len] using h.len, fun i z hz => ?_, by omega, ?_, ?_, fun e' he' => ?_, hsrt.1, fun i z hz hi hl hzco => ?_, fun e1' he1 z hz hzc e2' he2 hce => ?_, fun k i z hi hz hl hzco => ?_, ?_⟩
  · -- what became of each
    obtain ⟨z0, b1, b2, b3, b4, b5, b6⟩ := dsA_same hop hx hyd hz
    obtain ⟨x0, d1, d2, d3, d4⟩ := h.same i z0 b1
    refine ⟨x0, d1, d2.trans b2, fun hl => ?_, fun hi => ?_⟩
    · have hz0 : 0 < z0.length := by have := b2.le; omega
      have hx0 := d3 hz0
      subst hx0
      by_cases hi1 : i = e.1
      · have := b3 hi1
        subst hi1
        rw [hx] at b1; cases b1
        omega
      · by_cases hi2 : i = cp
        · have := b4 hi2
          subst hi2
          rw [hyd] at b1; cases b1
          omega
        · by_cases hi3 : (cur pre y - cur pre x - 2) ≠ 0 ∧ e.1 < i ∧ i < cp
          · have := b5 hi1 hi2 hi3; omega
          · exact b6 hi1 hi2 hi3
    · rw [b6 (by omega) (by omega) (by omega)]
      exact d4 (by omega)
  · refine ⟨_, C + (cur pre y - cur pre x - 2), hput, ?_, ?_, ?_, fun j z hj hz => ?_⟩
    · have t0 : shownL (.text (Str.ofString "") :: .node (Str.ofString "emphasis") ks :: .text (Str.ofString "") :: mid) = embr (shownL ks) ++ shownL mid := by
        show Str.ofString "" ++ (shownN (.node (Str.ofString "emphasis") ks) ++ (Str.ofString "" ++ shownL mid)) = _
        rw [shown_emph, str_empty_app, str_empty_app]
      rw [shownL_append, hxs, hout, jn_append, show embr (jn ((run2 t p).1.drop (e.2.2 + 1))) :: W = [embr (jn ((run2 t p).1.drop (e.2.2 + 1)))] ++ W from rfl, jn_append, t0, hshk, k3]
      rfl
    · have hm1 : (markOf (Str.ofString "emphasis")).length = 1 := by decide
      have h00 : (Str.ofString "").length = 0 := by decide
      have t1 : flatL (.text (Str.ofString "") :: .node (Str.ofString "emphasis") ks :: .text (Str.ofString "") :: mid) = Str.ofString "" ++ ((markOf (Str.ofString "emphasis") ++ flatL ks ++ markOf (Str.ofString "emphasis")) ++ (Str.ofString "" ++ flatL mid)) := rfl
      rw [flatL_append, str_len_app, t1]
      simp only [str_len_app, hm1, h00]
      omega
    · simp
      omega
    · have e2 := n5 j z (by omega) hz
      have hyj := s.si.inc cp j y z (by omega) hy hz
      unfold preA
      rw [if_pos (by omega), e2]
  · rw [k2]
    dsimp only
    rw [hstk, List.map_append, List.take_append_of_le_length (by simp), List.take_of_length_le (by simp)]
  · obtain ⟨z, b1, b2, b3, b4, b5, b6, b7, b8, b9⟩ := hent e' (by simp [he'])
    obtain ⟨s1, s2⟩ := hs1 e' he'
    have hcz : cur pre z < cur pre x := h.ok.mon e'.1 e.1 z x s1 b1 hx b3 hlx
    have hz' : (dsA st.ds e.1 cp 1 (cur pre y - cur pre x - 2) x y)[e'.1]? = some z := by
      rw [dsA_get hop (by rw [h.len]; exact hcp), if_neg (by omega), if_neg (by omega), if_neg (by omega)]; exact b1
    obtain ⟨z0, d1, d2, d3, d4, d5, d6, d7, d8⟩ := dsA_cur h.ok hop hx hyd hly hkk hz' b3
    rw [b1] at d1; cases d1
    have hcz' := d5 b2
    refine ⟨z, hz', by omega, b3, b4, b5, ?_, ?_, ?_, ?_⟩
    · rw [hcz']; dsimp only; rw [put_lt hcz hlen]; exact b6
    · rw [hcz']; dsimp only
      rw [put_take (by omega) hlen, b7, hout, List.take_append_of_le_length (by simp; omega), List.take_take, Nat.min_eq_left (by omega)]
    · rw [hout, List.getElem?_append_left (by simp; omega), List.getElem?_take, if_pos s2]; exact b8
    · rw [hcz']; dsimp only
      rw [put_take (by omega) hlen]; exact b9
  · obtain ⟨z0, d1, d2, d3, d4, d5, d6, d7, d8⟩ := dsA_cur h.ok hop hx hyd hly hkk hz hl
    have hicp : i < cp := by
      by_cases hq : i = cp
      · subst hq
        have := d7 (.inr rfl)
        rw [hyd] at d1; cases d1
        omega
      · omega
    have hie : i ≠ e.1 := by
      rintro rfl
      have := d7 (.inl rfl)
      rw [hx] at d1; cases d1
      omega
    have hzz := d8 hie (by omega)
    subst hzz
    have hcz' := d5 hicp
    rw [hcz']
    dsimp only
    by_cases hlt : i < e.1
    · have hcz : cur pre z < cur pre x := h.ok.mon i e.1 z x hlt d1 hx d3 hlx
      rcases h.gh i z d1 hicp d3 hzco with ⟨e', he', hei⟩ | ⟨hn, hall⟩
      · refine .inl ⟨e', ?_, hei⟩
        rcases List.mem_append.mp he' with h1 | h1
        · exact h1
        · rcases List.mem_cons.mp h1 with rfl | h1
          · exact absurd hei.symm hie
          · have := (hs2 e' h1).1; omega
      · exact .inr ⟨by rw [put_lt hcz hlen]; exact hn, fun e' he' hm => hall e' (by simp [he']) hm⟩
    · have hk0 := d4 (by omega) hicp
      have m1 := h.ok.mon e.1 i x z (by omega) hx d1 hlx d3
      have m2 := h.ok.mon i cp z y hicp d1 hyd d3 hly
      have hci : cur pre z = cur pre x + 1 := by omega
      obtain ⟨p1, p2, p3⟩ := pn_mid (ns := st.ns) (oi := cur pre x) (ci := cur pre y) (u := 1) (x1 := reps 1 c) (x2 := reps 1 c) (ks := ks) hlen
      refine .inr ⟨⟨_, _, by rw [hci]; exact p2⟩, fun e' he' hm => ?_⟩
      rcases h.gh i z d1 hicp d3 hzco with ⟨e2, he2, hei⟩ | ⟨hn, hall⟩
      · -- a true one, and it closes as well
        exfalso
        subst hei
        obtain ⟨z1, b1, b2, b3, b4, b5, b6, b7, b8, b9⟩ := hent e2 he2
        rw [d1] at b1; cases b1
        have hzcc : z.cc = true := by
          obtain ⟨x0, g1, _, g2, _⟩ := h.same e2.1 z d1
          have := g2 d3
          subst this
          obtain ⟨q, c2, f1, f2, f3, f4, f5, f6, f7, f8, f9, _⟩ := s.dl e2.1 z g1
          rw [f9]
          obtain ⟨x0', g1', _, g2', _⟩ := h.same e.1 x hx
          have := g2' hlx
          subst this
          obtain ⟨q', c3, f1', f2', f3', f4', _⟩ := s.dl e.1 x g1'
          have w1 : q = q' + 1 := by
            rw [f1] at b9; rw [f1'] at hxp
            have := Option.some.inj b9
            have := Option.some.inj hxp
            rw [hci, take_at hxt, flatL_append, str_len_app, flatL, flatL, flatN, str_app_empty, reps_len] at *
            omega
          have w2 : p = q + 1 := by
            rw [f1] at b9
            have := Option.some.inj b9
            have e2' : done = st.ns.take (cur pre z + 1) := by
              have : done = st.ns.take (cur pre y) := by rw [hcur, n1, List.take_append_of_le_length (Nat.le_refl _), List.take_length]
              rw [this]; congr 1; omega
            rw [e2', take_at b6, flatL_append, str_len_app, flatL, flatL, flatN, str_app_empty, reps_len] at n3
            omega
          exact closes_mid (by omega) (by rw [w1, Nat.add_sub_cancel]; exact f3') (by rw [← w2]; exact a4) f4' a5
        have := h.cc e2 he2 z d1 hzcc e' (by simp [he']) (chS_inj.mp (by rw [← hm, b5]))
        have := (hs1 e' he').1
        omega
      · exact hall e' (by simp [he']) hm
  · have hz0 : st.ds[e1'.1]? = some z := by
      have := (hs1 e1' he1).1
      rw [dsA_get hop (by rw [h.len]; exact hcp), if_neg (by omega), if_neg (by omega), if_neg (by omega)] at hz
      exact hz
    exact h.cc e1' (by simp [he1]) z hz0 hzc e2' (by simp [he2]) hce
  · obtain ⟨z0, b1, b2, _⟩ := dsA_same hop hx hyd hz
    rw [b2.mr]
    exact h.bot k i z0 hi b1 (by have := b2.le; omega) (b2.co hzco)
  · have htot := dsA_total2 (k := cur pre y - cur pre x - 2) (u := 1) hop hx hyd (by omega) (by omega) (by omega)
    have hd := h.dep
    have hdk : depthL ks ≤ depthL st.ns := by
      have e2 : depthL st.ns = max (depthL done) (depthL (ns0.drop y.index)) := by rw [n1, depthL_append]
      rw [hdone, depthL_append, depthL] at e2
      omega
    have := put_depth (ns := st.ns) (oi := cur pre x) (ci := cur pre y) (u := 1) (x1 := reps 1 c) (x2 := reps 1 c) (ks := ks) (m := depthL st.ns + 1) (by omega) (by omega)
    dsimp only
    omega
end Mine
namespace Mine
theorem botsAt_put (bots : List (BKey × Nat)) (k k' : BKey) (n : Nat) : botsAt (botsPut bots k n) k' = if k = k' then n else botsAt bots k' := by
  induction bots with
  | nil =>
    unfold botsPut botsAt
    by_cases h : k = k' <;> simp [h]
  | cons a r ih =>
    obtain ⟨x, m⟩ := a
    unfold botsPut
    by_cases hx : x = k
    · rw [if_pos hx]
      subst hx
      unfold botsAt
      by_cases h : x = k' <;> simp [h]
    · rw [if_neg hx]
      unfold botsAt at ih ⊢
      by_cases h : x = k'
      · subst h
        simp [Ne.symm hx]
      · simp only [List.find?_cons, h, decide_false]
        exact ih
theorem findOp_none {ds : List Dl} {c : Dl} {ob : Nat} : ∀ {k : Nat}, k ≤ ds.length → findOp ds c ob k = none → ∀ (i : Nat) (x : Dl), ob ≤ i → i < k → ds[i]? = some x → okOpener c x = false
  | 0, _, _, i, x, _, hi, _ => by omega
  | k + 1, hk, h, i, x, ho, hi, hx => by
    unfold findOp at h
    rw [if_neg (by omega), List.getElem?_eq_getElem (by omega)] at h
    dsimp only at h
    split at h
    · cases h
    · rename_i hn
      by_cases hik : i = k
      · subst hik
        rw [List.getElem?_eq_getElem (by omega)] at hx
        cases hx
        simpa using hn
      · exact findOp_none (by omega) h i x ho (by omega) hx
theorem findOp_last {ds : List Dl} {c : Dl} {ob : Nat} : ∀ {k op : Nat}, findOp ds c ob k = some op → ∀ (i : Nat) (x : Dl), op < i → i < k → ds[i]? = some x → okOpener c x = false
  | 0, op, h, i, x, _, hi, _ => by omega
  | k + 1, op, h, i, x, ho, hi, hx => by
    unfold findOp at h
    split at h
    · cases h
    · split at h
      · rename_i x' hx'
        split at h
        · cases h; omega
        · rename_i hn
          by_cases hik : i = k
          · subst hik
            rw [hx'] at hx; cases hx
            simpa using hn
          · exact findOp_last h i x ho (by omega) hx
      · cases h
theorem no_content : ∀ {ks : List Nd}, ks.any Nd.content = false → (flatL ks).length = 0
  | [], _ => by rw [flatL]; decide
  | n :: r, h => by
    simp only [List.any_cons, Bool.or_eq_false_iff] at h
    have ih := no_content h.2
    have h1 := h.1
    cases n with
    | text x =>
      simp [Nd.content, Nd.isText, Nd.raw] at h1
      rw [flatL, flatN, str_len_app, ih, h1]
      decide
    | node ty ks => simp [Nd.content, Nd.isText] at h1
theorem sim_kids {t : List Nat} {ns0 : List Nd} {ds0 : List Dl} {pl : List Nat} (s : SP t t.length ns0 ds0 pl) (h1r : oneRun t) {pre : Nat → Nat} {st : St} {cp : Nat} {L : List (Nat × Nat × Nat)} {e : Nat × Nat × Nat} {bots : List (BKey × Nat)} (h : Sim t ns0 ds0 pl pre st cp L bots) (he : e ∈ L)
    {x y : Dl} (hy : ds0[cp]? = some y) (hec : y.marker = chS e.2.1) (hx : st.ds[e.1]? = some x) : ((st.ns.drop (cur pre x + 1)).take (cur pre y - (cur pre x + 1))).any Nd.content = true := by
  obtain ⟨p, c, a1, a2, a3, a4, a5, a6, a7, _, a9, a10, a11, _⟩ := at_dl s hy
  obtain ⟨done, C, n1, n2, n3, n4, n5⟩ := h.ns
  rw [a2] at n2 n3
  rw [a3] at n1 n4
  obtain ⟨x', hx1, hop, hlx, hco, hxm, hxt, hxs, hxo, hxp⟩ := h.ent e he
  rw [hx] at hx1; cases hx1
  have hcp := (List.getElem?_eq_some_iff.mp hy).1
  have hyd : st.ds[cp]? = some y := by
    obtain ⟨z, hz⟩ : ∃ z, st.ds[cp]? = some z := ⟨_, List.getElem?_eq_getElem (by rw [h.len]; exact hcp)⟩
    obtain ⟨x0, b1, _, _, b2⟩ := h.same cp z hz
    rw [hy] at b1; cases b1
    rw [hz, b2 (Nat.le_refl _)]
  have hec' : e.2.1 = c := chS_inj.mp (by rw [← hec, a6])
  rw [hec'] at hxm hxt hxo
  have hcur : cur pre y = done.length := by
    have := n5 cp y (Nat.le_refl _) hy
    unfold cur; omega
  have hmon := h.ok.mon e.1 cp x y hop hx hyd hlx (by omega)
  by_cases hc : ((st.ns.drop (cur pre x + 1)).take (cur pre y - (cur pre x + 1))).any Nd.content = true
  · exact hc
  · exfalso
    have hz := no_content (by simpa using hc)
    have hdone : done = st.ns.take (cur pre x) ++ .text (reps 1 c) :: ((st.ns.drop (cur pre x + 1)).take (cur pre y - (cur pre x + 1))) := by
      have e2 : done = st.ns.take (cur pre y) := by rw [hcur, n1, List.take_append_of_le_length (Nat.le_refl _), List.take_length]
      have e3 := List.take_append_drop (cur pre x) (st.ns.take (cur pre y))
      rw [List.take_take, Nat.min_eq_left (by omega), List.drop_take, drop_at hxt] at e3
      rw [e2, ← e3, show cur pre y - cur pre x = (cur pre y - (cur pre x + 1)) + 1 by omega, List.take_succ_cons]
    have hfd : (flatL done).length = (flatL (st.ns.take (cur pre x))).length + 1 := by
      rw [hdone, flatL_append, str_len_app, flatL, flatN, str_len_app, reps_len]; omega
    obtain ⟨x0, g1, _, g2, _⟩ := h.same e.1 x hx
    have := g2 hlx
    subst this
    obtain ⟨q, c2, f1, f2, f3, f4, f5, _⟩ := s.dl e.1 x g1
    have hc2 : c2 = c := chS_inj.mp (by rw [← f5, hxm])
    subst hc2
    rw [f1] at hxp
    have hq := Option.some.inj hxp
    have := h1r q c2 f3 f4
    rw [show q + 1 = p by omega] at this
    exact this a4
theorem useLen_one {x y : Dl} {c d : Nat} (hx : x.length = 1) : useLenN x y (.text (reps 1 c)) (.text (reps 1 d)) = some 1 := by
  unfold useLenN
  rw [if_neg (by omega), if_pos]
  show 0 < (reps 1 c).length ∧ 0 < (reps 1 d).length
  rw [reps_len, reps_len]; omega
theorem useLen_node {x y : Dl} {ty : Str} {ks : List Nd} {n2 : Nd} : useLenN x y (.node ty ks) n2 = none := by
  have : (Nd.node ty ks).raw.length = 0 := by show (Str.ofString "").length = 0; decide
  unfold useLenN
  rw [if_neg (by omega), if_neg (by omega)]
theorem proc2 {t : List Nat} {ns0 : List Nd} {ds0 : List Dl} {pl : List Nat} (s : SP t t.length ns0 ds0 pl) (h1r : oneRun t) : ∀ f {pre : Nat → Nat} {st : St} {cp : Nat} {L : List (Nat × Nat × Nat)} {bots : List (BKey × Nat)}, Sim t ns0 ds0 pl pre st cp L bots → ds0.length - cp < f →
    ∃ ns, procM 20 f st cp bots = some ns ∧ shownL ns = paired2 t ∧ depthL ns ≤ 12
  | 0, pre, st, cp, L, bots, _, hf => by omega
  | f + 1, pre, st, cp, L, bots, h, hf => by
    rw [procM]
    cases hyd : st.ds[cp]? with
    | none =>
      have h1 := List.getElem?_eq_none_iff.mp hyd
      have h2 := h.len
      obtain ⟨done, C, n1, n2, n3, n4, n5⟩ := h.ns
      have e1 : qix ns0 ds0 cp = ns0.length := by unfold qix; rw [List.getElem?_eq_none (by omega)]; rfl
      have e2 : plc t pl cp = t.length := by unfold plc; rw [List.getElem?_eq_none (by rw [s.len]; omega)]; rfl
      rw [e1, List.drop_length, List.append_nil] at n1
      rw [e2] at n2
      have := h.dep
      exact ⟨st.ns, rfl, by rw [n1]; exact n2, by omega⟩
    | some y =>
      have hlt := (List.getElem?_eq_some_iff.mp hyd).1
      rw [h.len] at hlt
      have hy : ds0[cp]? = some y := by
        obtain ⟨x0, b1, _, _, b2⟩ := h.same cp y hyd
        rw [b1, b2 (Nat.le_refl _)]
      obtain ⟨p, c, a1, a2, a3, a4, a5, a6, a7, a8, a9, a10, a11, _⟩ := at_dl s hy
      have lives : ∀ (i : Nat) (x : Dl), st.ds[i]? = some x → 0 < x.length → x.length = 1 ∧ x.orig = 1 := by
        intro i x hx hl
        obtain ⟨x0, b1, _, b2, _⟩ := h.same i x hx
        have := b2 hl
        subst this
        obtain ⟨_, _, _, _, _, _, _, b3, b4, _⟩ := s.dl i x b1
        exact ⟨b3, b4⟩
      have okO : ∀ (i : Nat) (x : Dl), st.ds[i]? = some x → 0 < x.length → x.co = true → x.marker = y.marker → okOpener y x = true := by
        intro i x hx hl hco hm
        obtain ⟨_, ho⟩ := lives i x hx hl
        unfold okOpener canMatch
        rw [hm, hco, ho, a8]
        simp [hl]
      dsimp only
      by_cases hcc : y.cc = true
      · rw [if_neg (by simp [hcc, a7])]
        cases hf1 : findOp st.ds y (botsAt bots (keyOf y)) cp with
        | none =>
          have hnone := findOp_none (by rw [h.len]; omega) hf1
          have hlive : ∀ (i : Nat) (x : Dl), i < cp → st.ds[i]? = some x → 0 < x.length → x.co = true → x.marker ≠ y.marker := by
            intro i x hi hx hl hco hm
            by_cases hb : i < botsAt bots (keyOf y)
            · exact h.bot (keyOf y) i x hb hx hl hco hm
            · have := hnone i x (by omega) hi hx
              rw [okO i x hx hl hco hm] at this; cases this
          obtain ⟨L', h'⟩ := sim_pass s (bots' := botsPut bots (keyOf y) cp) h hy (fun _ e he => by
            obtain ⟨x, b1, b2, b3, b4, b5, _⟩ := h.ent e he
            have := hlive e.1 x b2 b1 b3 b4
            rw [b5] at this
            exact Ne.symm this) (fun k i x hi hx hl hco => by
            rw [botsAt_put] at hi
            by_cases hk : keyOf y = k
            · rw [if_pos hk] at hi
              subst hk
              exact hlive i x hi hx hl hco
            · rw [if_neg hk] at hi
              exact h.bot k i x hi hx hl hco)
          exact proc2 s h1r f h' (by omega)
        | some op =>
          obtain ⟨hop, x, hx, hox⟩ := findOp_ok hf1
          have hlast := findOp_last hf1
          have hoo := hox
          unfold okOpener at hoo
          simp only [Bool.and_eq_true, decide_eq_true_eq, beq_iff_eq] at hoo
          obtain ⟨⟨⟨hm, hco⟩, hlx⟩, _⟩ := hoo
          dsimp only
          rw [hx]
          dsimp only
          rw [h.ok.curM hx hlx, h.ok.curM hyd (by omega)]
          dsimp only
          have hmon := h.ok.mon op cp x y hop hx hyd hlx (by omega)
          have hnd : st.ns[cur pre y]? = some (.text (reps 1 c)) := by
            obtain ⟨done, C, n1, n2, n3, n4, n5⟩ := h.ns
            rw [a3] at n1 n4
            have := n5 cp y (Nat.le_refl _) hy
            rw [show cur pre y = done.length by unfold cur; omega, n1, List.getElem?_append_right (Nat.le_refl _), Nat.sub_self, List.getElem?_drop]
            exact a11
          rcases h.gh op x hx hop hlx hco with ⟨e, he, hei⟩ | ⟨⟨ty, kk, hn⟩, hall⟩
          · subst hei
            obtain ⟨x', b1, b2, b3, b4, b5, b6, b7, b8, b9⟩ := h.ent e he
            rw [hx] at b1; cases b1
            have hxl := (lives _ _ hx hlx).1
            rw [b6, hnd]
            dsimp only
            rw [if_pos (by omega), useLen_one hxl]
            have hec : y.marker = chS e.2.1 := by rw [← hm, b5]
            have hkc := sim_kids s h1r h he hy hec hx
            have hdk : depthL ((st.ns.drop (cur pre x + 1)).take (cur pre y - (cur pre x + 1))) ≤ depthL st.ns := by
              have h1 := depthL_append (st.ns.take (cur pre x + 1)) (st.ns.drop (cur pre x + 1))
              rw [List.take_append_drop] at h1
              have h2 := depthL_append ((st.ns.drop (cur pre x + 1)).take (cur pre y - (cur pre x + 1))) ((st.ns.drop (cur pre x + 1)).drop (cur pre y - (cur pre x + 1)))
              rw [List.take_append_drop] at h2
              omega
            have hdep := h.dep
            have hkids : kidsM st.ns (cur pre x) (cur pre y) (.text (reps 1 e.2.1)) (.text (reps 1 c)) 20 = some ((st.ns.drop (cur pre x + 1)).take (cur pre y - (cur pre x + 1))) := by
              unfold kidsM
              dsimp only
              rw [if_neg (by rw [hkc]; simp), if_neg (by simp [Nd.isText]), if_neg (by omega)]
            rw [hkids]
            dsimp only
            obtain ⟨L1, L2, hL⟩ := List.append_of_mem he
            have h' := h
            rw [hL] at h'
            have hs2 : ∀ z ∈ L2, y.marker ≠ chS z.2.1 := by
              intro z hz hzm
              have hsrt := h'.srt
              have h3 := (List.pairwise_cons.mp (List.pairwise_append.mp hsrt).2.1).1 z hz
              obtain ⟨xz, d1, d2, d3, d4, d5, _⟩ := h'.ent z (by simp [hz])
              have := hlast z.1 xz h3.1 d2 d1
              rw [okO z.1 xz d1 d3 d4 (by rw [d5, hzm])] at this; cases this
            obtain ⟨st', pre', e1, e2, sim'⟩ := sim_match s h' hy hcc hec hs2 hx rfl hkc
            rw [e1]
            dsimp only
            have g1 : st'.ds[e.1]? = some (closeDl true (spend 1 x)) := by rw [e2, dsA_get b2 (by rw [h.len]; exact hlt), if_pos rfl]
            have g2 : st'.ds[cp]? = some (closeDl false (spend 1 y)) := by rw [e2, dsA_get b2 (by rw [h.len]; exact hlt), if_neg (by omega), if_pos rfl]
            rw [g1, g2]
            dsimp only
            have q1 : (closeDl true (spend 1 x)).co = false := by
              unfold closeDl spend; simp [hxl]
            have q2 : (closeDl false (spend 1 y)).cc = false := by
              unfold closeDl spend; simp [a7]
            rw [q1, q2]
            simp only [Bool.or_self, Bool.false_eq_true, if_false]
            exact proc2 s h1r f sim' (by omega)
          · rw [hn, hnd]
            dsimp only
            rw [if_pos (by omega), useLen_node]
            dsimp only
            obtain ⟨L', h'⟩ := sim_pass s (bots' := bots) h hy (fun _ e he hem => by
              have h3 := hall e he (by rw [hm]; exact hem)
              obtain ⟨xz, d1, d2, d3, d4, d5, _⟩ := h.ent e he
              have := hlast e.1 xz h3 d2 d1
              rw [okO e.1 xz d1 d3 d4 (by rw [d5, hem])] at this; cases this) h.bot
            exact proc2 s h1r f h' (by omega)
      · rw [if_pos (by simp [hcc])]
        obtain ⟨L', h'⟩ := sim_pass s (bots' := bots) h hy (fun q => absurd q hcc) h.bot
        exact proc2 s h1r f h' (by omega)
end Mine
namespace Mine
theorem total_len : ∀ {ds : List Dl}, (∀ x ∈ ds, x.length = 1) → total ds = ds.length
  | [], _ => rfl
  | x :: r, h => by
    have ih := total_len (ds := r) fun y hy => h y (by simp [hy])
    have := h x (by simp)
    simp only [total, List.map_cons, List.sum_cons, List.length_cons] at *
    omega
theorem hit2_empty (l : List Nat) (p c : Nat) : hit2 l p c [] = none := by
  unfold hit2
  split
  · rfl
  · rfl
theorem plc_le {t : List Nat} {ns0 : List Nd} {ds0 : List Dl} {pl : List Nat} (s : SP t t.length ns0 ds0 pl) (i : Nat) : plc t pl i ≤ t.length := by
  unfold plc
  cases hp : pl[i]? with
  | none => exact Nat.le_refl _
  | some p =>
    have hlt := (List.getElem?_eq_some_iff.mp hp).1
    rw [s.len] at hlt
    obtain ⟨q, c, a1, a2, _⟩ := s.dl i _ (List.getElem?_eq_getElem hlt)
    rw [hp] at a1; cases a1
    exact Nat.le_of_lt a2
theorem first_seg {t : List Nat} {ns0 : List Nd} {ds0 : List Dl} {pl : List Nat} (s : SP t t.length ns0 ds0 pl) : ∃ mid W, ns0 = mid ++ ns0.drop (qix ns0 ds0 0) ∧ run2 t (plc t pl 0) = (W, []) ∧ jn W = shownL mid ∧ (flatL mid).length = plc t pl 0 ∧ mid.length = qix ns0 ds0 0 := by
  obtain ⟨mid, W, k1, k2, k3, k4, k5⟩ := seg_facts s (cp := 0) (q0 := 0) (p0 := 0) (Nat.zero_le _) (Nat.zero_le _) (Nat.zero_le _) (Nat.zero_le _) (by simp [flatL, strOf_nil]) (fun _ _ _ _ => Nat.zero_le _)
  exact ⟨mid, W, by simpa using k1, by simpa [run2] using k2, k3, by simpa using k4, by simpa using k5⟩
theorem sim_start {t : List Nat} {ns0 : List Nd} {ds0 : List Dl} {pl : List Nat} (s : SP t t.length ns0 ds0 pl) (h1 : ns0.length ≤ 64) (h2 : ds0.length ≤ 24) : Sim t ns0 ds0 pl (fun _ => 0) (start ns0 ds0) 0 [] [] := by
  obtain ⟨mid, W, k1, k2, k3, k4, k5⟩ := first_seg s
  refine ⟨start_ok s.si h1, rfl, fun i x hx => ⟨x, hx, .refl x, fun _ => rfl, fun _ => rfl⟩, Nat.zero_le _, ⟨mid, 0, k1, by rw [k2]; exact k3.symm, k4, by omega, fun _ _ _ _ => rfl⟩, by rw [k2]; rfl, fun e he => (by simp at he), .nil, fun i x _ hi => by omega, fun e he => (by simp at he), fun k i x hi => ?_, ?_⟩
  · unfold botsAt at hi; simp at hi
  · have d := (text_facts s.si.tx).1
    have := total_len (ds := ds0) fun x hx => by
      obtain ⟨i, hi⟩ := List.getElem?_of_mem hx
      obtain ⟨_, _, _, _, _, _, _, b, _⟩ := s.dl i x hi
      exact b
    show 2 * depthL ns0 + total ds0 ≤ 24
    omega
/-! the dense road -/
theorem dense2 {t : List Nat} {ns0 : List Nd} {ds0 : List Dl} {pl : List Nat} (s : SP t t.length ns0 ds0 pl) {m : Str} (hx : ∀ (k : Nat) (x : Dl), ds0[k]? = some x → x.index = 2 * k ∧ x.marker = m) (hn0 : ns0.length = ds0.length * 2) :
    ∀ (n p : Nat) {a : List Nd} {A : S2} {mid : List Nd} {W : List Str}, p + n = ds0.length / 2 → densePairs ns0 ds0 p n = some a → ns0.drop (4 * p - 1) = mid ++ ns0.drop (qix ns0 ds0 (2 * p)) → run2 t (plc t pl (2 * p)) = (A.1 ++ W, []) → jn W = shownL mid → mid.length + (4 * p - 1) = qix ns0 ds0 (2 * p) →
      jn A.1 ++ shownL (a ++ ns0.drop (4 * (p + n) - 1)) = paired2 t ∧ depthL a ≤ 1 ∧ wtL (a ++ ns0.drop (4 * (p + n) - 1)) ≤ wtL (ns0.drop (4 * p - 1))
  | 0, p, a, A, mid, W, hpn, h, k1, k2, k3, k5 => by
    unfold densePairs at h; cases h
    refine ⟨?_, by simp [depthL], Nat.le_refl _⟩
    rw [List.nil_append, show 4 * (p + 0) - 1 = 4 * p - 1 by omega, k1, shownL_append, ← k3, ← str_assoc, ← jn_append]
    unfold paired2
    cases hy : ds0[2 * p]? with
    | none =>
      have e1 : qix ns0 ds0 (2 * p) = ns0.length := by unfold qix; rw [hy]; rfl
      have e2 : plc t pl (2 * p) = t.length := by unfold plc; rw [List.getElem?_eq_none (by rw [s.len]; exact List.getElem?_eq_none_iff.mp hy)]; rfl
      rw [e2] at k2
      rw [e1, List.drop_length, k2, shownL, str_app_empty]
    | some y =>
      obtain ⟨q, c, a1, a2, a3, a4, a5, a6, a7, _, a9, a10, a11, _, mid', W', j1, j2, j3, j4, j5⟩ := at_dl s hy
      have hlt := (List.getElem?_eq_some_iff.mp hy).1
      have hy2 : ds0[2 * p + 1]? = none := List.getElem?_eq_none (by omega)
      have e1 : qix ns0 ds0 (2 * p + 1) = ns0.length := by unfold qix; rw [hy2]; rfl
      have e2 : plc t pl (2 * p + 1) = t.length := by unfold plc; rw [List.getElem?_eq_none (by rw [s.len]; exact List.getElem?_eq_none_iff.mp hy2)]; rfl
      rw [a2] at k2
      have hstep : (run2 t (q + 1)).1 = A.1 ++ W ++ [chS c] := by
        rw [run2, step2, a4]
        dsimp only
        rw [k2]
        dsimp only
        rw [hit2_empty]
      rw [e2] at j2
      rw [e1, List.drop_length, List.append_nil] at j1
      rw [a3, drop_at a11, j1, j2, hstep]
      show jn (A.1 ++ W) ++ (reps 1 c ++ shownL mid') = jn (A.1 ++ W ++ [chS c] ++ W')
      rw [jn_append (A.1 ++ W ++ [chS c]), jn_append (A.1 ++ W), j3, str_assoc]
      rfl
  | n + 1, p, a, A, mid, W, hpn, h, k1, k2, k3, k5 => by
    rw [densePairs_step] at h
    split at h
    · rename_i d1 b1 h1 h2
      cases h
      unfold densePair at h1
      split at h1
      · rename_i x y hxd hyd
        split at h1
        · rename_i hc
          simp only [Bool.and_eq_true] at hc
          obtain ⟨⟨⟨hco, hcc⟩, _⟩, hcon⟩ := hc
          obtain ⟨xi, xm⟩ := hx _ _ hxd
          obtain ⟨yi, ym⟩ := hx _ _ hyd
          obtain ⟨q, c, a1, a2, a3, a4, a5, a6, a7, _, a9, a10, a11, _, mid', W', j1, j2, j3, j4, j5⟩ := at_dl s hxd
          obtain ⟨q', c', b1', b2, b3, b4, b5, b6, b7, _, b9, b10, b11, _, mid2, W2, i1, i2, i3, i4, i5⟩ := at_dl s hyd
          have hcc' : c' = c := chS_inj.mp (by rw [← b6, ← a6, xm, ym])
          subst hcc'
          have hkx : x.index = 4 * p := by omega
          have hky : y.index = 4 * p + 2 := by omega
          rw [a3, hkx] at k1 k5
          rw [b3, hky] at j1 j5
          rw [hkx] at a11 j1 j5
          rw [hky] at b11 i1 i5
          rw [a2] at k2
          rw [b2] at j2
          -- the text between
          have hmid' : mid' = (ns0.drop (4 * p + 1)).take 1 := by rw [j1, show 1 = mid'.length by omega, List.take_left]
          have hstep : run2 t (q + 1) = (A.1 ++ W ++ [chS c'], [(c', (A.1 ++ W).length)]) := by
            rw [run2, step2, a4]
            dsimp only
            rw [k2]
            dsimp only
            rw [hit2_empty]
            dsimp only
            rw [a5, ← a9, hco]
            rfl
          rw [hstep] at j2
          have hhit : hit2 t q' c' [(c', (A.1 ++ W).length)] = some 0 := by
            unfold hit2
            rw [if_pos (by rw [b5, ← b10, hcc]; rfl)]
            exact fit2_last (a := []) (b := []) (e := (c', (A.1 ++ W).length)) rfl (by simp)
          have hstep2 : run2 t (q' + 1) = (A.1 ++ W ++ [embr (jn W')], []) := by
            rw [run2, step2, b4]
            dsimp only
            rw [j2]
            dsimp only
            rw [hhit]
            dsimp only
            have e1 : (([(c', (A.1 ++ W).length)] : List (Nat × Nat))[0]?.map (·.2)).getD 0 = (A.1 ++ W).length := rfl
            rw [e1, show A.1 ++ W ++ [chS c'] ++ W' = (A.1 ++ W) ++ ([chS c'] ++ W') by simp, List.take_left, show (A.1 ++ W).length + 1 = ((A.1 ++ W) ++ [chS c']).length by simp; omega, ← List.append_assoc, List.drop_left]
            simp
          rw [hstep2] at i2
          have e41 : 4 * p + 2 + 1 = 4 * (p + 1) - 1 := by omega
          rw [e41] at i1 i5
          obtain ⟨r1, r2, r3⟩ := dense2 s hx hn0 n (p + 1) (A := (A.1 ++ W ++ [embr (jn W')], [])) (mid := mid2) (W := W2) (by omega) h2 (by rw [show 2 * (p + 1) = 2 * p + 1 + 1 by omega]; exact i1) (by rw [show 2 * (p + 1) = 2 * p + 1 + 1 by omega]; exact i2) i3 (by rw [show 2 * (p + 1) = 2 * p + 1 + 1 by omega]; exact i5)
          rw [show p + 1 + n = p + (n + 1) by omega] at r1 r3
          rw [hkx] at h1
          -- the widths
          have wl : wtL (ns0.drop (4 * p)) = 2 + wtL mid' + 2 + wtL (ns0.drop (4 * (p + 1) - 1)) := by
            have d1 := drop_at a11
            have d3 := drop_at b11
            rw [e41] at d3
            rw [d1, j1, d3]
            simp only [wtL, wtN, wtL_append, reps_len]; omega
          split at h1
          · rename_i k hk
            have hmk : mid' = [k] := by rw [hmid', drop_at hk]; rfl
            have hkt := s.si.tx k (List.mem_of_getElem? hk)
            have hdk : depthL [k] = 0 := (text_facts (ns := [k]) (by simpa using hkt)).1
            rw [hmk] at j3 wl
            split at h1
            · rename_i hp0
              cases h1
              subst hp0
              have hm0 : mid = [] := List.eq_nil_of_length_eq_zero (by omega)
              rw [hm0] at k3
              refine ⟨?_, ?_, ?_⟩
              · rw [← r1, List.append_assoc, shownL_append, shownL, shownL, str_app_empty, shown_emph, ← j3, jn_append, jn_append, k3, shownL, str_app_empty, str_assoc]
                rfl
              · rw [depthL_append, depthL, depthL, depthN, hdk]; omega
              · have : wtL (ns0.drop (4 * 0 - 1)) = _ := wl
                rw [List.append_assoc, wtL_append]
                simp only [wtL, wtN] at *
                omega
            · rename_i hp0
              split at h1
              · rename_i b hb
                cases h1
                have hmb : mid = [b] := by
                  rw [drop_at hb, show 4 * p - 1 + 1 = 4 * p by omega] at k1
                  have h3 : mid.length = 1 := by omega
                  match mid, h3 with
                  | [z], _ => rw [List.singleton_append, List.cons.injEq] at k1; rw [k1.1]
                have hbt := s.si.tx b (List.mem_of_getElem? hb)
                have hdb : depthN b = 0 := by
                  have := (text_facts (ns := [b]) (by simpa using hbt)).1
                  simpa [depthL] using this
                rw [hmb] at k3
                refine ⟨?_, ?_, ?_⟩
                · have t1 : shownL [b, .node (Str.ofString "emphasis") [k]] = shownN b ++ embr (shownL [k]) := by
                    show shownN b ++ (shownN (.node (Str.ofString "emphasis") [k]) ++ Str.ofString "") = _
                    rw [str_app_empty, shown_emph]
                  have t2 : shownL [b] = shownN b := str_app_empty _
                  rw [← r1, List.append_assoc, shownL_append, t1]
                  show _ = jn (A.1 ++ W ++ [embr (jn W')]) ++ _
                  rw [jn_append, jn_append, k3, t2, j3]
                  simp only [str_assoc]
                  rfl
                · rw [depthL_append, depthL, depthL, depthL, depthN, hdk, hdb]; omega
                · rw [drop_at hb, show 4 * p - 1 + 1 = 4 * p by omega, List.append_assoc, wtL_append]
                  simp only [wtL, wtN] at *
                  omega
              · cases h1
          · cases h1
        · cases h1
      · cases h1
    · cases h
theorem dense2_all {t : List Nat} {ns0 ns' : List Nd} {ds0 : List Dl} {pl : List Nat} (s : SP t t.length ns0 ds0 pl) (h : denseM ns0 ds0 = some ns') : shownL ns' = paired2 t ∧ depthL ns' ≤ 1 ∧ wtL ns' ≤ wtL ns0 := by
  unfold denseM at h
  split at h
  · cases h
  · rename_i x r
    split at h
    · rename_i hc
      obtain ⟨h4, hmk, hln, hok⟩ := hc
      obtain ⟨a, ha, he⟩ := Option.map_eq_some_iff.mp h
      subst he
      have hd : ∀ (k : Nat) (y : Dl), (x :: r)[k]? = some y → y.index = 2 * k ∧ y.marker = x.marker := by
        intro k y hy
        have e1 := denseOk_get hok hy
        rw [Nat.zero_add] at e1
        exact ⟨e1.2, e1.1⟩
      obtain ⟨mid, W, k1, k2, k3, k4, k5⟩ := first_seg s
      obtain ⟨r1, r2, r3⟩ := dense2 s hd hln _ 0 (A := ([], [])) (mid := mid) (W := W) (by omega) ha (by simpa using k1) (by simpa using k2) k3 (by simpa using k5)
      simp only [Nat.zero_add, Nat.mul_zero, Nat.zero_sub, List.drop_zero] at r1 r3
      rw [jn, join_nil, str_empty_app] at r1
      obtain ⟨g1, _, _⟩ := text_facts (ns := ns0.drop (4 * ((x :: r).length / 2) - 1)) fun n hn => s.si.tx n (List.mem_of_mem_drop hn)
      exact ⟨r1, by rw [depthL_append]; omega, r3⟩
    · cases h
def Plain02 : Prop := ∀ l : List Nat, (∀ c ∈ l, c ∈ sig2) → l.length ≤ 24 → oneRun l → ∃ fuel ns, finM (strOf l) 20 fuel = some ns ∧ shownL ns = paired2 l ∧ depthL ns ≤ 12 ∧ wtL ns ≤ 10000
theorem plain02 : Plain02 := by
  intro l hc hl h1
  unfold finM
  have hcps : (strOf l).cps.toList = l := by simp [strOf]
  have hlen := strOf_len l
  cases hs : hasSign (strOf l) with
  | false =>
    refine ⟨0, _, rfl, ?_, by simp [depthL, depthN], ?_⟩
    · rw [shownL, shownL, shownN, str_app_empty]
      unfold paired2
      have := run2_seg (l := l) l.length 0 (by omega) (fun p _ hp c hcc hsc => by
        exfalso
        unfold hasSign at hs
        rw [hcps] at hs
        have : l.any isSign = true := List.any_eq_true.mpr ⟨c, List.mem_of_getElem? hcc, hsc⟩
        rw [this] at hs; cases hs)
      rw [Nat.zero_add] at this
      rw [this]
      simp only [run2, List.nil_append, List.drop_zero, List.take_length]
      exact (jn_chars l).symm
    · simp only [wtL, wtN, hlen]; omega
  | true =>
    rw [hcps, hlen]
    obtain ⟨ns, ds, pl, e1, sp⟩ := splitM_one hc h1 (l.length + 1) 0 (.start l) (by omega)
    have sg := splitM_good (l.length + 1) 0 (Nat.zero_le _) (⟨by simp, by simp [wtL], by simp, by simp, by simp⟩ : SG l 0 [] []) e1
    have hnl := sg.ln
    have hdn := sg.dn
    have hwt := sg.wt
    rw [e1]
    simp only [Bool.not_true, Bool.false_eq_true, if_false]
    have mg : ∀ ns', shownL ns' = paired2 l → shownL (mergeM ns' []) = paired2 l ∧ depthL (mergeM ns' []) = depthL ns' ∧ wtL (mergeM ns' []) ≤ wtL ns' := by
      intro ns' h
      obtain ⟨_, b, _, _, e⟩ := merge_ok ns' []
      have : wtC [] = 0 := rfl
      exact ⟨by rw [shown_merge, join_nil, str_empty_app]; exact h, b, by omega⟩
    cases hd : denseM ns ds with
    | some ns' =>
      obtain ⟨g1, g2, g3⟩ := dense2_all sp hd
      obtain ⟨m1, m2, m3⟩ := mg ns' g1
      exact ⟨0, _, rfl, m1, by omega, by omega⟩
    | none =>
      obtain ⟨out, e2, g1, g2⟩ := proc2 sp h1 (ds.length + 1) (sim_start sp (by omega) (by omega)) (by omega)
      obtain ⟨m1, m2, m3⟩ := mg out g1
      have gl : goodL (start ns ds).ns := fun n hn c hcc => by
        have := hc c (sg.ch n hn c hcc)
        simp [sig2] at this
        omega
      obtain ⟨_, w3⟩ := procM_good _ gl e2
      have : wtL (start ns ds).ns = wtL ns := rfl
      exact ⟨_, mergeM out [], by dsimp only; rw [e2]; rfl, m1, by omega, by omega⟩
end Mine
namespace Mine
def lawSigns2 : Str := Str.ofString "ab *_."
def P_class : FnP := fun vs H Q => ∃ (l : List Nat) (z : Int), vs = [.str (strOf l), .int z] ∧ l.length ≤ 1000 ∧ -1000 ≤ z ∧ z ≤ 1000 ∧ (∀ c ∈ l, c ∈ sig2) ∧ Q (.int (clsZ l z)) H
def P_paired : FnP := fun vs H Q => ∃ (l : List Nat), vs = [.str (strOf l)] ∧ l.length ≤ 100 ∧ (∀ c ∈ l, c ∈ sig2) ∧ ∀ H', Grow H H' → Q (.str (paired2 l)) H'
def P_shown (k : Nat) : FnP := fun vs H Q => ∃ l vs' ns fp, vs = [.ref l] ∧ H l = some (.list vs') ∧ RepL H vs' ns fp ∧ tyL ns = true ∧ wtL ns ≤ 10000 ∧ depthL ns ≤ k ∧ Q (.str (shownL ns)) H
def nm_class : List Str := [Str.ofString "line", Str.ofString "place"]
def T_class : TS := (tSeq (tIfS (tOrB [(tCmp pLt (tVar 1) (tK (.int 0))), (tCmp pGe (tVar 1) (tCall pLen [(tVar 0)])), (tCmp pEqS (tBin pItem (tVar 0) (tVar 1)) (tK (.str (Str.ofString " "))))]) (tSeq (tRet (tK (.int 0))) tNil) tNil) (tSeq (tRet (tIf (tCmp pInS (tBin pItem (tVar 0) (tVar 1)) (tK (.str (Str.ofString "*_.")))) (tK (.int 1)) (tK (.int 2)))) tNil))
def nm_paired : List Str := [Str.ofString "line", Str.ofString "out", Str.ofString "stack", Str.ofString "place", Str.ofString "sign", Str.ofString "ahead", Str.ofString "behind", Str.ofString "left", Str.ofString "right", Str.ofString "opens", Str.ofString "closes", Str.ofString "fit", Str.ofString "start"]
def T_paired : TS := (tSeq (tSet 1 (tList [])) (tSeq (tSet 2 (tList [])) (tSeq (tForR (tCall pLen [(tVar 0)]) 3 (tSeq (tSet 4 (tBin pItem (tVar 0) (tVar 3))) (tSeq (tSet 5 (tCall P_class [(tVar 0), (tBin pSubI (tVar 3) (tK (.int 1)))])) (tSeq (tSet 6 (tCall P_class [(tVar 0), (tBin pAddI (tVar 3) (tK (.int 1)))])) (tSeq (tSet 7 (tOrE (tCmpE pEqI (tVar 6) (tK (.int 2))) [(tAndE (tCmpE pEqI (tVar 6) (tK (.int 1))) [(tCmpE pLt (tVar 5) (tK (.int 2)))])])) (tSeq (tSet 8 (tOrE (tCmpE pEqI (tVar 5) (tK (.int 2))) [(tAndE (tCmpE pEqI (tVar 5) (tK (.int 1))) [(tCmpE pLt (tVar 6) (tK (.int 2)))])])) (tSeq (tSet 9 (tAndE (tVar 7) [(tOrE (tCmpE pEqS (tVar 4) (tK (.str (Str.ofString "*")))) [(tNotE (tVar 8)), (tCmpE pEqI (tVar 5) (tK (.int 1)))])])) (tSeq (tSet 10 (tAndE (tVar 8) [(tOrE (tCmpE pEqS (tVar 4) (tK (.str (Str.ofString "*")))) [(tNotE (tVar 7)), (tCmpE pEqI (tVar 6) (tK (.int 1)))])])) (tSeq (tSet 11 (tIf (tAndB [(tCmp pInS (tVar 4) (tK (.str (Str.ofString "*_")))), (tTest (tVar 10))]) (tCompR (tCall pLen [(tVar 2)]) [4, 2] (tCmp pEqS (tBin pItem (tBin pItem (tVar 2) (tVar 0)) (tK (.int 0))) (tVar 1)) (tVar 0)) (tList []))) (tSeq (tIfS (tCmp pNeNil (tVar 11) (tList [])) (tSeq (tSet 12 (tBin pItem (tBin pItem (tVar 2) (tBin pItem (tVar 11) (tNeg (tK (.int 1))))) (tK (.int 1)))) (tSeq (tSet 2 (tSlice (tVar 2) none (some (tBin pItem (tVar 11) (tNeg (tK (.int 1))))))) (tSeq (tSet 1 (tBin pAddL (tSlice (tVar 1) none (some (tVar 12))) (tList [(tBin pAddS (tBin pAddS (tK (.str (Str.ofString "{emphasis}"))) (tMeth1 isS pJoin (tK (.str (Str.ofString ""))) (tSlice (tVar 1) (some (tBin pAddI (tVar 12) (tK (.int 1)))) none))) (tK (.str (Str.ofString "{/emphasis}"))))]))) tNil))) (tSeq (tIfS (tAndB [(tCmp pInS (tVar 4) (tK (.str (Str.ofString "*_")))), (tTest (tVar 9))]) (tSeq (tExpr (tMeth1 isL pAppend (tVar 2) (tTuple [(tVar 4), (tCall pLen [(tVar 1)])]))) tNil) tNil) (tSeq (tExpr (tMeth1 isL pAppend (tVar 1) (tVar 4))) tNil))) tNil)))))))))) (tSeq (tRet (tMeth1 isS pJoin (tK (.str (Str.ofString ""))) (tVar 1))) tNil))))
def nm_shown : List Str := [Str.ofString "tokens", Str.ofString "out", Str.ofString "token"]
def T_shown (P : FnP) : TS := (tSeq (tSet 1 (tK (.str (Str.ofString "")))) (tSeq (tForL (tVar 0) 2 (tSeq (tIfS (tCmp pEqS (tBin pItem (tVar 2) (tK (.str (Str.ofString "type")))) (tK (.str (Str.ofString "text")))) (tSeq (tSet 1 (tBin pAddS (tVar 1) (tBin pItem (tVar 2) (tK (.str (Str.ofString "raw")))))) tNil) (tSeq (tSet 1 (tBin pAddS (tBin pAddS (tBin pAddS (tBin pAddS (tBin pAddS (tBin pAddS (tBin pAddS (tVar 1) (tK (.str (Str.ofString "{")))) (tBin pItem (tVar 2) (tK (.str (Str.ofString "type"))))) (tK (.str (Str.ofString "}")))) (tCall P [(tBin pItem (tVar 2) (tK (.str (Str.ofString "children"))))])) (tK (.str (Str.ofString "{/")))) (tBin pItem (tVar 2) (tK (.str (Str.ofString "type"))))) (tK (.str (Str.ofString "}"))))) tNil)) tNil)) (tSeq (tRet (tVar 1)) tNil)))
def nm_lawB : List Str := [Str.ofString "script", Str.ofString "line", Str.ofString "number", Str.ofString "sign", Str.ofString "due"]
def T_lawB : TS := (tSeq (tSet 1 (tK (.str (Str.ofString "")))) (tSeq (tForL (tOrE (tSlice (tVar 0) none (some (tK (.int 24)))) [(tList [(tK (.int 3)), (tK (.int 0)), (tK (.int 3))])]) 2 (tSeq (tSet 3 (tBin pItem (tK (.str lawSigns2)) (tBin pModI (tVar 2) (tK (.int 6))))) (tSeq (tSet 1 (tBin pAddS (tVar 1) (tIf (tAndB [(tCmp pInS (tVar 3) (tK (.str (Str.ofString "*_")))), (tCmp pEqS (tSlice (tVar 1) (some (tNeg (tK (.int 1)))) none) (tVar 3))]) (tK (.str (Str.ofString "a"))) (tVar 3)))) tNil))) (tSeq (tSet 4 (tCall P_paired [(tVar 1)])) (tSeq (tRet (tCmpE pEqS (tCall (P_shown 12) [(tCall P_finalize [(tList [(tDict2 (Str.ofString "type") (tK (.str (Str.ofString "text"))) (Str.ofString "raw") (tVar 1))]), (tK (.bool true)), (tK (.int 20))])]) (tVar 4))) tNil))))
@[simp] theorem s_tCompR {T TE' : TE} {fr : List Nat} {C : TB} {ρ : Loc} {H : AH} {Q : V → AH → Prop} : tCompR T fr C TE' ρ H Q = T ρ H fun v H1 => match v with
  | .int n => -(2 ^ 62) ≤ n ∧ n < 2 ^ 62 ∧ qCompR fr C TE' ρ (fun acc H2 => ∀ c, H2 c = none → Q (.ref c) (H2.set c (.list acc))) 0 1 n.toNat H1
  | _ => False := rfl
@[simp] theorem s_neNil {a b : Addr} {H : AH} {Q : Bool → AH → Prop} : pNeNil (.ref a) (.ref b) H Q = ∃ xs, isLst a xs H ∧ H b = some (.list []) ∧ Q (!xs.isEmpty) H := rfl
@[simp] theorem s_eqNil {a b : Addr} {H : AH} {Q : Bool → AH → Prop} : pEqNil (.ref a) (.ref b) H Q = ∃ xs, isLst a xs H ∧ H b = some (.list []) ∧ Q xs.isEmpty H := rfl
theorem in_tab : ∀ c ∈ sig2, strIn (chS c) (Str.ofString "*_.") = decide (c = 42 ∨ c = 95 ∨ c = 46) ∧ strIn (chS c) (Str.ofString "*_") = isSign c ∧ ((chS c == Str.ofString " ") = decide (c = 32)) ∧ ((chS c == Str.ofString "*") = decide (c = 42)) := by decide +kernel
theorem W_class : WOk P_class 2 0 T_class := by
  rintro _ H Q ⟨l, z, rfl, hl, h1, h2, hc, q⟩
  refine ⟨rfl, ?_⟩
  have hlen := strOf_len l
  have b1 : L62 l.length := L62.of (by omega)
  have b2 : Bnd z := Bnd.of (by omega) (by omega)
  have hcps : (strOf l).cps.toList = l := by simp [strOf]
  simp [T_class, List.replicate, hlen, b1]
  unfold clsZ at q
  by_cases hz : z < 0
  · simp [hz] at q ⊢
    exact q
  · simp only [hz, if_false] at q
    by_cases hz2 : (l.length : Int) ≤ z
    · have : l[z.toNat]? = none := List.getElem?_eq_none (by omega)
      simp [hz, hz2, this, clsC] at q ⊢
      exact q
    · have hlt : z.toNat < l.length := by omega
      have hg : getV l z = some l[z.toNat] := by unfold getV; rw [if_pos (by omega), List.getElem?_eq_getElem hlt]
      have hm := hc _ (List.getElem_mem hlt)
      rw [List.getElem?_eq_getElem hlt] at q
      obtain ⟨t1, _, t3, _⟩ := in_tab _ hm
      generalize l[z.toNat] = c at *
      have e : (⟨#[c]⟩ : Str) = chS c := rfl
      simp only [Option.getD_some] at q
      unfold clsC at q
      simp [hz, hz2, hcps, hg, b2, e, t3]
      by_cases h32 : c = 32
      · simp [h32] at q ⊢
        exact q
      · simp only [h32, if_false] at q
        have hne : ¬ chS c = Str.ofString " " := by
          intro he
          rw [he] at t3
          simp [h32] at t3
        simp [h32, hcps, hg, b2, e, t1]
        by_cases h3 : c = 42 ∨ c = 95 ∨ c = 46
        · simp [h3, hne] at q ⊢; exact q
        · simp [h3, hne] at q ⊢; exact q
end Mine
namespace Mine
theorem ty_len {ty : Str} (h : (ty == Str.ofString "emphasis" || ty == Str.ofString "strong") = true) : ty.length ≤ 8 := by
  simp only [Bool.or_eq_true, beq_iff_eq] at h
  rcases h with rfl | rfl <;> decide
mutual
theorem shownN_len : ∀ n, tyN n = true → (shownN n).length ≤ 24 * wtN n
  | .text x, _ => by simp only [shownN, wtN]; omega
  | .node ty ks, h => by
    simp only [tyN, Bool.and_eq_true] at h
    have := shownL_len ks h.2
    have := ty_len h.1
    have a : (Str.ofString "{").length = 1 := by decide
    have b : (Str.ofString "}").length = 1 := by decide
    have c : (Str.ofString "{/").length = 2 := by decide
    simp only [shownN, wtN, str_len_app, a, b, c]; omega
theorem shownL_len : ∀ l, tyL l = true → (shownL l).length ≤ 24 * wtL l
  | [], _ => by have : (Str.ofString "").length = 0 := by decide
                simp only [shownL, wtL, this]; omega
  | n :: r, h => by
    simp only [tyL, Bool.and_eq_true] at h
    have := shownN_len n h.1
    have := shownL_len r h.2
    simp only [shownL, wtL, str_len_app]; omega
end
theorem W_shown (k : Nat) (P : FnP) (hP : ∀ j, k = j + 1 → P = P_shown j) : WOk (P_shown k) 1 2 (T_shown P) := by
  rintro _ H Q ⟨l, vs, ns, fp, rfl, hl, r, hty, hwt, hd, q⟩
  refine ⟨rfl, ?_⟩
  have hpl := r.length
  have hnl := len_wtL ns
  simp [T_shown, List.replicate]
  refine ⟨vs, .inl hl, fun i ρ H' => H' = H ∧ ∃ o2, ρ = [some (.ref l), some (.str (shownL (ns.take i))), o2], ⟨rfl, none, by simp [shownL]⟩, ?_, ?_⟩
  · rintro i ρ H' hi ⟨rfl, o2, rfl⟩
    refine ⟨.inl hl, ?_⟩
    have hv : vs[i]? = some vs[i] := by simp [hi]
    generalize vs[i] = v at *
    obtain ⟨n, f, hn, rn, hsub⟩ := r.get hv
    have hmem := List.mem_of_getElem? hn
    have hty1 := ty_mem hty hmem
    have hw1 := mem_wtL hmem
    have hd1 := depth_mem hmem
    have e := take_at hn
    have f1 := shownL_len (ns.take i) (ty_take hty i).1
    have w1 := wt_take ns i
    have f2 : shownL (ns.take (i + 1)) = shownL (ns.take i) ++ shownN n := by rw [e, shownL_append, shownL, shownL, str_app_empty]
    dsimp only
    rw [f2]
    cases rn with
    | text e1 =>
      rename_i a x
      simp only [wtN] at hw1
      have bx : L24 ((shownL (ns.take i)).length + x.length) := L24.of (by omega)
      simp [hv, e1, Sh.ty, bx, shownN]
    | node e1 e2 e3 rl =>
      rename_i a ty l' vs2 ns2 fp2
      simp only [wtN] at hw1
      simp only [tyN, Bool.and_eq_true] at hty1
      simp only [depthN] at hd1
      have hml := ty_len hty1.1
      have f3 := shownL_len ns2 hty1.2
      obtain ⟨j, rfl⟩ : ∃ j, k = j + 1 := ⟨k - 1, by omega⟩
      have := hP j rfl
      subst this
      have a1 : (Str.ofString "{").length = 1 := by decide
      have a2 : (Str.ofString "}").length = 1 := by decide
      have a3 : (Str.ofString "{/").length = 2 := by decide
      have b1 : L24 ((shownL (ns.take i)).length + (Str.ofString "{").length) := L24.of (by omega)
      have b2 : L24 ((shownL (ns.take i) ++ Str.ofString "{").length + ty.length) := L24.of (by rw [str_len_app]; omega)
      have b3 : L24 ((shownL (ns.take i) ++ Str.ofString "{" ++ ty).length + (Str.ofString "}").length) := L24.of (by simp only [str_len_app]; omega)
      have b4 : L24 ((shownL (ns.take i) ++ Str.ofString "{" ++ ty ++ Str.ofString "}").length + (shownL ns2).length) := L24.of (by simp only [str_len_app]; omega)
      have b5 : L24 ((shownL (ns.take i) ++ Str.ofString "{" ++ ty ++ Str.ofString "}" ++ shownL ns2).length + (Str.ofString "{/").length) := L24.of (by simp only [str_len_app]; omega)
      have b6 : L24 ((shownL (ns.take i) ++ Str.ofString "{" ++ ty ++ Str.ofString "}" ++ shownL ns2 ++ Str.ofString "{/").length + ty.length) := L24.of (by simp only [str_len_app]; omega)
      have b7 : L24 ((shownL (ns.take i) ++ Str.ofString "{" ++ ty ++ Str.ofString "}" ++ shownL ns2 ++ Str.ofString "{/" ++ ty).length + (Str.ofString "}").length) := L24.of (by simp only [str_len_app]; omega)
      simp [hv, e1, Sh.ty, e2, b1, b2, b3]
      refine ⟨l', vs2, ns2, fp2, rfl, e3, rl, hty1.2, by omega, by omega, ?_⟩
      simp [hv, e1, Sh.ty, e2, b4, b5, b6, b7]
      simp only [shownN, str_assoc]
  · rintro ρ H' ⟨rfl, o2, rfl⟩
    refine ⟨.inl hl, ?_⟩
    rw [List.take_of_length_le (by omega)]
    simp
    exact q
end Mine
namespace Mine
def T_pC : TS := (tSeq (tIfS (tCmp pNeNil (tVar 11) (tList [])) (tSeq (tSet 12 (tBin pItem (tBin pItem (tVar 2) (tBin pItem (tVar 11) (tNeg (tK (.int 1))))) (tK (.int 1)))) (tSeq (tSet 2 (tSlice (tVar 2) none (some (tBin pItem (tVar 11) (tNeg (tK (.int 1))))))) (tSeq (tSet 1 (tBin pAddL (tSlice (tVar 1) none (some (tVar 12))) (tList [(tBin pAddS (tBin pAddS (tK (.str (Str.ofString "{emphasis}"))) (tMeth1 isS pJoin (tK (.str (Str.ofString ""))) (tSlice (tVar 1) (some (tBin pAddI (tVar 12) (tK (.int 1)))) none))) (tK (.str (Str.ofString "{/emphasis}"))))]))) tNil))) (tSeq (tIfS (tAndB [(tCmp pInS (tVar 4) (tK (.str (Str.ofString "*_")))), (tTest (tVar 9))]) (tSeq (tExpr (tMeth1 isL pAppend (tVar 2) (tTuple [(tVar 4), (tCall pLen [(tVar 1)])]))) tNil) tNil) (tSeq (tExpr (tMeth1 isL pAppend (tVar 1) (tVar 4))) tNil))) tNil)
def T_pB : TS := (tSeq (tSet 11 (tIf (tAndB [(tCmp pInS (tVar 4) (tK (.str (Str.ofString "*_")))), (tTest (tVar 10))]) (tCompR (tCall pLen [(tVar 2)]) [4, 2] (tCmp pEqS (tBin pItem (tBin pItem (tVar 2) (tVar 0)) (tK (.int 0))) (tVar 1)) (tVar 0)) (tList []))) T_pC)
def T_pA : TS := (tSeq (tSet 4 (tBin pItem (tVar 0) (tVar 3))) (tSeq (tSet 5 (tCall P_class [(tVar 0), (tBin pSubI (tVar 3) (tK (.int 1)))])) (tSeq (tSet 6 (tCall P_class [(tVar 0), (tBin pAddI (tVar 3) (tK (.int 1)))])) (tSeq (tSet 7 (tOrE (tCmpE pEqI (tVar 6) (tK (.int 2))) [(tAndE (tCmpE pEqI (tVar 6) (tK (.int 1))) [(tCmpE pLt (tVar 5) (tK (.int 2)))])])) (tSeq (tSet 8 (tOrE (tCmpE pEqI (tVar 5) (tK (.int 2))) [(tAndE (tCmpE pEqI (tVar 5) (tK (.int 1))) [(tCmpE pLt (tVar 6) (tK (.int 2)))])])) (tSeq (tSet 9 (tAndE (tVar 7) [(tOrE (tCmpE pEqS (tVar 4) (tK (.str (Str.ofString "*")))) [(tNotE (tVar 8)), (tCmpE pEqI (tVar 5) (tK (.int 1)))])])) (tSeq (tSet 10 (tAndE (tVar 8) [(tOrE (tCmpE pEqS (tVar 4) (tK (.str (Str.ofString "*")))) [(tNotE (tVar 7)), (tCmpE pEqI (tVar 6) (tK (.int 1)))])])) T_pB)))))))
theorem T_paired_eq : T_paired = (tSeq (tSet 1 (tList [])) (tSeq (tSet 2 (tList [])) (tSeq (tForR (tCall pLen [(tVar 0)]) 3 T_pA) (tSeq (tRet (tMeth1 isS pJoin (tK (.str (Str.ofString ""))) (tVar 1))) tNil)))) := rfl
@[simp] theorem s_tList0 {ρ : Loc} {H : AH} {Q : V → AH → Prop} : tList [] ρ H Q = (L24 0 ∧ ∀ c, H c = none → Q (.ref c) (H.set c (.list []))) := rfl
theorem clsC_le (c : Nat) : clsC c ≤ 2 := by unfold clsC; split <;> (try split) <;> omega
theorem clsZ_le (l : List Nat) (z : Int) : clsZ l z ≤ 2 := by
  unfold clsZ; split
  · omega
  · exact clsC_le _
theorem int_beq (B k : Nat) : ((B : Int) == (k : Int)) = (B == k) := by
  rw [Bool.eq_iff_iff, beq_iff_eq, beq_iff_eq]
  omega
theorem e_left {ρ : Loc} {H : AH} {Q : V → AH → Prop} {i j : Nat} {A B : Nat} (hi : ρ[i]? = some (some (.int (B : Nat)))) (hj : ρ[j]? = some (some (.int (A : Nat)))) (q : Q (.bool (leftC A B)) H) :
    tOrE (tCmpE pEqI (tVar i) (tK (.int 2))) [(tAndE (tCmpE pEqI (tVar i) (tK (.int 1))) [(tCmpE pLt (tVar j) (tK (.int 2)))])] ρ H Q := by
  have h2 : ((B : Int) == 2) = (B == 2) := int_beq B 2
  have h1 : ((B : Int) == 1) = (B == 1) := int_beq B 1
  have h3 : decide ((A : Int) < 2) = decide (A < 2) := by
    by_cases h : A < 2
    · have : (A : Int) < 2 := by omega
      simp [h, this]
    · have : ¬ (A : Int) < 2 := by omega
      simp [h, this]
  unfold leftC at q
  show ∃ v, ρ[i]? = some (some v) ∧ _
  refine ⟨_, hi, ?_⟩
  show (if ((B : Int) == 2) = true then Q (.bool ((B : Int) == 2)) H else ∃ v, ρ[i]? = some (some v) ∧ _)
  rw [h2]
  cases hb2 : (B == 2) with
  | true => rw [hb2] at q; simp at q ⊢; exact q
  | false =>
    rw [hb2] at q
    simp only [Bool.false_eq_true, if_false]
    refine ⟨_, hi, ?_⟩
    show (if ((B : Int) == 1) = true then ∃ v, ρ[j]? = some (some v) ∧ _ else Q (.bool ((B : Int) == 1)) H)
    rw [h1]
    cases hb1 : (B == 1) with
    | true =>
      rw [hb1] at q
      simp only [if_true]
      refine ⟨_, hj, ?_⟩
      show Q (.bool (decide ((A : Int) < 2))) H
      rw [h3]
      simpa using q
    | false =>
      rw [hb1] at q
      simpa using q
theorem e_open {ρ : Loc} {H : AH} {Q : V → AH → Prop} {i j k : Nat} {x y : Bool} {c A : Nat} (hc : c ∈ sig2) (hi : ρ[i]? = some (some (.bool x))) (hj : ρ[j]? = some (some (.bool y))) (hk : ρ[k]? = some (some (.int (A : Nat)))) (h4 : ρ[4]? = some (some (.str (chS c)))) (q : Q (.bool (x && (c == 42 || !y || A == 1))) H) :
    tAndE (tVar i) [(tOrE (tCmpE pEqS (tVar 4) (tK (.str (Str.ofString "*")))) [(tNotE (tVar j)), (tCmpE pEqI (tVar k) (tK (.int 1)))])] ρ H Q := by
  obtain ⟨_, _, _, t4⟩ := in_tab _ hc
  have hA : ((A : Int) == 1) = (A == 1) := int_beq A 1
  have ee : (decide (c = 42)) = (c == 42) := by
    by_cases h : c = 42 <;> simp [h]
  rw [ee] at t4
  simp only [s_tAndE, s_tAndE0, s_tOrE, s_tOrE0, s_tVar, s_tCmpE, s_tK, s_eqS, s_tNotE, s_truB, hi, hj, hk, h4, Option.some.injEq, exists_eq_left', t4]
  cases x with
  | false => simp at q ⊢; exact q
  | true =>
    simp only [if_true]
    cases hc2 : (c == 42) with
    | true => rw [hc2] at q; simp at q ⊢; exact q
    | false =>
      rw [hc2] at q
      cases y with
      | false => simp at q ⊢; exact q
      | true =>
        simp at q ⊢
        show Q (.bool ((A : Int) == 1)) H
        rw [hA]; exact q
theorem pA_ok {l : List Nat} {p c : Nat} (hl : l.length ≤ 100) (hm : ∀ c ∈ l, c ∈ sig2) (hc : l[p]? = some c) {a b : Addr} {H : AH} {Q : Fl → Loc → AH → Prop} {o4 o5 o6 o7 o8 o9 o10 o11 o12 : Option V}
    (q : T_pB [some (.str (strOf l)), some (.ref a), some (.ref b), some (.int (p : Nat)), some (.str (chS c)), some (.int (clsZ l ((p : Int) - 1))), some (.int (clsZ l ((p : Int) + 1))), some (.bool (left2 l p)), some (.bool (right2 l p)), some (.bool (opens2 l p c)), some (.bool (closes2 l p c)), o11, o12] H Q) :
    T_pA [some (.str (strOf l)), some (.ref a), some (.ref b), some (.int (p : Nat)), o4, o5, o6, o7, o8, o9, o10, o11, o12] H Q := by
  have hlt := (List.getElem?_eq_some_iff.mp hc).1
  have hcps : (strOf l).cps.toList = l := by simp [strOf]
  have hg : getV l (p : Int) = some c := getV_nat hc
  have b2 : Bnd (p : Int) := Bnd.of (by omega) (by omega)
  have hcm := hm _ (List.mem_of_getElem? hc)
  unfold T_pA
  rw [s_tSeq, s_tSet]
  simp only [s_tBin, s_tVar, List.getElem?_cons_zero, List.getElem?_cons_succ, Option.some.injEq, exists_eq_left', s_itemS, hcps, hg]
  refine ⟨b2, ?_⟩
  rw [s_tSeq, s_tSet]
  simp only [s_tCall, s_tAll, s_tAll0, s_tBin, s_tVar, s_tK, s_subI, List.set_cons_succ, List.set_cons_zero, List.getElem?_cons_zero, List.getElem?_cons_succ, Option.some.injEq, exists_eq_left']
  refine ⟨l, (p : Int) - 1, rfl, by omega, by omega, by omega, hm, ?_⟩
  dsimp only
  rw [s_tSeq, s_tSet]
  simp only [s_tCall, s_tAll, s_tAll0, s_tBin, s_tVar, s_tK, s_addI, List.set_cons_succ, List.set_cons_zero, List.getElem?_cons_zero, List.getElem?_cons_succ, Option.some.injEq, exists_eq_left']
  refine ⟨l, (p : Int) + 1, rfl, by omega, by omega, by omega, hm, ?_⟩
  dsimp only
  rw [s_tSeq, s_tSet]
  refine e_left (A := clsZ l ((p : Int) - 1)) (B := clsZ l ((p : Int) + 1)) rfl rfl ?_
  rw [s_tSeq, s_tSet]
  refine e_left (A := clsZ l ((p : Int) + 1)) (B := clsZ l ((p : Int) - 1)) rfl rfl ?_
  rw [s_tSeq, s_tSet]
  refine e_open (c := c) (x := left2 l p) (y := right2 l p) (A := clsZ l ((p : Int) - 1)) hcm rfl rfl rfl rfl ?_
  rw [s_tSeq, s_tSet]
  refine e_open (c := c) (x := right2 l p) (y := left2 l p) (A := clsZ l ((p : Int) + 1)) hcm rfl rfl rfl rfl ?_
  exact q
end Mine
namespace Mine
structure PS (H : AH) (a b : Addr) (tl : List Addr) (s : S2) : Prop where
  out : H a = some (.list (strvs s.1))
  stk : H b = some (.list (tl.map .ref))
  len : tl.length = s.2.length
  tup : ∀ (i c st : Nat), s.2[i]? = some (c, st) → ∃ t, tl[i]? = some t ∧ H t = some (.tup [.str (chS c), .int (st : Nat)])
theorem PS.grow {H H' : AH} {a b : Addr} {tl : List Addr} {s : S2} (p : PS H a b tl s) (g : Grow H H') : PS H' a b tl s :=
  ⟨g _ _ p.out, g _ _ p.stk, p.len, fun i c st h => let ⟨t, h1, h2⟩ := p.tup i c st h; ⟨t, h1, g _ _ h2⟩⟩
def natV (l : List Nat) : List V := l.map fun k => .int (k : Nat)
theorem pB_ok {l : List Nat} {p c : Nat} {cl : Bool} {a b : Addr} {tl : List Addr} {s : S2} {H : AH} (ps : PS H a b tl s) (hc : c ∈ sig2) (hn : s.2.length ≤ 100) {Q : Fl → Loc → AH → Prop} {o0 o3 o5 o6 o7 o8 o9 o11 o12 : Option V}
    (q : ∀ f, H f = none → T_pC [o0, some (.ref a), some (.ref b), o3, some (.str (chS c)), o5, o6, o7, o8, o9, some (.bool cl), some (.ref f), o12] (H.set f (.list (natV (if isSign c && cl then fit2 s.2 c else [])))) Q) :
    T_pB [o0, some (.ref a), some (.ref b), o3, some (.str (chS c)), o5, o6, o7, o8, o9, some (.bool cl), o11, o12] H Q := by
  obtain ⟨_, t2, _, _⟩ := in_tab _ hc
  have hl := ps.len
  have b62 : L62 tl.length := L62.of (by omega)
  unfold T_pB
  simp [t2]
  cases hs : isSign c with
  | false =>
    rw [hs] at q
    simp at q ⊢
    intro f hf
    exact q f hf
  | true =>
    rw [hs] at q
    cases hcl : cl with
    | false =>
      rw [hcl] at q
      simp at q ⊢
      intro f hf
      exact q f hf
    | true =>
      rw [hcl] at q
      simp at q
      simp [ps.stk, b62]
      refine ⟨by omega, by omega, fun k acc H' => H' = H ∧ acc = natV ((List.range k).filter fun i => s.2[i]?.map (·.1) == some c), ⟨rfl, rfl⟩, ?_, ?_⟩
      · rintro k acc H' hk ⟨rfl, rfl⟩
        have hk2 : k < s.2.length := by omega
        have he : s.2[k]? = some s.2[k] := List.getElem?_eq_getElem hk2
        obtain ⟨t, h1, h2⟩ := ps.tup k s.2[k].1 s.2[k].2 he
        have bk : Bnd (k : Int) := Bnd.of (by omega) (by omega)
        have e1 : getV (tl.map V.ref) (k : Int) = some (.ref t) := getV_refs h1
        have e2 : getV [V.str (chS s.2[k].1), .int (s.2[k].2 : Nat)] 0 = some (.str (chS s.2[k].1)) := rfl
        simp [frees, ps.stk, bk, e1, h2, e2]
        rw [List.range_succ, List.filter_append]
        by_cases hcc : s.2[k].1 = c
        · simp [hcc, natV, hk2]
        · have : ¬ chS s.2[k].1 = chS c := fun h => hcc (chS_inj.mp h)
          simp [hcc, natV, hk2, this]
      · rintro acc H' ⟨rfl, rfl⟩ f hf
        rw [hl]
        exact q f hf
end Mine
namespace Mine
theorem sliceV_from' {α : Type} {xs : List α} {i : Nat} : sliceV xs (some (i : Int)) none = xs.drop i := by
  unfold sliceV
  simp only [Option.elim]
  rw [clip_nat]
  by_cases h : i ≤ xs.length
  · rw [Nat.min_eq_left h]
    exact List.take_of_length_le (by simp)
  · rw [Nat.min_eq_right (by omega), List.drop_of_length_le (Nat.le_refl _), List.drop_of_length_le (by omega)]; simp
theorem jn_sum : ∀ l : List Str, (l.map (·.length)).sum = (jn l).length := fun l => (join_len l).symm
theorem jn_drop (l : List Str) (k : Nat) : (jn (l.drop k)).length ≤ (jn l).length := by
  have := jn_append (l.take k) (l.drop k)
  rw [List.take_append_drop] at this
  rw [this, str_len_app]; omega
theorem strvs_take (l : List Str) (k : Nat) : (strvs l).take k = strvs (l.take k) := by simp [strvs, List.map_take]
theorem strvs_drop (l : List Str) (k : Nat) : (strvs l).drop k = strvs (l.drop k) := by simp [strvs, List.map_drop]
theorem strvs_len (l : List Str) : (strvs l).length = l.length := by simp [strvs]
/-- what the closing sign makes -/
def hitS (s : S2) (k st : Nat) : S2 := (s.1.take st ++ [embr (jn (s.1.drop (st + 1)))], s.2.take k)
def passS (s : S2) (c : Nat) (o : Bool) : S2 := (s.1 ++ [chS c], if o then s.2 ++ [(c, s.1.length)] else s.2)
theorem pC_hit {c k ck st : Nat} {a b f : Addr} {tl : List Addr} {s : S2} {H : AH} {fl : List Nat} (ps : PS H a b tl s) (hf : H f = some (.list (natV fl))) (hlast : fl.getLast? = some k) (hk : s.2[k]? = some (ck, st)) (h1 : s.1.length ≤ 1000) (h2 : (jn s.1).length ≤ 10000) (h3 : s.2.length ≤ 1000) (h4 : fl.length ≤ 1000)
    {Q : Fl → Loc → AH → Prop} {o0 o3 o4 o5 o6 o7 o8 o9 o10 o12 : Option V}
    (q : ∀ H' a' b', H a' = none → H b' = none → a' ≠ b' → Grow H H' → PS H' a' b' (tl.take k) (hitS s k st) → Q .next [o0, some (.ref a'), some (.ref b'), o3, o4, o5, o6, o7, o8, o9, o10, some (.ref f), some (.int (st : Nat))] H') :
    T_pC [o0, some (.ref a), some (.ref b), o3, o4, o5, o6, o7, o8, o9, o10, some (.ref f), o12] H Q := by
  obtain ⟨fl', rfl⟩ : ∃ fl', fl = fl' ++ [k] := by
    have hne : fl ≠ [] := by rintro rfl; simp at hlast
    refine ⟨fl.dropLast, ?_⟩
    rw [List.getLast?_eq_some_getLast hne] at hlast
    have := List.dropLast_concat_getLast hne
    rw [Option.some.inj hlast] at this
    exact this.symm
  obtain ⟨t, ht1, ht2⟩ := ps.tup k ck st hk
  have hkl := (List.getElem?_eq_some_iff.mp hk).1
  have hl := ps.len
  have bk : Bnd (k : Int) := Bnd.of (by omega) (by omega)
  have ek : getV (natV (fl' ++ [k])) (-1) = some (.int (k : Nat)) := by
    unfold natV; rw [List.map_append]; exact getV_last
  have et : getV (tl.map V.ref) (k : Int) = some (.ref t) := getV_refs ht1
  have e1 : getV [V.str (chS ck), .int (st : Nat)] 1 = some (.int (st : Nat)) := rfl
  have hne : natV (fl' ++ [k]) ≠ [] := by simp [natV]
  have hem : (natV (fl' ++ [k])).isEmpty = false := by simp [natV]
  unfold T_pC
  simp only [s_tSeq, s_tIfS, s_tCmp, s_tVar, List.getElem?_cons_zero, List.getElem?_cons_succ, Option.some.injEq, exists_eq_left', s_tList0, s_neNil]
  refine ⟨by simp, fun g hg => ⟨natV (fl' ++ [k]), .inl (set_old hg hf), AH.set_self .., ?_⟩⟩
  rw [hem]
  simp only [Bool.not_false, if_true]
  have g1 : Grow H (H.set g (.list [])) := .set hg
  have ps1 := ps.grow g1
  have hf1 := g1 _ _ hf
  have ht1' := g1 _ _ ht2
  generalize hH1 : H.set g (.list []) = H1 at *
  have lt1 : L24 tl.length := L24.of (by omega)
  have lo1 : L24 s.1.length := L24.of (by omega)
  simp [hf1, ek, ps1.stk, bk, et, ht1', e1, lt1, sliceV_to]
  intro b' hb'
  have g2 : Grow H1 (H1.set b' (.list ((tl.map V.ref).take k))) := .set hb'
  have ps2 := ps1.grow g2
  have hbn := g1.none hb'
  have hbH : (H1.set b' (.list ((tl.map V.ref).take k))) b' = some (.list ((tl.map V.ref).take k)) := AH.set_self ..
  have e2 : List.map V.ref (tl.take k) = (tl.map V.ref).take k := by simp [List.map_take]
  generalize hH2 : H1.set b' (.list ((tl.map V.ref).take k)) = H2 at *
  have lo2 : L24 (strvs s.1).length := by rw [strvs_len]; exact lo1
  refine ⟨strvs s.1, .inl ps2.out, lo2, fun c1 hc1 => ?_⟩
  have g3 : Grow H2 (H2.set c1 (.list (List.take st (strvs s.1)))) := .set hc1
  have hc1s : (H2.set c1 (.list (List.take st (strvs s.1)))) c1 = some (.list (List.take st (strvs s.1))) := AH.set_self ..
  have ps3 := ps2.grow g3
  generalize hH3 : H2.set c1 (.list (List.take st (strvs s.1))) = H3 at *
  refine ⟨strvs s.1, .inl ps3.out, lo2, fun c2 hc2 => ?_⟩
  have es : sliceV (strvs s.1) (some ((st : Int) + 1)) none = strvs (s.1.drop (st + 1)) := by
    have := sliceV_from' (xs := strvs s.1) (i := st + 1)
    rw [strvs_drop] at this
    exact this
  have l0 : (Str.ofString "").length = 0 := by decide
  have l1 : (Str.ofString "{emphasis}").length = 10 := by decide
  have l2 : (Str.ofString "{/emphasis}").length = 11 := by decide
  have hd := jn_drop s.1 (st + 1)
  refine ⟨s.1.drop (st + 1), es, ?_, ?_, ?_, ?_⟩
  · rw [jn_sum, l0]; exact L24.of (by omega)
  · rw [l1]; exact L24.of (by show _ + (jn (s.1.drop (st + 1))).length ≤ _; omega)
  · rw [str_len_app, l1, l2]; exact L24.of (by show _ + (jn (s.1.drop (st + 1))).length + _ ≤ _; omega)
  rw [es]
  intro c3 hc3
  have g4 : Grow H3 (H3.set c2 (.list (strvs (s.1.drop (st + 1))))) := .set hc2
  generalize hH4 : H3.set c2 (.list (strvs (s.1.drop (st + 1)))) = H4 at *
  have g5 : Grow H4 (H4.set c3 (.list [V.str (embr (jn (s.1.drop (st + 1))))])) := .set hc3
  have hjj : Str.ofString "{emphasis}" ++ (Str.ofString "").join (s.1.drop (st + 1)) ++ Str.ofString "{/emphasis}" = embr (jn (s.1.drop (st + 1))) := rfl
  rw [hjj]
  generalize hH5 : H4.set c3 (.list [V.str (embr (jn (s.1.drop (st + 1))))]) = H5 at *
  refine ⟨List.take st (strvs s.1), g5 _ _ (g4 _ _ hc1s), L24.of (by simp [strvs_len]; omega), fun c4 hc4 => ?_⟩
  have g6 : Grow H5 (H5.set c4 (.list (List.take st (strvs s.1) ++ [V.str (embr (jn (s.1.drop (st + 1))))]))) := .set hc4
  have gA : Grow H H5 := g1.trans (g2.trans (g3.trans (g4.trans g5)))
  have hbF := (g3.trans (g4.trans (g5.trans g6))) _ _ hbH
  refine q _ c4 b' (gA.none hc4) hbn ?_ (gA.trans g6) ⟨?_, ?_, ?_, fun i ci sti hi => ?_⟩
  · rintro rfl
    rw [(g3.trans (g4.trans g5)) _ _ hbH] at hc4; cases hc4
  · rw [AH.set_self]
    unfold hitS strvs
    simp [List.map_take]
  · rw [hbF, e2]
  · unfold hitS; simp; omega
  · unfold hitS at hi
    dsimp only at hi
    rw [List.getElem?_take] at hi
    split at hi
    · rename_i hik
      obtain ⟨t', w1, w2⟩ := ps.tup i ci sti hi
      exact ⟨t', by rw [List.getElem?_take, if_pos hik]; exact w1, (gA.trans g6) _ _ w2⟩
    · cases hi
theorem pC_pass {c : Nat} {o : Bool} {a b f : Addr} {tl : List Addr} {s : S2} {H : AH} (ps : PS H a b tl s) (hab : a ≠ b) (hf : H f = some (.list [])) (hc : c ∈ sig2) (h1 : s.1.length ≤ 1000) (h3 : s.2.length ≤ 1000)
    {Q : Fl → Loc → AH → Prop} {o0 o3 o5 o6 o7 o8 o10 o12 : Option V}
    (q : ∀ H' tl', (∀ x y, x ≠ a → x ≠ b → H x = some y → H' x = some y) → PS H' a b tl' (passS s c (isSign c && o)) → Q .next [o0, some (.ref a), some (.ref b), o3, some (.str (chS c)), o5, o6, o7, o8, some (.bool o), o10, some (.ref f), o12] H') :
    T_pC [o0, some (.ref a), some (.ref b), o3, some (.str (chS c)), o5, o6, o7, o8, some (.bool o), o10, some (.ref f), o12] H Q := by
  obtain ⟨_, t2, _, _⟩ := in_tab _ hc
  have hl := ps.len
  unfold T_pC
  simp only [s_tSeq, s_tIfS, s_tCmp, s_tVar, List.getElem?_cons_zero, List.getElem?_cons_succ, Option.some.injEq, exists_eq_left', s_tList0, s_neNil]
  refine ⟨by simp, fun g hg => ⟨[], .inl (set_old hg hf), AH.set_self .., ?_⟩⟩
  simp only [List.isEmpty_nil, Bool.not_true, Bool.false_eq_true, if_false]
  have g1 : Grow H (H.set g (.list [])) := .set hg
  have ps1 := ps.grow g1
  have keep1 : ∀ x y, x ≠ a → x ≠ b → H x = some y → (H.set g (.list [])) x = some y := fun x y _ _ h => g1 _ _ h
  generalize hH1 : H.set g (.list []) = H1 at *
  have l62 : L62 s.1.length := L62.of (by omega)
  have m24 : M24 s.1.length := M24.of (by omega)
  have m24b : M24 tl.length := M24.of (by omega)
  simp [t2]
  have tne : ∀ {t : Addr} {vs : List V}, H1 t = some (.tup vs) → t ≠ a ∧ t ≠ b := by
    intro t vs h
    refine ⟨?_, ?_⟩
    · rintro rfl; rw [ps1.out] at h; cases h
    · rintro rfl; rw [ps1.stk] at h; cases h
  have plain : (isSign c && o) = false → (∃ xs, H1 a = some (.list xs)) ∧ ∃ xs, H1 a = some (.list xs) ∧ M24 xs.length ∧ Q Fl.next [o0, some (.ref a), some (.ref b), o3, some (.str (chS c)), o5, o6, o7, o8, some (.bool o), o10, some (.ref f), o12] (H1.set a (.list (xs ++ [V.str (chS c)]))) := by
    intro hno
    rw [hno] at q
    refine ⟨⟨_, ps1.out⟩, _, ps1.out, by rw [strvs_len]; exact m24, q _ tl (fun x y hxa hxb h => by rw [AH.set_ne _ _ hxa]; exact keep1 x y hxa hxb h) ⟨?_, ?_, ?_, fun i ci sti hi => ?_⟩⟩
    · rw [AH.set_self]; simp [passS, strvs]
    · rw [AH.set_ne _ _ (Ne.symm hab)]; exact ps1.stk
    · simpa [passS] using hl
    · obtain ⟨t, w1, w2⟩ := ps1.tup i ci sti (by simpa [passS] using hi)
      exact ⟨t, w1, by rw [AH.set_ne _ _ (tne w2).1]; exact w2⟩
  by_cases hs : isSign c = true
  · rw [if_pos hs]
    by_cases ho : o = true
    · rw [if_pos ho]
      subst ho
      rw [hs] at q
      simp only [Bool.and_self] at q
      refine ⟨⟨_, ps1.stk⟩, _, .inl ps1.out, by rw [strvs_len]; exact l62, fun t ht => ?_⟩
      have hta : t ≠ a := by rintro rfl; rw [ps1.out] at ht; cases ht
      have htb : t ≠ b := by rintro rfl; rw [ps1.stk] at ht; cases ht
      refine ⟨tl.map .ref, by rw [AH.set_ne _ _ (Ne.symm htb)]; exact ps1.stk, by simpa using m24b, ?_⟩
      have ea : ((H1.set t (.tup [V.str (chS c), V.int (strvs s.1).length])).set b (.list (tl.map V.ref ++ [V.ref t]))) a = some (.list (strvs s.1)) := by
        rw [AH.set_ne _ _ hab, AH.set_ne _ _ (Ne.symm hta)]; exact ps1.out
      refine ⟨⟨_, ea⟩, _, ea, by rw [strvs_len]; exact m24, q _ (tl ++ [t]) (fun x y hxa hxb h => ?_) ⟨?_, ?_, ?_, fun i ci sti hi => ?_⟩⟩
      · rw [AH.set_ne _ _ hxa, AH.set_ne _ _ hxb, AH.set_ne]
        · exact keep1 x y hxa hxb h
        · rintro rfl
          have := keep1 x y hxa hxb h
          rw [ht] at this; cases this
      · rw [AH.set_self]; simp [passS, strvs]
      · rw [AH.set_ne _ _ (Ne.symm hab), AH.set_self]; simp
      · simp [passS, hl]
      · simp only [passS, if_true] at hi
        by_cases hil : i < s.2.length
        · rw [List.getElem?_append_left hil] at hi
          obtain ⟨t', w1, w2⟩ := ps1.tup i ci sti hi
          have ht' : t' ≠ t := by rintro rfl; rw [ht] at w2; cases w2
          exact ⟨t', by rw [List.getElem?_append_left (by omega)]; exact w1, by rw [AH.set_ne _ _ (tne w2).1, AH.set_ne _ _ (tne w2).2, AH.set_ne _ _ ht']; exact w2⟩
        · have hie : i = s.2.length := by
            have := (List.getElem?_eq_some_iff.mp hi).1
            simp at this; omega
          subst hie
          simp at hi
          obtain ⟨rfl, rfl⟩ := hi
          refine ⟨t, by rw [← hl]; simp, ?_⟩
          rw [AH.set_ne _ _ hta, AH.set_ne _ _ htb, AH.set_self, strvs_len]
    · rw [if_neg ho]
      exact plain (by simp [hs, ho])
  · rw [if_neg hs]
    exact plain (by simp [hs])
end Mine
namespace Mine
theorem step2_hit {l : List Nat} {p c k ck st : Nat} {s : S2} (hc : l[p]? = some c) (hh : hit2 l p c s.2 = some k) (hk : s.2[k]? = some (ck, st)) : step2 l p s = hitS s k st := by
  unfold step2
  rw [hc]
  dsimp only
  rw [hh]
  dsimp only
  rw [hk]
  rfl
theorem step2_pass {l : List Nat} {p c : Nat} {s : S2} (hc : l[p]? = some c) (hh : hit2 l p c s.2 = none) : step2 l p s = passS s c (isSign c && opens2 l p c) := by
  unfold step2
  rw [hc]
  dsimp only
  rw [hh]
  rfl
theorem hit2_lt {l : List Nat} {p c k : Nat} {stk : List (Nat × Nat)} (h : hit2 l p c stk = some k) : k < stk.length := by
  unfold hit2 at h
  split at h
  · have := List.mem_of_getLast? h
    unfold fit2 at this
    have := (List.mem_filter.mp this).1
    simpa using this
  · cases h
theorem run2_len (l : List Nat) : ∀ p, (run2 l p).1.length ≤ p ∧ (run2 l p).2.length ≤ p ∧ (jn (run2 l p).1).length ≤ 22 * p
  | 0 => by
    have : (Str.ofString "").length = 0 := by decide
    refine ⟨Nat.le_refl _, Nat.le_refl _, ?_⟩
    show (Str.ofString "").length ≤ _
    omega
  | p + 1 => by
    obtain ⟨a, b, c⟩ := run2_len l p
    rw [run2]
    cases hc : l[p]? with
    | none =>
      have : step2 l p (run2 l p) = run2 l p := by unfold step2; rw [hc]
      rw [this]; omega
    | some ch =>
      cases hh : hit2 l p ch (run2 l p).2 with
      | some k =>
        have hk := hit2_lt hh
        rw [step2_hit (ck := (run2 l p).2[k].1) (st := (run2 l p).2[k].2) hc hh (List.getElem?_eq_getElem hk)]
        unfold hitS
        generalize (run2 l p).2[k].2 = st
        have l1 : (Str.ofString "{emphasis}").length = 10 := by decide
        have l2 : (Str.ofString "{/emphasis}").length = 11 := by decide
        have e1 : (jn (run2 l p).1).length = (jn ((run2 l p).1.take st)).length + (jn ((run2 l p).1.drop st)).length := by
          rw [← str_len_app, ← jn_append, List.take_append_drop]
        have e2 : (jn ((run2 l p).1.drop (st + 1))).length ≤ (jn ((run2 l p).1.drop st)).length := by
          have := jn_drop ((run2 l p).1.drop st) 1
          rw [List.drop_drop] at this
          exact this
        have hemb : (embr (jn ((run2 l p).1.drop (st + 1)))).length = 21 + (jn ((run2 l p).1.drop (st + 1))).length := by
          unfold embr; rw [str_len_app, str_len_app, l1, l2]; omega
        have e3 : (jn [embr (jn ((run2 l p).1.drop (st + 1)))]).length = 21 + (jn ((run2 l p).1.drop (st + 1))).length := hemb
        refine ⟨by simp; omega, by simp; omega, ?_⟩
        dsimp only
        rw [jn_append, str_len_app, e3]
        omega
      | none =>
        rw [step2_pass hc hh]
        unfold passS
        have e3 : (jn [chS ch]).length = 1 := rfl
        refine ⟨by simp; omega, ?_, ?_⟩
        · dsimp only
          cases (isSign ch && opens2 l p ch) with
          | true => simp; omega
          | false => simp; omega
        · dsimp only
          rw [jn_append, str_len_app, e3]; omega
theorem W_paired : WOk P_paired 1 12 T_paired := by
  rintro _ H Q ⟨l, rfl, hl, hm, q⟩
  refine ⟨rfl, ?_⟩
  have hlen := strOf_len l
  have b62 : L62 l.length := L62.of (by omega)
  rw [T_paired_eq]
  simp [List.replicate, hlen, b62]
  intro a ha b hb
  have hab : a ≠ b := by rintro rfl; rw [AH.set_self] at hb; cases hb
  have hb0 : H b = none := by rw [AH.set_ne _ _ (Ne.symm hab)] at hb; exact hb
  have g0 : Grow H ((H.set a (.list [])).set b (.list [])) := (Grow.set ha).trans (.set hb)
  refine ⟨by omega, fun k ρ H' => Grow H H' ∧ ∃ a b tl o3 o4 o5 o6 o7 o8 o9 o10 o11 o12, ρ = [some (V.str (strOf l)), some (V.ref a), some (V.ref b), o3, o4, o5, o6, o7, o8, o9, o10, o11, o12] ∧ PS H' a b tl (run2 l k) ∧ H a = none ∧ H b = none ∧ a ≠ b,
    ⟨g0, a, b, [], none, none, none, none, none, none, none, none, none, none, rfl, ⟨?_, ?_, rfl, by simp [run2]⟩, ha, hb0, hab⟩, ?_, ?_⟩
  · rw [AH.set_ne _ _ hab, AH.set_self]; rfl
  · rw [AH.set_self]; rfl
  · rintro k ρ H' hk ⟨g, a, b, tl, o3, o4, o5, o6, o7, o8, o9, o10, o11, o12, rfl, ps, ha, hb, hab⟩
    have hk' : k < l.length := hk
    have hc : l[k]? = some l[k] := List.getElem?_eq_getElem hk'
    generalize l[k] = c at hc
    have hcm := hm _ (List.mem_of_getElem? hc)
    obtain ⟨r1, r2, r3⟩ := run2_len l k
    refine pA_ok hl hm hc ?_
    refine pB_ok (l := l) (p := k) ps hcm (by omega) fun f hf => ?_
    have gf : Grow H' (H'.set f (.list (natV (if isSign c && closes2 l k c then fit2 (run2 l k).2 c else [])))) := .set hf
    have psf := ps.grow gf
    have hff : (H'.set f (.list (natV (if isSign c && closes2 l k c then fit2 (run2 l k).2 c else [])))) f = some (.list (natV (if isSign c && closes2 l k c then fit2 (run2 l k).2 c else []))) := AH.set_self ..
    generalize hHf : H'.set f (.list (natV (if isSign c && closes2 l k c then fit2 (run2 l k).2 c else []))) = Hf at *
    have gg := g.trans gf
    have hhit : hit2 l k c (run2 l k).2 = (if isSign c && closes2 l k c then fit2 (run2 l k).2 c else []).getLast? := by
      unfold hit2; split <;> rfl
    have hfll : (if isSign c && closes2 l k c then fit2 (run2 l k).2 c else []).length ≤ 100 := by
      split
      · unfold fit2
        have := List.length_filter_le (fun i => (run2 l k).2[i]?.map (·.1) == some c) (List.range (run2 l k).2.length)
        rw [List.length_range] at this
        omega
      · simp
    cases hh : hit2 l k c (run2 l k).2 with
    | some j =>
      have hj := hit2_lt hh
      have hje := List.getElem?_eq_getElem hj
      rw [hhit] at hh
      refine pC_hit (c := c) (ck := (run2 l k).2[j].1) (st := (run2 l k).2[j].2) psf hff hh hje (by omega) (by omega) (by omega) (by omega) ?_
      intro H2 a' b' ha' hb' hab' g2 ps2
      refine ⟨gg.trans g2, a', b', tl.take j, _, _, _, _, _, _, _, _, _, _, rfl, ?_, gg.none ha', gg.none hb', hab'⟩
      rw [run2, step2_hit (ck := (run2 l k).2[j].1) (st := (run2 l k).2[j].2) hc (hhit.trans hh) hje]
      exact ps2
    | none =>
      rw [hhit] at hh
      have hnil := List.getLast?_eq_none_iff.mp hh
      rw [hnil] at hff
      refine pC_pass psf hab hff hcm (by omega) (by omega) ?_
      intro H2 tl' keep ps2
      refine ⟨fun x y hxy => ?_, a, b, tl', _, _, _, _, _, _, _, _, _, _, rfl, ?_, ha, hb, hab⟩
      · refine keep x y ?_ ?_ (gg x y hxy)
        · rintro rfl; rw [ha] at hxy; cases hxy
        · rintro rfl; rw [hb] at hxy; cases hxy
      · rw [run2, step2_pass hc (hhit.trans hh)]
        exact ps2
  · rintro ρ H' ⟨g, a, b, tl, o3, o4, o5, o6, o7, o8, o9, o10, o11, o12, rfl, ps, ha, hb, hab⟩
    obtain ⟨r1, r2, r3⟩ := run2_len l l.length
    have l0 : (Str.ofString "").length = 0 := by decide
    simp [ps.out]
    refine ⟨_, rfl, ?_, ?_⟩
    · rw [jn_sum, l0]; exact L24.of (by omega)
    · exact q _ g
end Mine
namespace Mine
theorem procM_ty {maxd : Nat} : ∀ (f : Nat) {st : St} {cp : Nat} {bots : List (BKey × Nat)} {ns' : List Nd}, tyL st.ns = true → procM maxd f st cp bots = some ns' → tyL ns' = true
  | 0, st, cp, bots, ns', _, h => by unfold procM at h; cases h
  | f + 1, st, cp, bots, ns', g, h => by
    rw [procM] at h
    split at h
    · cases h; exact g
    · split at h
      · exact procM_ty f g h
      · split at h
        · exact procM_ty f g h
        · split at h
          · cases h
          · split at h
            · split at h
              · split at h
                · split at h
                  · rename_i u ks hu hks
                    split at h
                    · cases h
                    · rename_i st' hap
                      have hks' := kidsM_ok hks
                      subst hks'
                      obtain ⟨x1, x2, ds1, n1, t1, ds2, n3, e1, e2, hoc, hop, hu1, hu2, hr, hc, rfl⟩ := applyM_split hap
                      have g2 := fun (oi ci i k : Nat) => put_ty (oi := oi) (ci := ci) (u := u) (x1 := x1) (x2 := x2) g (mid_of (P := tyL) ty_take g i k)
                      split at h
                      · split at h
                        · exact procM_ty f (g2 _ _ _ _) h
                        · exact procM_ty f (g2 _ _ _ _) h
                      · cases h
                  · exact procM_ty f g h
                · cases h
              · cases h
            · cases h
theorem densePair_ty {ns : List Nd} {ds : List Dl} {p : Nat} {a : List Nd} (g : tyL ns = true) (h : densePair ns ds p = some a) : tyL a = true := by
  have nd : ∀ {k : Nd}, tyN k = true → tyN (.node (Str.ofString "emphasis") [k]) = true := fun hk => by
    simp only [tyN, tyL, hk]; decide
  unfold densePair at h
  split at h
  · split at h
    · split at h
      · rename_i k hk
        have hkt := ty_mem g (List.mem_of_getElem? hk)
        split at h
        · cases h
          simp only [tyL, nd hkt, Bool.and_self]
        · split at h
          · rename_i b hb
            have hbt := ty_mem g (List.mem_of_getElem? hb)
            cases h
            simp only [tyL, nd hkt, hbt, Bool.and_self]
          · cases h
      · cases h
    · cases h
  · cases h
theorem densePairs_ty {ns : List Nd} {ds : List Dl} (g : tyL ns = true) : ∀ (k p : Nat) {a : List Nd}, densePairs ns ds p k = some a → tyL a = true
  | 0, p, a, h => by unfold densePairs at h; cases h; rfl
  | k + 1, p, a, h => by
    rw [densePairs_step] at h
    split at h
    · rename_i a1 b1 h1 h2
      cases h
      rw [tyL_append, densePair_ty g h1, densePairs_ty g k _ h2]; rfl
    · cases h
theorem finM_ty {x : Str} {m f : Nat} {ns : List Nd} (h : finM x m f = some ns) : tyL ns = true := by
  unfold finM at h
  split at h
  · cases h; rfl
  · obtain ⟨ns0, ds, e, si⟩ := splitM_ok (t := x.cps.toList) (x.length + 1) 0 (.start _) (by rw [len_cps]; omega)
    rw [e] at h
    dsimp only at h
    have g0 := (text_facts si.tx).2.2
    split at h
    · rename_i ns' hd
      cases h
      rw [(merge_ok ns' []).2.2.2.1]
      unfold denseM at hd
      split at hd
      · cases hd
      · split at hd
        · obtain ⟨a, ha, rfl⟩ := Option.map_eq_some_iff.mp hd
          rw [tyL_append, densePairs_ty g0 _ _ ha, (ty_take g0 _).2]; rfl
        · cases hd
    · obtain ⟨out, ho, rfl⟩ := Option.map_eq_some_iff.mp h
      rw [(merge_ok out []).2.2.2.1]
      exact procM_ty _ g0 ho
def sigB : List Nat := [97, 98, 32, 42, 95, 46]
theorem signsB_is : lawSigns2.cps.toList = sigB := by decide
def signB (n : Int) : Nat := sigB[(n.fmod 6).toNat]?.getD 42
theorem signB_get (n : Int) : getV lawSigns2.cps.toList (n.fmod 6) = some (signB n) ∧ Bnd (n.fmod 6) ∧ signB n ∈ sig2 := by
  have h1 : 0 ≤ n.fmod 6 := Int.fmod_nonneg_of_pos _ (by omega)
  have h2 : n.fmod 6 < 6 := Int.fmod_lt_of_pos _ (by omega)
  have : (n.fmod 6).toNat < sigB.length := by show _ < 6; omega
  refine ⟨?_, Bnd.of (by omega) (by omega), ?_⟩
  · unfold getV signB
    rw [if_pos h1, signsB_is]
    rw [List.getElem?_eq_getElem this]; rfl
  · unfold signB
    rw [List.getElem?_eq_getElem this]
    exact List.getElem_mem this
def addB (t : List Nat) (n : Int) : List Nat := t ++ [if isSign (signB n) && t.getLast? == some (signB n) then 97 else signB n]
theorem one_snoc {t : List Nat} {d : Nat} (h : oneRun t) (hd : isSign d = true → t.getLast? ≠ some d) : oneRun (t ++ [d]) := by
  intro p c hc hs hn
  by_cases h1 : p + 1 < t.length
  · rw [List.getElem?_append_left (by omega)] at hc
    rw [List.getElem?_append_left h1] at hn
    exact h p c hc hs hn
  · have hp := (List.getElem?_eq_some_iff.mp hn).1
    simp at hp
    have hpe : p + 1 = t.length := by omega
    rw [hpe] at hn
    simp at hn
    subst hn
    rw [List.getElem?_append_left (by omega)] at hc
    refine hd hs ?_
    rw [List.getLast?_eq_getElem?, ← hpe]
    simpa using hc
theorem addB_ok {t : List Nat} (h1 : oneRun t) (h2 : ∀ c ∈ t, c ∈ sig2) (n : Int) : oneRun (addB t n) ∧ (∀ c ∈ addB t n, c ∈ sig2) ∧ (addB t n).length = t.length + 1 := by
  have hm := (signB_get n).2.2
  unfold addB
  refine ⟨one_snoc h1 fun hs => ?_, fun c hc => ?_, by simp⟩
  · split at hs
    · simp [isSign] at hs
    · rename_i hno
      rw [if_neg hno]
      intro hl
      rw [hs, hl] at hno
      simp at hno
  · rcases List.mem_append.mp hc with h | h
    · exact h2 c h
    · simp only [List.mem_singleton] at h
      subst h
      split
      · simp [sig2]
      · exact hm
theorem lineB_ok : ∀ (ns : List Int) (t : List Nat), oneRun t → (∀ c ∈ t, c ∈ sig2) → oneRun (ns.foldl addB t) ∧ (∀ c ∈ ns.foldl addB t, c ∈ sig2) ∧ (ns.foldl addB t).length = t.length + ns.length
  | [], t, h1, h2 => ⟨h1, h2, rfl⟩
  | n :: r, t, h1, h2 => by
    obtain ⟨a, b, c⟩ := addB_ok h1 h2 n
    obtain ⟨x, y, z⟩ := lineB_ok r (addB t n) a b
    exact ⟨x, y, by rw [List.foldl_cons, z, c, List.length_cons]; omega⟩
end Mine
namespace Mine
def T_lb : TS := (tSeq (tSet 3 (tBin pItem (tK (.str lawSigns2)) (tBin pModI (tVar 2) (tK (.int 6))))) (tSeq (tSet 1 (tBin pAddS (tVar 1) (tIf (tAndB [(tCmp pInS (tVar 3) (tK (.str (Str.ofString "*_")))), (tCmp pEqS (tSlice (tVar 1) (some (tNeg (tK (.int 1)))) none) (tVar 3))]) (tK (.str (Str.ofString "a"))) (tVar 3)))) tNil))
def T_lt : TS := (tSeq (tSet 4 (tCall P_paired [(tVar 1)])) (tSeq (tRet (tCmpE pEqS (tCall (P_shown 12) [(tCall P_finalize [(tList [(tDict2 (Str.ofString "type") (tK (.str (Str.ofString "text"))) (Str.ofString "raw") (tVar 1))]), (tK (.bool true)), (tK (.int 20))])]) (tVar 4))) tNil))
theorem T_lawB_eq : T_lawB = (tSeq (tSet 1 (tK (.str (Str.ofString "")))) (tSeq (tForL (tOrE (tSlice (tVar 0) none (some (tK (.int 24)))) [(tList [(tK (.int 3)), (tK (.int 0)), (tK (.int 3))])]) 2 T_lb) T_lt)) := rfl
theorem last_slice (t : List Nat) (c : Nat) : (Txt.slice (strOf t) (some (-1)) none == chS c) = (t.getLast? == some c) := by
  by_cases h : t = []
  · subst h
    have e : Txt.slice (strOf []) (some (-1)) none = Str.ofString "" := by decide
    rw [e]
    have : ¬ Str.ofString "" = chS c := by
      intro h
      have := congrArg Str.length h
      rw [show (Str.ofString "").length = 0 by decide] at this
      have : (chS c).length = 1 := rfl
      omega
    simp [this]
  · have hlen := strOf_len t
    have hpos : 0 < t.length := List.length_pos_iff.mpr h
    have e : Txt.slice (strOf t) (some (-1)) none = strOf (t.drop (t.length - 1)) := by
      show StrLaws.sliceText (strOf t) (some (-1)) none = _
      rw [StrLaws.sliceText_from_neg (by omega) (by omega)]
      have hcps : (strOf t).cps.toList = t := by simp [strOf]
      rw [hcps, hlen]
      have e1 : ((-1 : Int) + (t.length : Int)).toNat = t.length - 1 := by omega
      have e2 : ((t.length : Int) - ((-1 : Int) + (t.length : Int))).toNat = 1 := by omega
      rw [e1, e2, List.take_of_length_le (by simp; omega)]
      rfl
    obtain ⟨t', d, rfl⟩ : ∃ t' d, t = t' ++ [d] := ⟨t.dropLast, t.getLast h, (List.dropLast_concat_getLast h).symm⟩
    rw [e]
    simp only [List.length_append, List.length_cons, List.length_nil, Nat.add_sub_cancel, List.drop_left, List.getLast?_append, List.getLast?_singleton, Option.some_or]
    have : strOf [d] = chS d := rfl
    rw [this]
    by_cases hdc : d = c
    · subst hdc; simp
    · have h1 : (chS d == chS c) = false := beq_false_of_ne fun q => hdc (chS_inj.mp q)
      have h2 : (some d == some c) = false := beq_false_of_ne fun q => hdc (Option.some.inj q)
      rw [h1, h2]
def P_lawB : FnP := fun vs H Q => ∃ (s : Addr) (ns : List Int), vs = [.ref s] ∧ H s = some (.ro (ns.map .int)) ∧ ns.length ≤ 63 ∧ tabOk H ∧ ∀ H', Q (.bool true) H'
theorem lt_ok (hP : Plain02) {H : AH} {t : List Nat} (htab : tabOk H) (hl : t.length ≤ 24) (hm : ∀ c ∈ t, c ∈ sig2) (h1 : oneRun t) {o0 o2 o3 o4 : Option V} {Q : V → AH → Prop} (q : ∀ H', Q (.bool true) H') :
    T_lt [o0, some (.str (strOf t)), o2, o3, o4] H (retQ Q) := by
  obtain ⟨fuel, out, hf, k1, k2, k3⟩ := hP t hm hl h1
  have hty := finM_ty hf
  have x1 := strOf_len t
  have hc : ∀ c ∈ (strOf t).cps.toList, c ≠ 38 := by
    intro c hc
    simp [strOf] at hc
    have := hm c hc
    simp [sig2] at this
    omega
  simp [T_lt]
  refine ⟨t, rfl, by omega, hm, fun H1 g1 => ?_⟩
  simp
  intro a ha b hb
  have htab1 : tabOk ((H1.set a (.dict [(Str.ofString "type", V.str (Str.ofString "text")), (Str.ofString "raw", V.str (strOf t))])).set b (.list [.ref a])) := ((Grow.set ha).trans (.set hb)) _ _ (g1 _ _ htab)
  have hta : ((H1.set a (.dict [(Str.ofString "type", V.str (Str.ofString "text")), (Str.ofString "raw", V.str (strOf t))])).set b (.list [.ref a])) a = some (.dict [(Str.ofString "type", V.str (Str.ofString "text")), (Str.ofString "raw", V.str (strOf t))]) := (Grow.set hb) _ _ (AH.set_self ..)
  refine ⟨b, a, strOf t, 20, fuel, out, rfl, AH.set_self .., ⟨hta, trivial⟩, htab1, by omega, hc, hf, ?_⟩
  intro H' c pv fp hc' r'
  refine ⟨c, pv, out, fp, rfl, hc', r', hty, k3, k2, ?_⟩
  simp [k1]
  exact q _
theorem lb_loop {l : Addr} {ms : List Int} {H : AH} (hl : H l = some (.list (ms.map .int))) (hn : ms.length ≤ 24) {o0 : Option V} {K : Fl → Loc → AH → Prop}
    (q : ∀ o2 o3, K .next [o0, some (.str (strOf (ms.foldl addB []))), o2, o3, none] H) : qForL 2 T_lb [o0, some (.str (Str.ofString "")), none, none, none] K l H := by
  refine ⟨ms.map .int, .inl hl, fun k ρ H' => H' = H ∧ ∃ o2 o3, ρ = [o0, some (.str (strOf ((ms.take k).foldl addB []))), o2, o3, none], ⟨rfl, none, none, rfl⟩, ?_, ?_⟩
  · rintro k ρ H' hk ⟨rfl, o2, o3, rfl⟩
    simp at hk
    have hg : (ms.map V.int)[k]? = some (.int ms[k]) := by simp [hk]
    have hmk : ms[k]? = some ms[k] := List.getElem?_eq_getElem hk
    refine ⟨.inl hl, ?_⟩
    rw [hg]
    have htk : (ms.take (k + 1)).foldl addB [] = addB ((ms.take k).foldl addB []) ms[k] := by
      rw [take_at hmk, List.foldl_append]; rfl
    dsimp only
    rw [htk]
    generalize ms[k] = n at *
    obtain ⟨g1, g2, g3⟩ := signB_get n
    obtain ⟨w1, w2, w3⟩ := lineB_ok (ms.take k) [] (by intro p c h; simp at h) (by simp)
    generalize (ms.take k).foldl addB [] = t at *
    have htl : t.length ≤ 24 := by simp at w3; omega
    obtain ⟨_, t2, _, _⟩ := in_tab _ g3
    have e : (⟨#[signB n]⟩ : Str) = chS (signB n) := rfl
    have b24 : L24 (strOf t).length := L24.of (by rw [strOf_len]; omega)
    have b25 : ∀ x : Nat, L24 ((strOf t).length + (chS x).length) := fun x => L24.of (by rw [strOf_len]; show _ + 1 ≤ _; omega)
    have ls := last_slice t (signB n)
    have ea : Str.ofString "a" = chS 97 := by decide
    have app : ∀ x : Nat, strOf t ++ chS x = strOf (t ++ [x]) := fun x => strOf_append t [x]
    unfold T_lb
    simp only [s_tSeq, s_tSet, s_tBin, s_tK, s_tVar, s_modI, List.set_cons_succ, List.set_cons_zero, List.getElem?_cons_zero, List.getElem?_cons_succ, Option.some.injEq, exists_eq_left', s_itemS, g1, s_tIf, s_tAndB, s_tAndB0, s_tCmp, s_notInS, s_inS, s_slice, s_partS, s_partN, s_tNeg, e, t2, s_eqS]
    refine ⟨by decide, g2, ?_⟩
    unfold addB
    cases hs : isSign (signB n) with
    | false =>
      simp only [Bool.false_eq_true, if_false, s_addS, Bool.false_and]
      exact ⟨b25 _, rfl, _, _, by rw [app]⟩
    | true =>
      simp only [if_true, Bool.true_and]
      refine ⟨b24, ?_⟩
      rw [ls]
      cases hb : (t.getLast? == some (signB n)) with
      | false =>
        simp only [Bool.false_eq_true, if_false, s_addS]
        exact ⟨b25 _, rfl, _, _, by rw [app]⟩
      | true =>
        simp only [if_true, s_addS, ea]
        exact ⟨b25 _, rfl, _, _, by rw [app]⟩
  · rintro ρ H' ⟨rfl, o2, o3, rfl⟩
    refine ⟨.inl hl, ?_⟩
    rw [List.take_of_length_le (by simp)]
    exact q _ _
theorem W_lawB (hP : Plain02) : WOk P_lawB 1 4 T_lawB := by
  rintro _ H Q ⟨s, ns, rfl, hs, hn, htab, q⟩
  refine ⟨rfl, ?_⟩
  have b1 : L24 ns.length := L24.of (by omega)
  have b2 : L62 (ns.take 24).length := L62.of (by simp; omega)
  rw [T_lawB_eq]
  have hsl : sliceV (ns.map V.int) none (some (24 : Int)) = (ns.take 24).map V.int := by
    have := sliceV_to (xs := ns.map V.int) (j := 24)
    rw [List.map_take]; exact this
  have key : ∀ (H1 : AH) (ms : List Int), Grow H H1 → ms.length ≤ 24 → ∀ l, H1 l = some (.list (ms.map .int)) →
      qForL 2 T_lb [some (V.ref s), some (V.str (Str.ofString "")), none, none, none] (fun fl ρ1 H1 => match fl with | .next => T_lt ρ1 H1 (retQ Q) | .brk => retQ Q .brk ρ1 H1 | .cont => retQ Q .cont ρ1 H1 | .ret v => Q v H1) l H1 := by
    intro H1 ms g hms l hl
    obtain ⟨w1, w2, w3⟩ := lineB_ok ms [] (by intro p c h; simp at h) (by simp)
    refine lb_loop hl hms fun o2 o3 => ?_
    exact lt_ok hP (g _ _ htab) (by simp at w3; omega) w2 w1 q
  simp [List.replicate, hs, b1, hsl]
  intro c hc
  refine ⟨by simpa using b2, ?_⟩
  have k1 := key (H.set c (MO.list (List.take 24 (List.map V.int ns)))) (ns.take 24) (.set hc) (by simp; omega) c (by rw [AH.set_self, List.map_take])
  by_cases h0 : 0 < min 24 ns.length
  · rw [if_pos h0]
    exact k1
  · rw [if_neg h0]
    intro c2 hc2
    exact key _ [3, 0, 3] ((Grow.set hc).trans (.set hc2)) (by simp) c2 (AH.set_self ..)
end Mine
namespace Mine
/-- the walk's frame, out of what the head hands over -/
def cxOf {p : Program} {loose : List Str} {mean : ExcName → Option Value} {mg mb : Str → Option Value} (prog : Program) (w : World) (s₁ : Shared) (tabs : List (Addr × Addr)) (K : Frag)
    (hT : TabsAt tabs s₁.heap) (X : K.In s₁.heap) (hK : noTabs K = true) (T : Top p loose mean mg mb s₁.heap)
    (hbi : ∀ x v, (x, v) ∈ bList → nsIn K mainGlobals x = some none ∧ bootBuiltins x = some v ∧ x ≠ "__name__") : Cx where
  prog := prog
  w := w
  h0 := ghostOf s₁.heap tabs
  os := s₁.os
  K := K
  inK := ghost_K hT X hK
  lim := (ghost_top hT T).nolimit
  mg := mg
  mb := mb
  codeOf := codeOf0
  gl := (ghost_top hT T).g
  bl := (ghost_top hT T).b
  bi := fun x v h => ⟨mg_none_of X T.g (hbi x v h).1, (T.builtins x (hbi x v h).2.2).trans (hbi x v h).2.1⟩
  bf := fun A E s Q hk q => let ⟨bm, ob, a1, a2, a3, a4, a5, a6⟩ := (ghost_top hT T).bmain
    wpAny_builtinsFor ((ghost_top hT T).g.keeps hk) a1 a2 (hk _ _ a3) a4 a5 a6 q
/-- the script and one table -/
def H0 (S P c : Addr) (l k : Int) (xs : List V) : AH := fun a => if a = P then some (.tab c l k) else if a = S then some (.ro xs) else none
theorem ints_V : ∀ {rs : List Value} {ns : List Int}, IntsAre rs ns → VRs (ns.map V.int) rs
  | _, _, .nil => .nil
  | _, _, .cons i t h => .cons (.int i t) (ints_V h)
theorem grel0 {cx : Cx} {s₁ : Shared} {c P S : Addr} {l k : Int} {rs : List Value} {ns : List Int} (h0 : cx.h0 = ghostOf s₁.heap [(c, P)]) (hos : cx.os = s₁.os) (hT : TabsAt [(c, P)] s₁.heap) (hg : s₁.gens = #[]) (hP : sysModules < P)
    (hL : s₁.heap.IsList S rs.toArray) (hI : IntsAre rs ns) : GRel cx (fun _ => none) (H0 S P c l k (ns.map .int)) s₁ ∧ S ≠ P := by
  have hq := hT (c, P) (.head _)
  have hSP : S ≠ P := by
    rintro rfl
    obtain ⟨o, e, hc, _⟩ := hL
    rw [hq.2] at e; cases e; cases hc
  refine ⟨⟨fun a o e => ?_, fun b o e => ?_, fun a o e hr => ?_, (fun D a e => by cases e), hos.symm, AllBare.of_eq hg⟩, hSP⟩
  · unfold H0 at e
    split at e
    · rename_i ha; subst ha
      cases e
      refine ⟨#[], hq.2, ?_, .inl rfl⟩
      rw [h0]
      have := ghost_code hT
      exact this.1
    · split at e
      · rename_i ha; subst ha
        cases e
        exact ⟨rs, ints_V hI, hL⟩
      · cases e
  · rw [h0] at e
    exact of_hideAll _ e
  · unfold H0 at e
    split at e
    · rename_i ha; subst ha
      refine ⟨?_, hP⟩
      rw [h0]
      exact hideAll_none _ (by simp)
    · split at e
      · cases e; exact absurd rfl (hr _)
      · cases e
/-- the end -/
theorem old_of {cx : Cx} {s₁ s' : Shared} {c P S : Addr} {l k : Int} {xs : List V} {own' : Own} {H' : AH} (h0 : cx.h0 = ghostOf s₁.heap [(c, P)]) (hT : TabsAt [(c, P)] s₁.heap) (g : GRel cx own' H' s') (x : Ext (fun _ => none) (H0 S P c l k xs) s₁.heap own' H' s'.heap) : OldK s₁.heap s'.heap := by
  have hq := hT (c, P) (.head _)
  have hP : H' P = some (.tab c l k) := (x.tab P c l k _ (by simp [H0]) hq.2).1
  obtain ⟨ps, e, _, hps⟩ := g.obj _ _ hP
  have rest : ∀ b o, s₁.heap.get? b = some o → b ≠ P → s'.heap.get? b = some o := fun b o hb hne => g.base b o (by rw [h0]; exact ghost_ne hb (by simpa using hne))
  refine ⟨fun b o hb => ?_, fun b o hb => ?_⟩
  · by_cases hne : b = P
    · subst hne
      have := hq.2
      rw [hb] at this
      cases this
      refine .inr (.inl ⟨?_, rfl, #[], ps, rfl, by simpa using e⟩)
      obtain ⟨oc, vs, _, _, _, _, _, _, _, a1, a2, a3, a4, _⟩ := hq.1
      exact ⟨c, oc, vs, a1, a2, a3, a4⟩
    · exact .inl (rest b o hb hne)
  · by_cases hne : b = P
    · subst hne; exact ⟨_, e⟩
    · exact ⟨o, rest b o hb hne⟩
theorem law_end {cx : Cx} {s₁ : Shared} {c P S fa : Addr} {l k : Int} {rs : List Value} {ns : List Int} {d : Nat} {FP : FnP} {cl : ClaimW} {ca : Str → Option Addr} {mean : ExcName → Option Value} {args : List WData}
    (h0 : cx.h0 = ghostOf s₁.heap [(c, P)]) (hos : cx.os = s₁.os) (hT : TabsAt [(c, P)] s₁.heap) (hg : s₁.gens = #[]) (hP : sysModules < P) (hL : s₁.heap.IsList S rs.toArray) (hI : IntsAre rs ns)
    (C : CallC cx d (.ref fa) FP) (hA : AOk d callerA) (hF : FP [.ref S] (H0 S P c l k (ns.map .int)) (fun v _ => v = .bool true))
    (hr : ∀ cls, cl.raises args cls = false) (hp : cl.post args (.bool true) args = true) :
    codeAny (model cx.prog cx.w) callerA (.call (.ref fa) ⟨[.ref S], []⟩) (GoodWG cl ca mean args s₁) s₁ := by
  obtain ⟨g, hSP⟩ := grel0 (l := l) (k := k) h0 hos hT hg hP hL hI
  refine C callerA s₁ _ _ [.ref S] [.ref S] (fun v _ => v = .bool true) _ hA g (.cons (.ref _) .nil) hF fun v s' hpost => ?_
  obtain ⟨v', own', H', hv, g', x', rfl⟩ := hpost
  cases hv
  exact ⟨.inl ⟨_, _, _, rfl, hr, .bool _, hp, fun _ => ⟨.nil, nofun⟩⟩, old_of h0 hT g' x', g'.os.trans hos, g'.gens⟩
end Mine
section
set_option maxRecDepth 100000
set_option maxHeartbeats 4000000
namespace Mine
variable {cx : Cx}
theorem gl {p : Params} (hK : cx.K = hd.heap_39 p) {x : Str} {v : Value} (h : nsIn (hd.heap_39 p) mainGlobals x = some (some v)) : nsIn cx.K mainGlobals x = some (some v) := by rw [hK]; exact h
theorem kp {p : Params} (hK : cx.K = hd.heap_39 p) {v : Value} (h : keepIn (hd.heap_39 p) v = true) : keepIn cx.K v = true := by rw [hK]; exact h
theorem cm {p : Params} (hK : cx.K = hd.heap_39 p) {C : Addr} {x : Str} {f : Addr} (h1 : plainGet (hd.heap_39 p) C x = true) (h2 : findIn (hd.heap_39 p) (.ref C) x = some (some (.ref f))) (h3 : isFn (hd.heap_39 p) (.ref f) = true) (h4 : keepIn (hd.heap_39 p) (.ref f) = true) : ClsMeth cx C x f :=
  ⟨by rw [hK]; exact h1, by rw [hK]; exact h2, by rw [hK]; exact h3, by rw [hK]; exact h4⟩
theorem clsAt {p : Params} (hK : cx.K = hd.heap_39 p) {C : Addr} {x : Str} (h1 : plainGet (hd.heap_39 p) C x = true) (h2 : hasDictIn (hd.heap_39 p) C = true) {attr} (h3 : findIn (hd.heap_39 p) (.ref C) x = some attr) (h4 : noGet (hd.heap_39 p) attr = true) : ClsAt cx C x :=
  ⟨by rw [hK]; exact h1, by rw [hK]; exact h2, attr, by rw [hK]; exact h3, by rw [hK]; exact h4⟩
theorem clsSet {p : Params} (hK : cx.K = hd.heap_39 p) {C : Addr} {x : Str} (h1 : findIn (hd.heap_39 p) (.ref C) "__setattr__" = some (some (.builtin "object.__setattr__"))) (h2 : plainOver (hd.heap_39 p) C = true) (h3 : takerIn (hd.heap_39 p) C x = some none) (h4 : hasDictIn (hd.heap_39 p) C = true) : ClsSet cx C x :=
  ⟨by rw [hK]; exact h1, by rw [hK]; exact h2, by rw [hK]; exact h3, by rw [hK]; exact h4⟩
theorem at_index {p : Params} (hK : cx.K = hd.heap_39 p) : ClsAt cx cD (Str.ofString "index") := clsAt hK rfl rfl rfl rfl
theorem as_index {p : Params} (hK : cx.K = hd.heap_39 p) : ClsSet cx cD (Str.ofString "index") := clsSet hK rfl rfl rfl rfl
theorem at_marker {p : Params} (hK : cx.K = hd.heap_39 p) : ClsAt cx cD (Str.ofString "marker") := clsAt hK rfl rfl rfl rfl
theorem as_marker {p : Params} (hK : cx.K = hd.heap_39 p) : ClsSet cx cD (Str.ofString "marker") := clsSet hK rfl rfl rfl rfl
theorem at_length {p : Params} (hK : cx.K = hd.heap_39 p) : ClsAt cx cD (Str.ofString "length") := clsAt hK rfl rfl rfl rfl
theorem as_length {p : Params} (hK : cx.K = hd.heap_39 p) : ClsSet cx cD (Str.ofString "length") := clsSet hK rfl rfl rfl rfl
theorem at_can_open {p : Params} (hK : cx.K = hd.heap_39 p) : ClsAt cx cD (Str.ofString "can_open") := clsAt hK rfl rfl rfl rfl
theorem as_can_open {p : Params} (hK : cx.K = hd.heap_39 p) : ClsSet cx cD (Str.ofString "can_open") := clsSet hK rfl rfl rfl rfl
theorem at_can_close {p : Params} (hK : cx.K = hd.heap_39 p) : ClsAt cx cD (Str.ofString "can_close") := clsAt hK rfl rfl rfl rfl
theorem as_can_close {p : Params} (hK : cx.K = hd.heap_39 p) : ClsSet cx cD (Str.ofString "can_close") := clsSet hK rfl rfl rfl rfl
theorem at_orig_length {p : Params} (hK : cx.K = hd.heap_39 p) : ClsAt cx cD (Str.ofString "orig_length") := clsAt hK rfl rfl rfl rfl
theorem as_orig_length {p : Params} (hK : cx.K = hd.heap_39 p) : ClsSet cx cD (Str.ofString "orig_length") := clsSet hK rfl rfl rfl rfl
theorem at_order {p : Params} (hK : cx.K = hd.heap_39 p) : ClsAt cx cD (Str.ofString "order") := clsAt hK rfl rfl rfl rfl
theorem as_order {p : Params} (hK : cx.K = hd.heap_39 p) : ClsSet cx cD (Str.ofString "order") := clsSet hK rfl rfl rfl rfl
theorem at_tree {p : Params} (hK : cx.K = hd.heap_39 p) : ClsAt cx cI (Str.ofString "_tree") := clsAt hK rfl rfl rfl rfl
theorem as_tree {p : Params} (hK : cx.K = hd.heap_39 p) : ClsSet cx cI (Str.ofString "_tree") := clsSet hK rfl rfl rfl rfl
theorem at_next {p : Params} (hK : cx.K = hd.heap_39 p) : ClsAt cx cI (Str.ofString "_next") := clsAt hK rfl rfl rfl rfl
theorem as_next {p : Params} (hK : cx.K = hd.heap_39 p) : ClsSet cx cI (Str.ofString "_next") := clsSet hK rfl rfl rfl rfl
theorem D_entity {p : Params} (hK : cx.K = hd.heap_39 p) (hcd : cx.codeOf = codeOf0)  : CallC cx 1 (.ref 55) P_entity := by
  refine callOK_of (d := 0) (nm := nm_entity) (n := 2) (T := T_entity) (by rw [hK]; rfl) rfl rfl (by rw [hK]; rfl) rfl rfl rfl (fun s rs X h => by
    match rs, h with
    | [a, b], _ => exact BindsTo.of_eq rfl) (by decide) (by decide) (W_entity) ?D (by decide) (fun c h => by rw [hcd, show codeOf0 _ = none from rfl] at h; cases h) rfl rfl rfl
  case D => exact (sden_cons (sden_ret (den_and (den_meth1 m_endswith (den_var (i := 0) rfl) den_str) (den_and1 den_dead))) sden_nil)
theorem D_init {p : Params} (hK : cx.K = hd.heap_39 p) (hcd : cx.codeOf = codeOf0)  : CallC cx 1 (.ref 71) P_init := by
  refine callOK_of (d := 0) (nm := nm_init) (n := 8) (T := T_init) (by rw [hK]; rfl) rfl rfl (by rw [hK]; rfl) rfl rfl rfl (fun s rs X h => by
    match rs, h with
    | [a, b, c, d, e, f, g, h], _ => exact binds_K X rfl (by rw [hK]; rfl) rfl rfl rfl) (by decide) (by decide) (W_init) ?D (by decide) (fun c h => by rw [hcd, show codeOf0 _ = none from rfl] at h; cases h) rfl rfl rfl
  case D => exact (sden_cons (sden_setattr (C := cD) (as_index hK) (den_var (i := 1) rfl) (den_var (i := 0) rfl)) (sden_cons (sden_setattr (C := cD) (as_marker hK) (den_var (i := 2) rfl) (den_var (i := 0) rfl)) (sden_cons (sden_setattr (C := cD) (as_length hK) (den_var (i := 3) rfl) (den_var (i := 0) rfl)) (sden_cons (sden_setattr (C := cD) (as_can_open hK) (den_var (i := 4) rfl) (den_var (i := 0) rfl)) (sden_cons (sden_setattr (C := cD) (as_can_close hK) (den_var (i := 5) rfl) (den_var (i := 0) rfl)) (sden_cons (sden_setattr (C := cD) (as_orig_length hK) (den_var (i := 6) rfl) (den_var (i := 0) rfl)) (sden_cons (sden_setattr (C := cD) (as_order hK) (den_var (i := 7) rfl) (den_var (i := 0) rfl)) sden_nil)))))))
theorem D_find {p : Params} (hK : cx.K = hd.heap_39 p) (hcd : cx.codeOf = codeOf0)  : CallC cx 1 (.ref 159) P_find := by
  refine callOK_of (d := 0) (nm := nm_find) (n := 2) (T := T_find) (by rw [hK]; rfl) rfl rfl (by rw [hK]; rfl) rfl rfl rfl (fun s rs X h => by
    match rs, h with
    | [a, b], _ => exact BindsTo.of_eq rfl) (by decide) (by decide) (W_find) ?D (by decide) (fun c h => by rw [hcd, show codeOf0 _ = none from rfl] at h; cases h) rfl rfl rfl
  case D => exact (sden_cons (sden_assign (i := 2) rfl (.inl rfl) (den_var (i := 1) rfl)) (sden_cons (sden_while (bden_compare op_neI (den_item (den_attr (C := cI) (at_next hK) (den_var (i := 0) rfl)) (den_var (i := 2) rfl)) (den_var (i := 2) rfl)) (sden_cons (sden_assign (i := 2) rfl (.inl rfl) (den_item (den_attr (C := cI) (at_next hK) (den_var (i := 0) rfl)) (den_var (i := 2) rfl))) sden_nil)) (sden_cons (sden_while (bden_compare op_neI (den_item (den_attr (C := cI) (at_next hK) (den_var (i := 0) rfl)) (den_var (i := 1) rfl)) (den_var (i := 1) rfl)) (sden_cons (sden_assign (i := 3) rfl (.inl rfl) (den_item (den_attr (C := cI) (at_next hK) (den_var (i := 0) rfl)) (den_var (i := 1) rfl))) (sden_cons (sden_setitem (den_var (i := 2) rfl) (den_attr (C := cI) (at_next hK) (den_var (i := 0) rfl)) (den_var (i := 1) rfl)) (sden_cons (sden_assign (i := 1) rfl (.inl rfl) (den_var (i := 3) rfl)) sden_nil)))) (sden_cons (sden_ret (den_var (i := 2) rfl)) sden_nil))))
theorem D_initidx {p : Params} (hK : cx.K = hd.heap_39 p) (hcd : cx.codeOf = codeOf0)  : CallC cx 1 (.ref 124) P_initidx := by
  refine callOK_of (d := 0) (nm := nm_initidx) (n := 3) (T := T_initidx) (by rw [hK]; rfl) rfl rfl (by rw [hK]; rfl) rfl rfl rfl (fun s rs X h => by
    match rs, h with
    | [a, b, c], _ => exact BindsTo.of_eq rfl) (by decide) (by decide) (W_initidx) ?D (by decide) (fun c h => by rw [hcd, show codeOf0 _ = none from rfl] at h; cases h) rfl rfl rfl
  case D => exact (sden_cons (sden_setattr (C := cI) (as_tree hK) (den_bin op_mulL (den_list (lden_cons den_int .nil)) (den_bin op_addI (den_var (i := 2) rfl) den_int)) (den_var (i := 0) rfl)) (sden_cons (sden_setattr (C := cI) (as_next hK) (den_listrange (den_bin op_addI (den_bcall (id := "len") mem_len c_len rfl (lden_cons (den_var (i := 1) rfl) .nil)) den_int) rfl rfl) (den_var (i := 0) rfl)) sden_nil))
theorem D_current {p : Params} (hK : cx.K = hd.heap_39 p) (hcd : cx.codeOf = codeOf0)  : CallC cx 1 (.ref 131) P_current := by
  refine callOK_of (d := 0) (nm := nm_current) (n := 2) (T := T_current) (by rw [hK]; rfl) rfl rfl (by rw [hK]; rfl) rfl rfl rfl (fun s rs X h => by
    match rs, h with
    | [a, b], _ => exact BindsTo.of_eq rfl) (by decide) (by decide) (W_current) ?D (by decide) (fun c h => by rw [hcd, show codeOf0 _ = none from rfl] at h; cases h) rfl rfl rfl
  case D => exact (sden_cons (sden_assign (i := 2) rfl (.inl rfl) (den_attr (C := cD) (at_index hK) (den_var (i := 1) rfl))) (sden_cons (sden_assign (i := 3) rfl (.inl rfl) den_int) (sden_cons (sden_assign (i := 4) rfl (.inl rfl) (den_bin op_addI (den_var (i := 2) rfl) den_int)) (sden_cons (sden_while (bden_plain (den_var (i := 4) rfl)) (sden_cons (sden_aug (i := 3) iop_add rfl (.inl rfl) (den_item (den_attr (C := cI) (at_tree hK) (den_var (i := 0) rfl)) (den_var (i := 4) rfl))) (sden_cons (sden_aug (i := 4) iop_sub rfl (.inl rfl) (den_bin op_andI (den_var (i := 4) rfl) (den_neg (den_var (i := 4) rfl)))) sden_nil))) (sden_cons (sden_ret (den_bin op_subI (den_var (i := 2) rfl) (den_var (i := 3) rfl))) sden_nil)))))
theorem D_collapse {p : Params} (hK : cx.K = hd.heap_39 p) (hcd : cx.codeOf = codeOf0)  : CallC cx 1 (.ref 138) P_collapse := by
  refine callOK_of (d := 0) (nm := nm_collapse) (n := 3) (T := T_collapse) (by rw [hK]; rfl) rfl rfl (by rw [hK]; rfl) rfl rfl rfl (fun s rs X h => by
    match rs, h with
    | [a, b, c], _ => exact BindsTo.of_eq rfl) (by decide) (by decide) (W_collapse) ?D (by decide) (fun c h => by rw [hcd, show codeOf0 _ = none from rfl] at h; cases h) rfl rfl rfl
  case D => exact (sden_cons (sden_if (bden_not (bden_plain (den_var (i := 2) rfl))) (sden_cons sden_ret0 sden_nil) sden_nil) (sden_cons (sden_assign (i := 3) rfl (.inl rfl) (den_bin op_addI (den_attr (C := cD) (at_index hK) (den_var (i := 1) rfl)) den_int)) (sden_cons (sden_while (bden_compare op_lt (den_var (i := 3) rfl) (den_bcall (id := "len") mem_len c_len rfl (lden_cons (den_attr (C := cI) (at_tree hK) (den_var (i := 0) rfl)) .nil))) (sden_cons (sden_augitem (i := 3) iop_add (den_attr (C := cI) (at_tree hK) (den_var (i := 0) rfl)) rfl (den_var (i := 2) rfl)) (sden_cons (sden_aug (i := 3) iop_add rfl (.inl rfl) (den_bin op_andI (den_var (i := 3) rfl) (den_neg (den_var (i := 3) rfl)))) sden_nil))) sden_nil)))
theorem D_deactivate {p : Params} (hK : cx.K = hd.heap_39 p) (hcd : cx.codeOf = codeOf0) (C_find : CallOK cx 1 (.ref 159) P_find) : CallC cx 2 (.ref 145) P_deactivate := by
  refine callOK_of (d := 1) (nm := nm_deactivate) (n := 2) (T := T_deactivate) (by rw [hK]; rfl) rfl rfl (by rw [hK]; rfl) rfl rfl rfl (fun s rs X h => by
    match rs, h with
    | [a, b], _ => exact BindsTo.of_eq rfl) (by decide) (by decide) (W_deactivate) ?D (by decide) (fun c h => by rw [hcd, show codeOf0 _ = none from rfl] at h; cases h) rfl rfl rfl
  case D => exact (sden_cons (sden_setitem (den_mcall (C := cI) (f := 159) (P := P_find) (cm hK rfl rfl rfl rfl) (C_find.le (by decide)) (den_var (i := 0) rfl) (lden_cons (den_bin op_addI (den_var (i := 1) rfl) den_int) .nil)) (den_attr (C := cI) (at_next hK) (den_var (i := 0) rfl)) (den_var (i := 1) rfl)) sden_nil)
theorem D_deactivate_range {p : Params} (hK : cx.K = hd.heap_39 p) (hcd : cx.codeOf = codeOf0) (C_find : CallOK cx 1 (.ref 159) P_find) : CallC cx 2 (.ref 152) P_deactivate_range := by
  refine callOK_of (d := 1) (nm := nm_deactivate_range) (n := 4) (T := T_deactivate_range) (by rw [hK]; rfl) rfl rfl (by rw [hK]; rfl) rfl rfl rfl (fun s rs X h => by
    match rs, h with
    | [a, b, c, d], _ => exact BindsTo.of_eq rfl) (by decide) (by decide) (W_deactivate_range) ?D (by decide) (fun c h => by rw [hcd, show codeOf0 _ = none from rfl] at h; cases h) rfl rfl rfl
  case D => exact (sden_cons (sden_assign (i := 4) rfl (.inl rfl) (den_mcall (C := cI) (f := 159) (P := P_find) (cm hK rfl rfl rfl rfl) (C_find.le (by decide)) (den_var (i := 0) rfl) (lden_cons (den_var (i := 2) rfl) .nil))) (sden_cons (sden_while (bden_compare op_lt (den_var (i := 4) rfl) (den_var (i := 3) rfl)) (sden_cons (sden_setattr (C := cD) (as_length hK) den_int (den_item (den_var (i := 1) rfl) (den_var (i := 4) rfl))) (sden_cons (sden_setitem (den_mcall (C := cI) (f := 159) (P := P_find) (cm hK rfl rfl rfl rfl) (C_find.le (by decide)) (den_var (i := 0) rfl) (lden_cons (den_bin op_addI (den_var (i := 4) rfl) den_int) .nil)) (den_attr (C := cI) (at_next hK) (den_var (i := 0) rfl)) (den_var (i := 4) rfl)) (sden_cons (sden_assign (i := 4) rfl (.inl rfl) (den_mcall (C := cI) (f := 159) (P := P_find) (cm hK rfl rfl rfl rfl) (C_find.le (by decide)) (den_var (i := 0) rfl) (lden_cons (den_var (i := 4) rfl) .nil))) sden_nil)))) sden_nil))
theorem D_token_depth {p : Params} (hK : cx.K = hd.heap_39 p) (hcd : cx.codeOf = codeOf0)  : CallC cx 1 (.ref 43) P_token_depth := by
  refine callOK_of (d := 0) (nm := nm_token_depth) (n := 1) (T := T_token_depth) (by rw [hK]; rfl) rfl rfl (by rw [hK]; rfl) rfl rfl rfl (fun s rs X h => by
    match rs, h with
    | [a], _ => exact BindsTo.of_eq rfl) (by decide) (by decide) (W_token_depth) ?D (by decide) (fun c h => by rw [hcd] at h; cases h; rfl) rfl rfl rfl
  case D => exact (sden_cons (sden_assign (i := 1) rfl (.inl rfl) den_int) (sden_cons (sden_setcomp (i := 2) rfl rfl (compOk_of (fnm := []) hcd rfl rfl) (den_var (i := 0) rfl) .nil (den_tuple (lden_cons (den_var (i := 0) rfl) (lden_cons den_int .nil))) (fun env he => by unfold swapsWith; simp only [Env.blockKind, Env.kindOf, he]; rfl)) (sden_cons (sden_while (bden_plain (den_var (i := 2) rfl)) (sden_cons (sden_unpack (is := [3, 4]) (.cons rfl (.inl rfl) (.cons rfl (.inr rfl) .nil)) (den_meth0 m_pop (den_var (i := 2) rfl))) (sden_cons (sden_if (bden_compare op_inD den_str (den_var (i := 3) rfl)) (sden_cons (sden_aug (i := 4) iop_add rfl (.inr rfl) den_int) (sden_cons (sden_assign (i := 1) rfl (.inl rfl) (den_bcall (id := "max") mem_max c_max rfl (lden_cons (den_var (i := 1) rfl) (lden_cons (den_var (i := 4) rfl) .nil)))) (sden_cons (sden_extgen (iy := 4) (c := cTD) (P := pTD) (l := lTD) (k := kTD) (genOk_of hcd rfl rfl rfl rfl) (den_var (i := 2) rfl) (den_item (den_var (i := 3) rfl) den_str)) sden_nil))) sden_nil) sden_nil))) (sden_cons (sden_ret (den_var (i := 1) rfl)) sden_nil))))
theorem D_contains {p : Params} (hK : cx.K = hd.heap_39 p) (hcd : cx.codeOf = codeOf0)  : CallC cx 1 (.ref 192) P_contains := by
  refine callOK_of (d := 0) (nm := nm_contains) (n := 1) (T := T_contains) (by rw [hK]; rfl) rfl rfl (by rw [hK]; rfl) rfl rfl rfl (fun s rs X h => by
    match rs, h with
    | [a], _ => exact BindsTo.of_eq rfl) (by decide) (by decide) (W_contains) ?D (by decide) (fun c h => by rw [hcd, show codeOf0 _ = none from rfl] at h; cases h) rfl rfl rfl
  case D => exact (sden_cons (sden_forL (i := 1) rfl (.inl rfl) (den_var (i := 0) rfl) (sden_cons (sden_if (bden_and (bden_compare op_eqS (den_item (den_var (i := 1) rfl) den_str) den_str) (bden_and (bden_plain (den_dictget2 (den_var (i := 1) rfl) den_str den_bool)) bden_and_nil)) (sden_cons (sden_assign (i := 2) rfl (.inl rfl) (den_item (den_var (i := 1) rfl) den_str)) (sden_cons (sden_if (bden_or (bden_compare op_inS den_str (den_var (i := 2) rfl)) (bden_or (bden_compare op_inS den_str (den_var (i := 2) rfl)) bden_or_nil)) (sden_cons (sden_ret den_bool) sden_nil) sden_nil) sden_nil)) sden_nil) sden_nil)) (sden_cons (sden_ret den_bool) sden_nil))
theorem D_clean {p : Params} (hK : cx.K = hd.heap_39 p) (hcd : cx.codeOf = codeOf0)  : CallC cx 1 (.ref 199) P_clean := by
  refine callOK_of (d := 0) (nm := nm_clean) (n := 1) (T := T_clean) (by rw [hK]; rfl) rfl rfl (by rw [hK]; rfl) rfl rfl rfl (fun s rs X h => by
    match rs, h with
    | [a], _ => exact BindsTo.of_eq rfl) (by decide) (by decide) (W_clean) ?D (by decide) (fun c h => by rw [hcd, show codeOf0 _ = none from rfl] at h; cases h) rfl rfl rfl
  case D => exact (sden_cons (sden_if (bden_and (bden_compare op_notInD den_str (den_var (i := 0) rfl)) (bden_and (bden_compare op_notInD den_str (den_var (i := 0) rfl)) bden_and_nil)) (sden_cons (sden_ret (den_var (i := 0) rfl)) sden_nil) sden_nil) (sden_cons s1den_dead (sden_cons s1den_dead (sden_cons s1den_dead (sden_cons (sden_ret (den_var (i := 0) rfl)) sden_nil)))))
theorem D_source {p : Params} (hK : cx.K = hd.heap_39 p) (hcd : cx.codeOf = codeOf0)  : CallC cx 1 (.ref 206) P_source := by
  refine callOK_of (d := 0) (nm := nm_source) (n := 1) (T := T_source) (by rw [hK]; rfl) rfl rfl (by rw [hK]; rfl) rfl rfl rfl (fun s rs X h => by
    match rs, h with
    | [a], _ => exact BindsTo.of_eq rfl) (by decide) (by decide) (W_source) ?D (by decide) (fun c h => by rw [hcd, show codeOf0 _ = none from rfl] at h; cases h) rfl rfl rfl
  case D => exact (sden_cons (sden_assign (i := 1) rfl (.inl rfl) (den_list .nil)) (sden_cons (sden_forL (i := 2) rfl (.inl rfl) (den_var (i := 0) rfl) (sden_cons (sden_if (bden_compare op_eqS (den_item (den_var (i := 2) rfl) den_str) den_str) (sden_cons (sden_expr (den_meth1 m_append (den_var (i := 1) rfl) (den_item (den_var (i := 2) rfl) den_str))) sden_nil) (sden_cons s1den_dead sden_nil)) sden_nil)) (sden_cons (sden_ret (den_meth1 m_join den_str (den_var (i := 1) rfl))) sden_nil)))
theorem D_srclen {p : Params} (hK : cx.K = hd.heap_39 p) (hcd : cx.codeOf = codeOf0)  : CallC cx 1 (.ref 213) P_srclen := by
  refine callOK_of (d := 0) (nm := nm_srclen) (n := 1) (T := T_srclen) (by rw [hK]; rfl) rfl rfl (by rw [hK]; rfl) rfl rfl rfl (fun s rs X h => by
    match rs, h with
    | [a], _ => exact BindsTo.of_eq rfl) (by decide) (by decide) (W_srclen) ?D (by decide) (fun c h => by rw [hcd, show codeOf0 _ = none from rfl] at h; cases h) rfl rfl rfl
  case D => exact (sden_cons (sden_if (bden_compare op_eqS (den_item (den_var (i := 0) rfl) den_str) den_str) (sden_cons (sden_ret (den_bcall (id := "len") mem_len c_len rfl (lden_cons (den_item (den_var (i := 0) rfl) den_str) .nil))) sden_nil) sden_nil) (sden_cons s1den_dead sden_nil))
theorem D_next_run {p : Params} (hK : cx.K = hd.heap_39 p) (hcd : cx.codeOf = codeOf0)  : CallC cx 1 (.ref 227) P_next_run := by
  refine callOK_of (d := 0) (nm := nm_next_run) (n := 2) (T := T_next_run) (by rw [hK]; rfl) rfl rfl (by rw [hK]; rfl) rfl rfl rfl (fun s rs X h => by
    match rs, h with
    | [a, b], _ => exact BindsTo.of_eq rfl) (by decide) (by decide) (W_next_run) ?D (by decide) (fun c h => by rw [hcd, show codeOf0 _ = none from rfl] at h; cases h) rfl rfl rfl
  case D => exact (sden_cons (sden_while (bden_and (bden_compare op_lt (den_var (i := 1) rfl) (den_bcall (id := "len") mem_len c_len rfl (lden_cons (den_var (i := 0) rfl) .nil))) (bden_and (bden_compare op_notInS (den_item (den_var (i := 0) rfl) (den_var (i := 1) rfl)) den_str) bden_and_nil)) (sden_cons (sden_aug (i := 1) iop_add rfl (.inl rfl) den_int) sden_nil)) (sden_cons (sden_ret (den_var (i := 1) rfl)) sden_nil))
theorem D_is_punct {p : Params} (hK : cx.K = hd.heap_39 p) (hcd : cx.codeOf = codeOf0)  : CallC cx 1 (.ref 318) P_is_punct := by
  refine callOK_of (d := 0) (nm := nm_is_punct) (n := 1) (T := T_is_punct) (by rw [hK]; rfl) rfl rfl (by rw [hK]; rfl) rfl rfl rfl (fun s rs X h => by
    match rs, h with
    | [a], _ => exact BindsTo.of_eq rfl) (by decide) (by decide) (W_is_punct) ?D (by decide) (fun c h => by rw [hcd, show codeOf0 _ = none from rfl] at h; cases h) rfl rfl rfl
  case D => exact (sden_cons (sden_ret (den_and (den_not (den_meth0 m_isspace (den_var (i := 0) rfl))) (den_and1 (den_not (den_meth0 m_isalnum (den_var (i := 0) rfl)))))) sden_nil)
theorem D_can_open {p : Params} (hK : cx.K = hd.heap_39 p) (hcd : cx.codeOf = codeOf0) (C_is_punct : CallOK cx 1 (.ref 318) P_is_punct) : CallC cx 2 (.ref 304) P_can_open := by
  refine callOK_of (d := 1) (nm := nm_can_open) (n := 4) (T := T_can_open) (by rw [hK]; rfl) rfl rfl (by rw [hK]; rfl) rfl rfl rfl (fun s rs X h => by
    match rs, h with
    | [a, b, c, d], _ => exact BindsTo.of_eq rfl) (by decide) (by decide) (W_can_open) ?D (by decide) (fun c h => by rw [hcd, show codeOf0 _ = none from rfl] at h; cases h) rfl rfl rfl
  case D => exact (sden_cons (sden_assign (i := 4) rfl (.inl rfl) (den_ifexp (bden_compare op_gt (den_var (i := 1) rfl) den_int) (den_item (den_var (i := 0) rfl) (den_bin op_subI (den_var (i := 1) rfl) den_int)) den_str)) (sden_cons (sden_assign (i := 5) rfl (.inl rfl) (den_ifexp (bden_compare op_lt (den_bin op_addI (den_var (i := 1) rfl) (den_var (i := 2) rfl)) (den_bcall (id := "len") mem_len c_len rfl (lden_cons (den_var (i := 0) rfl) .nil))) (den_item (den_var (i := 0) rfl) (den_bin op_addI (den_var (i := 1) rfl) (den_var (i := 2) rfl))) den_str)) (sden_cons (sden_if (bden_and (bden_compare op_eqS (den_var (i := 3) rfl) den_str) (bden_and (bden_plain (den_meth0 m_isalnum (den_var (i := 4) rfl))) (bden_and (bden_plain (den_meth0 m_isalnum (den_var (i := 5) rfl))) bden_and_nil))) (sden_cons (sden_ret den_bool) sden_nil) sden_nil) (sden_cons (sden_if (bden_plain (den_meth0 m_isspace (den_var (i := 5) rfl))) (sden_cons (sden_ret den_bool) sden_nil) sden_nil) (sden_cons (sden_if (bden_and (bden_plain (den_call (f := 318) (P := P_is_punct) (gl hK rfl) (kp hK rfl) (C_is_punct.le (by decide)) rfl (lden_cons (den_var (i := 5) rfl) .nil))) (bden_and (bden_not (bden_plain (den_meth0 m_isspace (den_var (i := 4) rfl)))) (bden_and (bden_not (bden_plain (den_call (f := 318) (P := P_is_punct) (gl hK rfl) (kp hK rfl) (C_is_punct.le (by decide)) rfl (lden_cons (den_var (i := 4) rfl) .nil)))) bden_and_nil))) (sden_cons (sden_ret den_bool) sden_nil) sden_nil) (sden_cons (sden_ret den_bool) sden_nil))))))
theorem D_can_close {p : Params} (hK : cx.K = hd.heap_39 p) (hcd : cx.codeOf = codeOf0) (C_is_punct : CallOK cx 1 (.ref 318) P_is_punct) : CallC cx 2 (.ref 311) P_can_close := by
  refine callOK_of (d := 1) (nm := nm_can_close) (n := 4) (T := T_can_close) (by rw [hK]; rfl) rfl rfl (by rw [hK]; rfl) rfl rfl rfl (fun s rs X h => by
    match rs, h with
    | [a, b, c, d], _ => exact BindsTo.of_eq rfl) (by decide) (by decide) (W_can_close) ?D (by decide) (fun c h => by rw [hcd, show codeOf0 _ = none from rfl] at h; cases h) rfl rfl rfl
  case D => exact (sden_cons (sden_assign (i := 4) rfl (.inl rfl) (den_ifexp (bden_compare op_gt (den_var (i := 1) rfl) den_int) (den_item (den_var (i := 0) rfl) (den_bin op_subI (den_var (i := 1) rfl) den_int)) den_str)) (sden_cons (sden_assign (i := 5) rfl (.inl rfl) (den_ifexp (bden_compare op_lt (den_bin op_addI (den_var (i := 1) rfl) (den_var (i := 2) rfl)) (den_bcall (id := "len") mem_len c_len rfl (lden_cons (den_var (i := 0) rfl) .nil))) (den_item (den_var (i := 0) rfl) (den_bin op_addI (den_var (i := 1) rfl) (den_var (i := 2) rfl))) den_str)) (sden_cons (sden_if (bden_and (bden_compare op_eqS (den_var (i := 3) rfl) den_str) (bden_and (bden_plain (den_meth0 m_isalnum (den_var (i := 4) rfl))) (bden_and (bden_plain (den_meth0 m_isalnum (den_var (i := 5) rfl))) bden_and_nil))) (sden_cons (sden_ret den_bool) sden_nil) sden_nil) (sden_cons (sden_if (bden_plain (den_meth0 m_isspace (den_var (i := 4) rfl))) (sden_cons (sden_ret den_bool) sden_nil) sden_nil) (sden_cons (sden_if (bden_and (bden_plain (den_call (f := 318) (P := P_is_punct) (gl hK rfl) (kp hK rfl) (C_is_punct.le (by decide)) rfl (lden_cons (den_var (i := 4) rfl) .nil))) (bden_and (bden_not (bden_plain (den_meth0 m_isspace (den_var (i := 5) rfl)))) (bden_and (bden_not (bden_plain (den_call (f := 318) (P := P_is_punct) (gl hK rfl) (kp hK rfl) (C_is_punct.le (by decide)) rfl (lden_cons (den_var (i := 5) rfl) .nil)))) bden_and_nil))) (sden_cons (sden_ret den_bool) sden_nil) sden_nil) (sden_cons (sden_ret den_bool) sden_nil))))))
theorem D_new {p : Params} (hK : cx.K = hd.heap_39 p) (C_init : CallC cx 1 (.ref 71) P_init) : CallOK cx 2 (.ref 106) P_new :=
  new_of (by rw [hK]; rfl) (by rw [hK]; rfl) (by rw [hK]; rfl) C_init
theorem D_newidx {p : Params} (hK : cx.K = hd.heap_39 p) (C_initidx : CallC cx 1 (.ref 124) P_initidx) : CallOK cx 2 (.ref 162) P_newidx :=
  new_of (by rw [hK]; rfl) (by rw [hK]; rfl) (by rw [hK]; rfl) C_initidx
theorem D_split {p : Params} (hK : cx.K = hd.heap_39 p) (hcd : cx.codeOf = codeOf0) (C_next_run : CallOK cx 1 (.ref 227) P_next_run) (C_can_open : CallOK cx 2 (.ref 304) P_can_open) (C_can_close : CallOK cx 2 (.ref 311) P_can_close) (C_new : CallOK cx 2 (.ref 106) P_new) : CallC cx 3 (.ref 220) P_split := by
  refine callOK_of (d := 2) (nm := nm_split) (n := 5) (T := T_split) (by rw [hK]; rfl) rfl rfl (by rw [hK]; rfl) rfl rfl rfl (fun s rs X h => by
    match rs, h with
    | [a, b, c, d, e], _ => exact BindsTo.of_eq rfl) (by decide) (by decide) (W_split) ?D (by decide) (fun c h => by rw [hcd, show codeOf0 _ = none from rfl] at h; cases h) rfl rfl rfl
  case D => exact (sden_cons (sden_assign (i := 5) rfl (.inl rfl) (den_item (den_var (i := 0) rfl) den_str)) (sden_cons (sden_assign (i := 6) rfl (.inl rfl) den_int) (sden_cons (sden_while (bden_compare op_lt (den_var (i := 6) rfl) (den_bcall (id := "len") mem_len c_len rfl (lden_cons (den_var (i := 5) rfl) .nil))) (sden_cons (sden_if (bden_compare op_notInS (den_item (den_var (i := 5) rfl) (den_var (i := 6) rfl)) den_str) (sden_cons (sden_assign (i := 7) rfl (.inl rfl) (den_call (f := 227) (P := P_next_run) (gl hK rfl) (kp hK rfl) (C_next_run.le (by decide)) rfl (lden_cons (den_var (i := 5) rfl) (lden_cons (den_var (i := 6) rfl) .nil)))) (sden_cons (sden_expr (den_meth1 m_append (den_var (i := 3) rfl) (den_dict2 (by decide) den_str (den_slice (den_var (i := 5) rfl) (.some (den_var (i := 6) rfl)) (.some (den_var (i := 7) rfl)))))) (sden_cons (sden_assign (i := 6) rfl (.inl rfl) (den_var (i := 7) rfl)) (sden_cons sden_cont sden_nil)))) sden_nil) (sden_cons (sden_assign (i := 8) rfl (.inl rfl) (den_item (den_var (i := 5) rfl) (den_var (i := 6) rfl))) (sden_cons (sden_assign (i := 7) rfl (.inl rfl) (den_var (i := 6) rfl)) (sden_cons (sden_while (bden_and (bden_compare op_lt (den_var (i := 7) rfl) (den_bcall (id := "len") mem_len c_len rfl (lden_cons (den_var (i := 5) rfl) .nil))) (bden_and (bden_compare op_eqS (den_item (den_var (i := 5) rfl) (den_var (i := 7) rfl)) (den_var (i := 8) rfl)) bden_and_nil)) (sden_cons (sden_aug (i := 7) iop_add rfl (.inl rfl) den_int) sden_nil)) (sden_cons (sden_assign (i := 9) rfl (.inl rfl) (den_bin op_subI (den_var (i := 7) rfl) (den_var (i := 6) rfl))) (sden_cons (sden_assign (i := 10) rfl (.inl rfl) (den_bin op_addI (den_var (i := 2) rfl) (den_var (i := 6) rfl))) (sden_cons (sden_assign (i := 11) rfl (.inl rfl) (den_call (f := 304) (P := P_can_open) (gl hK rfl) (kp hK rfl) (C_can_open.le (by decide)) rfl (lden_cons (den_var (i := 1) rfl) (lden_cons (den_var (i := 10) rfl) (lden_cons (den_var (i := 9) rfl) (lden_cons (den_var (i := 8) rfl) .nil)))))) (sden_cons (sden_assign (i := 12) rfl (.inl rfl) (den_call (f := 311) (P := P_can_close) (gl hK rfl) (kp hK rfl) (C_can_close.le (by decide)) rfl (lden_cons (den_var (i := 1) rfl) (lden_cons (den_var (i := 10) rfl) (lden_cons (den_var (i := 9) rfl) (lden_cons (den_var (i := 8) rfl) .nil)))))) (sden_cons (sden_assign (i := 13) rfl (.inl rfl) (den_bcall (id := "len") mem_len c_len rfl (lden_cons (den_var (i := 3) rfl) .nil))) (sden_cons (sden_expr (den_meth1 m_append (den_var (i := 3) rfl) (den_dict2 (by decide) den_str (den_slice (den_var (i := 5) rfl) (.some (den_var (i := 6) rfl)) (.some (den_var (i := 7) rfl)))))) (sden_cons (sden_if (bden_or (bden_plain (den_var (i := 11) rfl)) (bden_or (bden_plain (den_var (i := 12) rfl)) bden_or_nil)) (sden_cons (sden_expr (den_meth1 m_append (den_var (i := 4) rfl) (den_call (f := 106) (P := P_new) (gl hK rfl) (kp hK rfl) (C_new.le (by decide)) rfl (lden_cons (den_var (i := 13) rfl) (lden_cons (den_var (i := 8) rfl) (lden_cons (den_var (i := 9) rfl) (lden_cons (den_var (i := 11) rfl) (lden_cons (den_var (i := 12) rfl) (lden_cons (den_var (i := 9) rfl) (lden_cons (den_bcall (id := "len") mem_len c_len rfl (lden_cons (den_var (i := 4) rfl) .nil)) .nil)))))))))) sden_nil) sden_nil) (sden_cons (sden_assign (i := 6) rfl (.inl rfl) (den_var (i := 7) rfl)) sden_nil))))))))))))) sden_nil)))
theorem D_can_match {p : Params} (hK : cx.K = hd.heap_39 p) (hcd : cx.codeOf = codeOf0)  : CallC cx 1 (.ref 297) P_can_match := by
  refine callOK_of (d := 0) (nm := nm_can_match) (n := 2) (T := T_can_match) (by rw [hK]; rfl) rfl rfl (by rw [hK]; rfl) rfl rfl rfl (fun s rs X h => by
    match rs, h with
    | [a, b], _ => exact BindsTo.of_eq rfl) (by decide) (by decide) (W_can_match) ?D (by decide) (fun c h => by rw [hcd, show codeOf0 _ = none from rfl] at h; cases h) rfl rfl rfl
  case D => exact (sden_cons (sden_if (bden_or (bden_plain (den_attr (C := cD) (at_can_close hK) (den_var (i := 0) rfl))) (bden_or (bden_plain (den_attr (C := cD) (at_can_open hK) (den_var (i := 1) rfl))) bden_or_nil)) (sden_cons (sden_assign (i := 2) rfl (.inl rfl) (den_attr (C := cD) (at_orig_length hK) (den_var (i := 0) rfl))) (sden_cons (sden_assign (i := 3) rfl (.inl rfl) (den_attr (C := cD) (at_orig_length hK) (den_var (i := 1) rfl))) (sden_cons (sden_ret (den_or (den_compare op_neI (den_bin op_modI (den_bin op_addI (den_var (i := 2) rfl) (den_var (i := 3) rfl)) den_int) den_int) (den_and1 (den_and (den_compare op_eqI (den_bin op_modI (den_var (i := 2) rfl) den_int) den_int) (den_and1 (den_compare op_eqI (den_bin op_modI (den_var (i := 3) rfl) den_int) den_int)))))) sden_nil))) sden_nil) (sden_cons (sden_ret den_bool) sden_nil))
theorem D_has_content {p : Params} (hK : cx.K = hd.heap_39 p) (hcd : cx.codeOf = codeOf0)  : CallC cx 1 (.ref 290) P_has_content := by
  refine callOK_of (d := 0) (nm := nm_has_content) (n := 3) (T := T_has_content) (by rw [hK]; rfl) rfl rfl (by rw [hK]; rfl) rfl rfl rfl (fun s rs X h => by
    match rs, h with
    | [a, b, c], _ => exact BindsTo.of_eq rfl) (by decide) (by decide) (W_has_content) ?D (by decide) (fun c h => by rw [hcd, show codeOf0 _ = none from rfl] at h; cases h) rfl rfl rfl
  case D => exact (sden_cons (sden_forL (i := 3) rfl (.inl rfl) (den_slice (den_var (i := 0) rfl) (.some (den_var (i := 1) rfl)) (.some (den_var (i := 2) rfl))) (sden_cons (sden_if (bden_or (bden_compare op_neS (den_item (den_var (i := 3) rfl) den_str) den_str) (bden_or (bden_compare op_neS (den_item (den_var (i := 3) rfl) den_str) den_str) bden_or_nil)) (sden_cons (sden_ret den_bool) sden_nil) sden_nil) sden_nil)) (sden_cons (sden_ret den_bool) sden_nil))
theorem D_text_raw {p : Params} (hK : cx.K = hd.heap_39 p) (hcd : cx.codeOf = codeOf0)  : CallC cx 1 (.ref 283) P_text_raw := by
  refine callOK_of (d := 0) (nm := nm_text_raw) (n := 1) (T := T_text_raw) (by rw [hK]; rfl) rfl rfl (by rw [hK]; rfl) rfl rfl rfl (fun s rs X h => by
    match rs, h with
    | [a], _ => exact BindsTo.of_eq rfl) (by decide) (by decide) (W_text_raw) ?D (by decide) (fun c h => by rw [hcd, show codeOf0 _ = none from rfl] at h; cases h) rfl rfl rfl
  case D => exact (sden_cons (sden_if (bden_compare op_eqS (den_item (den_var (i := 0) rfl) den_str) den_str) (sden_cons (sden_ret (den_item (den_var (i := 0) rfl) den_str)) sden_nil) sden_nil) (sden_cons (sden_ret den_str) sden_nil))
theorem D_has_strong {p : Params} (hK : cx.K = hd.heap_39 p) (hcd : cx.codeOf = codeOf0) (C_text_raw : CallOK cx 1 (.ref 283) P_text_raw) : CallC cx 2 (.ref 269) P_has_strong := by
  refine callOK_of (d := 1) (nm := nm_has_strong) (n := 3) (T := T_has_strong) (by rw [hK]; rfl) rfl rfl (by rw [hK]; rfl) rfl rfl rfl (fun s rs X h => by
    match rs, h with
    | [a, b, c], _ => exact BindsTo.of_eq rfl) (by decide) (by decide) (W_has_strong) ?D (by decide) (fun c h => by rw [hcd, show codeOf0 _ = none from rfl] at h; cases h) rfl rfl rfl
  case D => exact (sden_cons (sden_ret (den_and (den_compare op_ge (den_bcall (id := "len") mem_len c_len rfl (lden_cons (den_call (f := 283) (P := P_text_raw) (gl hK rfl) (kp hK rfl) (C_text_raw.le (by decide)) rfl (lden_cons (den_item (den_var (i := 0) rfl) (den_var (i := 1) rfl)) .nil)) .nil)) den_int) (den_and1 (den_compare op_ge (den_bcall (id := "len") mem_len c_len rfl (lden_cons (den_call (f := 283) (P := P_text_raw) (gl hK rfl) (kp hK rfl) (C_text_raw.le (by decide)) rfl (lden_cons (den_item (den_var (i := 0) rfl) (den_var (i := 2) rfl)) .nil)) .nil)) den_int)))) sden_nil)
theorem D_has_emph {p : Params} (hK : cx.K = hd.heap_39 p) (hcd : cx.codeOf = codeOf0) (C_text_raw : CallOK cx 1 (.ref 283) P_text_raw) : CallC cx 2 (.ref 276) P_has_emph := by
  refine callOK_of (d := 1) (nm := nm_has_emph) (n := 3) (T := T_has_emph) (by rw [hK]; rfl) rfl rfl (by rw [hK]; rfl) rfl rfl rfl (fun s rs X h => by
    match rs, h with
    | [a, b, c], _ => exact BindsTo.of_eq rfl) (by decide) (by decide) (W_has_emph) ?D (by decide) (fun c h => by rw [hcd, show codeOf0 _ = none from rfl] at h; cases h) rfl rfl rfl
  case D => exact (sden_cons (sden_ret (den_tcall (T := "bool") mem_bool c_bool rfl (lden_cons (den_and (den_call (f := 283) (P := P_text_raw) (gl hK rfl) (kp hK rfl) (C_text_raw.le (by decide)) rfl (lden_cons (den_item (den_var (i := 0) rfl) (den_var (i := 1) rfl)) .nil)) (den_and1 (den_call (f := 283) (P := P_text_raw) (gl hK rfl) (kp hK rfl) (C_text_raw.le (by decide)) rfl (lden_cons (den_item (den_var (i := 0) rfl) (den_var (i := 2) rfl)) .nil)))) .nil))) sden_nil)
theorem D_use_length {p : Params} (hK : cx.K = hd.heap_39 p) (hcd : cx.codeOf = codeOf0) (C_has_strong : CallOK cx 2 (.ref 269) P_has_strong) (C_has_emph : CallOK cx 2 (.ref 276) P_has_emph) : CallC cx 3 (.ref 248) P_use_length := by
  refine callOK_of (d := 2) (nm := nm_use_length) (n := 5) (T := T_use_length) (by rw [hK]; rfl) rfl rfl (by rw [hK]; rfl) rfl rfl rfl (fun s rs X h => by
    match rs, h with
    | [a, b, c, d, e], _ => exact BindsTo.of_eq rfl) (by decide) (by decide) (W_use_length) ?D (by decide) (fun c h => by rw [hcd, show codeOf0 _ = none from rfl] at h; cases h) rfl rfl rfl
  case D => exact (sden_cons (sden_assign (i := 5) rfl (.inl rfl) (den_ifexp (bden_and (bden_compare op_ge (den_attr (C := cD) (at_length hK) (den_var (i := 1) rfl)) den_int) (bden_and (bden_compare op_ge (den_attr (C := cD) (at_length hK) (den_var (i := 2) rfl)) den_int) bden_and_nil)) den_int den_int)) (sden_cons (sden_if (bden_and (bden_compare op_eqI (den_var (i := 5) rfl) den_int) (bden_and (bden_not (bden_plain (den_call (f := 269) (P := P_has_strong) (gl hK rfl) (kp hK rfl) (C_has_strong.le (by decide)) rfl (lden_cons (den_var (i := 0) rfl) (lden_cons (den_var (i := 3) rfl) (lden_cons (den_var (i := 4) rfl) .nil)))))) bden_and_nil)) (sden_cons (sden_assign (i := 5) rfl (.inl rfl) den_int) sden_nil) sden_nil) (sden_cons (sden_if (bden_and (bden_compare op_eqI (den_var (i := 5) rfl) den_int) (bden_and (bden_not (bden_plain (den_call (f := 276) (P := P_has_emph) (gl hK rfl) (kp hK rfl) (C_has_emph.le (by decide)) rfl (lden_cons (den_var (i := 0) rfl) (lden_cons (den_var (i := 3) rfl) (lden_cons (den_var (i := 4) rfl) .nil)))))) bden_and_nil)) (sden_cons (sden_ret den_none) sden_nil) sden_nil) (sden_cons (sden_ret (den_var (i := 5) rfl)) sden_nil))))
theorem D_children {p : Params} (hK : cx.K = hd.heap_39 p) (hcd : cx.codeOf = codeOf0) (C_has_content : CallOK cx 1 (.ref 290) P_has_content) (C_token_depth : CallOK cx 1 (.ref 43) P_token_depth) : CallC cx 2 (.ref 255) P_children := by
  refine callOK_of (d := 1) (nm := nm_children) (n := 4) (T := T_children) (by rw [hK]; rfl) rfl rfl (by rw [hK]; rfl) rfl rfl rfl (fun s rs X h => by
    match rs, h with
    | [a, b, c, d], _ => exact BindsTo.of_eq rfl) (by decide) (by decide) (W_children) ?D (by decide) (fun c h => by rw [hcd, show codeOf0 _ = none from rfl] at h; cases h) rfl rfl rfl
  case D => exact (sden_cons (sden_if (bden_not (bden_plain (den_call (f := 290) (P := P_has_content) (gl hK rfl) (kp hK rfl) (C_has_content.le (by decide)) rfl (lden_cons (den_var (i := 0) rfl) (lden_cons (den_bin op_addI (den_var (i := 1) rfl) den_int) (lden_cons (den_var (i := 2) rfl) .nil)))))) (sden_cons (sden_ret den_none) sden_nil) sden_nil) (sden_cons (sden_assign (i := 4) rfl (.inl rfl) (den_item (den_var (i := 0) rfl) (den_var (i := 1) rfl))) (sden_cons (sden_assign (i := 5) rfl (.inl rfl) (den_item (den_var (i := 0) rfl) (den_var (i := 2) rfl))) (sden_cons (sden_if (bden_or (bden_compare op_neS (den_item (den_var (i := 4) rfl) den_str) den_str) (bden_or (bden_compare op_neS (den_item (den_var (i := 5) rfl) den_str) den_str) bden_or_nil)) (sden_cons (sden_ret den_none) sden_nil) sden_nil) (sden_cons (sden_assign (i := 6) rfl (.inl rfl) (den_slice (den_var (i := 0) rfl) (.some (den_bin op_addI (den_var (i := 1) rfl) den_int)) (.some (den_var (i := 2) rfl)))) (sden_cons (sden_if (bden_and (bden_compare op_gt (den_var (i := 3) rfl) den_int) (bden_and (bden_compare op_ge (den_call (f := 43) (P := P_token_depth) (gl hK rfl) (kp hK rfl) (C_token_depth.le (by decide)) rfl (lden_cons (den_var (i := 6) rfl) .nil)) (den_var (i := 3) rfl)) bden_and_nil)) (sden_cons (sden_ret den_none) sden_nil) sden_nil) (sden_cons (sden_ret (den_var (i := 6) rfl)) sden_nil)))))))
theorem D_apply {p : Params} (hK : cx.K = hd.heap_39 p) (hcd : cx.codeOf = codeOf0) (C_deactivate_range : CallOK cx 2 (.ref 152) P_deactivate_range) (C_collapse : CallOK cx 1 (.ref 138) P_collapse) (C_deactivate : CallOK cx 2 (.ref 145) P_deactivate) : CallC cx 3 (.ref 262) P_apply := by
  refine callOK_of (d := 2) (nm := nm_apply) (n := 11) (T := T_apply) (by rw [hK]; rfl) rfl rfl (by rw [hK]; rfl) rfl rfl rfl (fun s rs X h => by
    match rs, h with
    | [a, b, c, d, e, f, g, h, i, j, k], _ => exact BindsTo.of_eq rfl) (by decide) (by decide) (W_apply) ?D (by decide) (fun c h => by rw [hcd, show codeOf0 _ = none from rfl] at h; cases h) rfl rfl rfl
  case D => exact (sden_cons (sden_assign (i := 11) rfl (.inl rfl) (den_item (den_var (i := 0) rfl) (den_var (i := 7) rfl))) (sden_cons (sden_assign (i := 12) rfl (.inl rfl) (den_item (den_var (i := 0) rfl) (den_var (i := 8) rfl))) (sden_cons (sden_setitem (den_slice (den_item (den_var (i := 11) rfl) den_str) .none (.some (den_neg (den_var (i := 9) rfl)))) (den_var (i := 11) rfl) den_str) (sden_cons (sden_setitem (den_slice (den_item (den_var (i := 12) rfl) den_str) (.some (den_var (i := 9) rfl)) .none) (den_var (i := 12) rfl) den_str) (sden_cons (sden_assign (i := 13) rfl (.inl rfl) (den_ifexp (bden_compare op_eqI (den_var (i := 9) rfl) den_int) den_str den_str)) (sden_cons (sden_setslice (den_list (lden_cons (den_dict2 (by decide) (den_var (i := 13) rfl) (den_var (i := 10) rfl)) .nil)) (den_var (i := 0) rfl) (.some (den_bin op_addI (den_var (i := 7) rfl) den_int)) (.some (den_var (i := 8) rfl))) (sden_cons (sden_assign (i := 14) rfl (.inl rfl) (den_bin op_subI (den_bin op_subI (den_var (i := 8) rfl) (den_var (i := 7) rfl)) den_int)) (sden_cons (sden_if (bden_plain (den_var (i := 14) rfl)) (sden_cons (sden_expr (den_mcall (C := cI) (f := 152) (P := P_deactivate_range) (cm hK rfl rfl rfl rfl) (C_deactivate_range.le (by decide)) (den_var (i := 2) rfl) (lden_cons (den_var (i := 1) rfl) (lden_cons (den_bin op_addI (den_var (i := 5) rfl) den_int) (lden_cons (den_var (i := 6) rfl) .nil))))) (sden_cons (sden_expr (den_mcall (C := cI) (f := 138) (P := P_collapse) (cm hK rfl rfl rfl rfl) (C_collapse.le (by decide)) (den_var (i := 2) rfl) (lden_cons (den_var (i := 4) rfl) (lden_cons (den_var (i := 14) rfl) .nil)))) sden_nil)) sden_nil) (sden_cons (sden_augattr (C := cD) iop_sub (at_length hK) (as_length hK) (den_var (i := 3) rfl) (den_var (i := 9) rfl)) (sden_cons (sden_augattr (C := cD) iop_sub (at_length hK) (as_length hK) (den_var (i := 4) rfl) (den_var (i := 9) rfl)) (sden_cons (sden_if (bden_compare op_eqI (den_attr (C := cD) (at_length hK) (den_var (i := 3) rfl)) den_int) (sden_cons (sden_setattr (C := cD) (as_can_open hK) den_bool (den_var (i := 3) rfl)) (sden_cons (sden_expr (den_mcall (C := cI) (f := 145) (P := P_deactivate) (cm hK rfl rfl rfl rfl) (C_deactivate.le (by decide)) (den_var (i := 2) rfl) (lden_cons (den_attr (C := cD) (at_order hK) (den_var (i := 3) rfl)) .nil))) sden_nil)) sden_nil) (sden_cons (sden_if (bden_compare op_eqI (den_attr (C := cD) (at_length hK) (den_var (i := 4) rfl)) den_int) (sden_cons (sden_setattr (C := cD) (as_can_close hK) den_bool (den_var (i := 4) rfl)) (sden_cons (sden_expr (den_mcall (C := cI) (f := 145) (P := P_deactivate) (cm hK rfl rfl rfl rfl) (C_deactivate.le (by decide)) (den_var (i := 2) rfl) (lden_cons (den_attr (C := cD) (at_order hK) (den_var (i := 4) rfl)) .nil))) sden_nil)) sden_nil) sden_nil))))))))))))
theorem D_find_opener {p : Params} (hK : cx.K = hd.heap_39 p) (hcd : cx.codeOf = codeOf0) (C_can_match : CallOK cx 1 (.ref 297) P_can_match) : CallC cx 2 (.ref 241) P_find_opener := by
  refine callOK_of (d := 1) (nm := nm_find_opener) (n := 4) (T := T_find_opener) (by rw [hK]; rfl) rfl rfl (by rw [hK]; rfl) rfl rfl rfl (fun s rs X h => by
    match rs, h with
    | [a, b, c, d], _ => exact BindsTo.of_eq rfl) (by decide) (by decide) (W_find_opener) ?D (by decide) (fun c h => by rw [hcd, show codeOf0 _ = none from rfl] at h; cases h) rfl rfl rfl
  case D => exact (sden_cons (sden_assign (i := 4) rfl (.inl rfl) (den_bin op_subI (den_var (i := 1) rfl) den_int)) (sden_cons (sden_while (bden_compare op_ge (den_var (i := 4) rfl) (den_var (i := 3) rfl)) (sden_cons (sden_assign (i := 5) rfl (.inl rfl) (den_item (den_var (i := 0) rfl) (den_var (i := 4) rfl))) (sden_cons (sden_if (bden_and (bden_compare op_eqS (den_attr (C := cD) (at_marker hK) (den_var (i := 5) rfl)) (den_attr (C := cD) (at_marker hK) (den_var (i := 2) rfl))) (bden_and (bden_plain (den_attr (C := cD) (at_can_open hK) (den_var (i := 5) rfl))) (bden_and (bden_compare op_gt (den_attr (C := cD) (at_length hK) (den_var (i := 5) rfl)) den_int) (bden_and (bden_plain (den_call (f := 297) (P := P_can_match) (gl hK rfl) (kp hK rfl) (C_can_match.le (by decide)) rfl (lden_cons (den_var (i := 5) rfl) (lden_cons (den_var (i := 2) rfl) .nil)))) bden_and_nil)))) (sden_cons (sden_ret (den_tuple (lden_cons (den_var (i := 4) rfl) (lden_cons (den_var (i := 5) rfl) .nil)))) sden_nil) sden_nil) (sden_cons (sden_aug (i := 4) iop_sub rfl (.inl rfl) den_int) sden_nil)))) (sden_cons (sden_ret den_none) sden_nil)))
theorem D_process {p : Params} (hK : cx.K = hd.heap_39 p) (hcd : cx.codeOf = codeOf0) (C_newidx : CallOK cx 2 (.ref 162) P_newidx) (C_find_opener : CallOK cx 2 (.ref 241) P_find_opener) (C_current : CallOK cx 1 (.ref 131) P_current) (C_use_length : CallOK cx 3 (.ref 248) P_use_length) (C_children : CallOK cx 2 (.ref 255) P_children) (C_apply : CallOK cx 3 (.ref 262) P_apply) : CallC cx 4 (.ref 234) P_process := by
  refine callOK_of (d := 3) (nm := nm_process) (n := 3) (T := T_process) (by rw [hK]; rfl) rfl rfl (by rw [hK]; rfl) rfl rfl rfl (fun s rs X h => by
    match rs, h with
    | [a, b, c], _ => exact BindsTo.of_eq rfl) (by decide) (by decide) (W_process) ?D (by decide) (fun c h => by rw [hcd, show codeOf0 _ = none from rfl] at h; cases h) rfl rfl rfl
  case D => exact (sden_cons (sden_assign (i := 3) rfl (.inl rfl) (den_call (f := 162) (P := P_newidx) (gl hK rfl) (kp hK rfl) (C_newidx.le (by decide)) rfl (lden_cons (den_var (i := 1) rfl) (lden_cons (den_bcall (id := "len") mem_len c_len rfl (lden_cons (den_var (i := 0) rfl) .nil)) .nil)))) (sden_cons (sden_assign (i := 4) rfl (.inl rfl) den_int) (sden_cons (sden_assign (i := 5) rfl (.inl rfl) den_bots) (sden_cons (sden_while (bden_compare op_lt (den_var (i := 4) rfl) (den_bcall (id := "len") mem_len c_len rfl (lden_cons (den_var (i := 1) rfl) .nil))) (sden_cons (sden_assign (i := 6) rfl (.inl rfl) (den_item (den_var (i := 1) rfl) (den_var (i := 4) rfl))) (sden_cons (sden_if (bden_or (bden_not (bden_plain (den_attr (C := cD) (at_can_close hK) (den_var (i := 6) rfl)))) (bden_or (bden_compare op_eqI (den_attr (C := cD) (at_length hK) (den_var (i := 6) rfl)) den_int) bden_or_nil)) (sden_cons (sden_aug (i := 4) iop_add rfl (.inl rfl) den_int) (sden_cons sden_cont sden_nil)) sden_nil) (sden_cons (sden_assign (i := 7) rfl (.inl rfl) (den_tuple (lden_cons (den_attr (C := cD) (at_marker hK) (den_var (i := 6) rfl)) (lden_cons (den_bin op_modI (den_attr (C := cD) (at_length hK) (den_var (i := 6) rfl)) den_int) (lden_cons (den_attr (C := cD) (at_can_open hK) (den_var (i := 6) rfl)) .nil))))) (sden_cons (sden_assign (i := 8) rfl (.inl rfl) (den_botsget (den_var (i := 5) rfl) (den_var (i := 7) rfl) den_int)) (sden_cons (sden_assign (i := 9) rfl (.inl rfl) (den_call (f := 241) (P := P_find_opener) (gl hK rfl) (kp hK rfl) (C_find_opener.le (by decide)) rfl (lden_cons (den_var (i := 1) rfl) (lden_cons (den_var (i := 4) rfl) (lden_cons (den_var (i := 6) rfl) (lden_cons (den_var (i := 8) rfl) .nil)))))) (sden_cons (sden_if (bden_compare op_isNone (den_var (i := 9) rfl) den_none) (sden_cons (sden_setbots (den_var (i := 4) rfl) (den_var (i := 5) rfl) (den_var (i := 7) rfl)) (sden_cons (sden_aug (i := 4) iop_add rfl (.inl rfl) den_int) (sden_cons sden_cont sden_nil))) sden_nil) (sden_cons (sden_unpack (is := [10, 11]) (.cons rfl (.inl rfl) (.cons rfl (.inl rfl) .nil)) (den_var (i := 9) rfl)) (sden_cons (sden_assign (i := 12) rfl (.inl rfl) (den_mcall (C := cI) (f := 131) (P := P_current) (cm hK rfl rfl rfl rfl) (C_current.le (by decide)) (den_var (i := 3) rfl) (lden_cons (den_var (i := 11) rfl) .nil))) (sden_cons (sden_assign (i := 13) rfl (.inl rfl) (den_mcall (C := cI) (f := 131) (P := P_current) (cm hK rfl rfl rfl rfl) (C_current.le (by decide)) (den_var (i := 3) rfl) (lden_cons (den_var (i := 6) rfl) .nil))) (sden_cons (sden_assign (i := 14) rfl (.inl rfl) (den_call (f := 248) (P := P_use_length) (gl hK rfl) (kp hK rfl) (C_use_length.le (by decide)) rfl (lden_cons (den_var (i := 0) rfl) (lden_cons (den_var (i := 11) rfl) (lden_cons (den_var (i := 6) rfl) (lden_cons (den_var (i := 12) rfl) (lden_cons (den_var (i := 13) rfl) .nil))))))) (sden_cons (sden_assign (i := 15) rfl (.inl rfl) (den_call (f := 255) (P := P_children) (gl hK rfl) (kp hK rfl) (C_children.le (by decide)) rfl (lden_cons (den_var (i := 0) rfl) (lden_cons (den_var (i := 12) rfl) (lden_cons (den_var (i := 13) rfl) (lden_cons (den_var (i := 2) rfl) .nil)))))) (sden_cons (sden_if (bden_or (bden_compare op_isNone (den_var (i := 14) rfl) den_none) (bden_or (bden_compare op_isNone (den_var (i := 15) rfl) den_none) bden_or_nil)) (sden_cons (sden_aug (i := 4) iop_add rfl (.inl rfl) den_int) (sden_cons sden_cont sden_nil)) sden_nil) (sden_cons (sden_expr (den_call (f := 262) (P := P_apply) (gl hK rfl) (kp hK rfl) (C_apply.le (by decide)) rfl (lden_cons (den_var (i := 0) rfl) (lden_cons (den_var (i := 1) rfl) (lden_cons (den_var (i := 3) rfl) (lden_cons (den_var (i := 11) rfl) (lden_cons (den_var (i := 6) rfl) (lden_cons (den_var (i := 10) rfl) (lden_cons (den_var (i := 4) rfl) (lden_cons (den_var (i := 12) rfl) (lden_cons (den_var (i := 13) rfl) (lden_cons (den_var (i := 14) rfl) (lden_cons (den_var (i := 15) rfl) .nil))))))))))))) (sden_cons (sden_if (bden_or (bden_plain (den_attr (C := cD) (at_can_open hK) (den_var (i := 11) rfl))) (bden_or (bden_plain (den_attr (C := cD) (at_can_close hK) (den_var (i := 6) rfl))) bden_or_nil)) (sden_cons (sden_assign (i := 4) rfl (.inl rfl) (den_bcall (id := "max") mem_max c_max rfl (lden_cons (den_var (i := 10) rfl) (lden_cons (den_botsget (den_var (i := 5) rfl) (den_var (i := 7) rfl) den_int) .nil)))) sden_nil) (sden_cons (sden_aug (i := 4) iop_add rfl (.inl rfl) den_int) sden_nil)) sden_nil))))))))))))))) sden_nil))))
theorem D_dense {p : Params} (hK : cx.K = hd.heap_39 p) (hcd : cx.codeOf = codeOf0) (C_can_match : CallOK cx 1 (.ref 297) P_can_match) (C_has_content : CallOK cx 1 (.ref 290) P_has_content) : CallC cx 2 (.ref 185) P_dense := by
  refine callOK_of (d := 1) (nm := nm_dense) (n := 2) (T := T_dense) (by rw [hK]; rfl) rfl rfl (by rw [hK]; rfl) rfl rfl rfl (fun s rs X h => by
    match rs, h with
    | [a, b], _ => exact BindsTo.of_eq rfl) (by decide) (by decide) (W_dense) ?D (by decide) (fun c h => by rw [hcd, show codeOf0 _ = none from rfl] at h; cases h) rfl rfl rfl
  case D => exact (sden_cons (sden_if (bden_compare op_lt (den_bcall (id := "len") mem_len c_len rfl (lden_cons (den_var (i := 1) rfl) .nil)) den_int) (sden_cons (sden_ret den_bool) sden_nil) sden_nil) (sden_cons (sden_assign (i := 2) rfl (.inl rfl) (den_attr (C := cD) (at_marker hK) (den_item (den_var (i := 1) rfl) den_int))) (sden_cons (sden_if (bden_or (bden_compare op_notInT (den_var (i := 2) rfl) (den_tuple (lden_cons den_str (lden_cons den_str .nil)))) (bden_or (bden_compare op_neI (den_bcall (id := "len") mem_len c_len rfl (lden_cons (den_var (i := 0) rfl) .nil)) (den_bin op_mulL (den_bcall (id := "len") mem_len c_len rfl (lden_cons (den_var (i := 1) rfl) .nil)) den_int)) bden_or_nil)) (sden_cons (sden_ret den_bool) sden_nil) sden_nil) (sden_cons (sden_forE (i := 3) (j := 4) rfl (.inl rfl) rfl (.inl rfl) (den_var (i := 1) rfl) (sden_cons (sden_if (bden_or (bden_compare op_neS (den_attr (C := cD) (at_marker hK) (den_var (i := 4) rfl)) (den_var (i := 2) rfl)) (bden_or (bden_compare op_neI (den_attr (C := cD) (at_length hK) (den_var (i := 4) rfl)) den_int) (bden_or (bden_compare op_neI (den_attr (C := cD) (at_index hK) (den_var (i := 4) rfl)) (den_bin op_mulL (den_var (i := 3) rfl) den_int)) (bden_or (bden_compare op_neS (den_item (den_item (den_var (i := 0) rfl) (den_attr (C := cD) (at_index hK) (den_var (i := 4) rfl))) den_str) den_str) (bden_or (bden_compare op_neS (den_item (den_item (den_var (i := 0) rfl) (den_bin op_addI (den_attr (C := cD) (at_index hK) (den_var (i := 4) rfl)) den_int)) den_str) den_str) bden_or_nil))))) (sden_cons (sden_ret den_bool) sden_nil) sden_nil) sden_nil) rfl) (sden_cons (sden_assign (i := 5) rfl (.inl rfl) (den_bin op_divI (den_bcall (id := "len") mem_len c_len rfl (lden_cons (den_var (i := 1) rfl) .nil)) den_int)) (sden_cons (sden_assign (i := 6) rfl (.inl rfl) (den_list .nil)) (sden_cons (sden_forR (i := 7) rfl (.inl rfl) (den_var (i := 5) rfl) (sden_cons (sden_assign (i := 8) rfl (.inl rfl) (den_item (den_var (i := 1) rfl) (den_bin op_mulL (den_var (i := 7) rfl) den_int))) (sden_cons (sden_assign (i := 9) rfl (.inl rfl) (den_item (den_var (i := 1) rfl) (den_bin op_addI (den_bin op_mulL (den_var (i := 7) rfl) den_int) den_int))) (sden_cons (sden_if (bden_or (bden_not (bden_plain (den_attr (C := cD) (at_can_open hK) (den_var (i := 8) rfl)))) (bden_or (bden_not (bden_plain (den_attr (C := cD) (at_can_close hK) (den_var (i := 9) rfl)))) (bden_or (bden_not (bden_plain (den_call (f := 297) (P := P_can_match) (gl hK rfl) (kp hK rfl) (C_can_match.le (by decide)) rfl (lden_cons (den_var (i := 8) rfl) (lden_cons (den_var (i := 9) rfl) .nil))))) (bden_or (bden_not (bden_plain (den_call (f := 290) (P := P_has_content) (gl hK rfl) (kp hK rfl) (C_has_content.le (by decide)) rfl (lden_cons (den_var (i := 0) rfl) (lden_cons (den_bin op_addI (den_attr (C := cD) (at_index hK) (den_var (i := 8) rfl)) den_int) (lden_cons (den_attr (C := cD) (at_index hK) (den_var (i := 9) rfl)) .nil)))))) bden_or_nil)))) (sden_cons (sden_ret den_bool) sden_nil) sden_nil) (sden_cons (sden_if (bden_plain (den_var (i := 7) rfl)) (sden_cons (sden_expr (den_meth1 m_append (den_var (i := 6) rfl) (den_item (den_var (i := 0) rfl) (den_bin op_subI (den_attr (C := cD) (at_index hK) (den_var (i := 8) rfl)) den_int)))) sden_nil) sden_nil) (sden_cons (sden_expr (den_meth1 m_append (den_var (i := 6) rfl) (den_dict2 (by decide) den_str (den_list (lden_cons (den_item (den_var (i := 0) rfl) (den_bin op_addI (den_attr (C := cD) (at_index hK) (den_var (i := 8) rfl)) den_int)) .nil))))) sden_nil))))) rfl) (sden_cons (sden_if (bden_plain (den_var (i := 5) rfl)) (sden_cons (sden_assign (i := 10) rfl (.inl rfl) (den_attr (C := cD) (at_index hK) (den_item (den_var (i := 1) rfl) (den_bin op_subI (den_bin op_mulL (den_var (i := 5) rfl) den_int) den_int)))) (sden_cons (sden_setslice (den_bin op_addL (den_var (i := 6) rfl) (den_slice (den_var (i := 0) rfl) (.some (den_bin op_addI (den_var (i := 10) rfl) den_int)) .none)) (den_var (i := 0) rfl) .none .none) sden_nil)) sden_nil) (sden_cons (sden_ret den_bool) sden_nil)))))))))
theorem D_merge {p : Params} (hK : cx.K = hd.heap_39 p) (hcd : cx.codeOf = codeOf0) (C_entity : CallOK cx 1 (.ref 55) P_entity) (C_clean : CallOK cx 1 (.ref 199) P_clean) : CallC cx 2 (.ref 325) P_merge := by
  refine callOK_of (d := 1) (nm := nm_merge) (n := 1) (T := T_merge) (by rw [hK]; rfl) rfl rfl (by rw [hK]; rfl) rfl rfl rfl (fun s rs X h => by
    match rs, h with
    | [a], _ => exact BindsTo.of_eq rfl) (by decide) (by decide) (W_merge) ?D (by decide) (fun c h => by rw [hcd, show codeOf0 _ = none from rfl] at h; cases h) rfl rfl rfl
  case D => exact (sden_cons (sden_assign (i := 1) rfl (.inl rfl) (den_list .nil)) (sden_cons (sden_assign (i := 2) rfl (.inl rfl) (den_list .nil)) (sden_cons (sden_forL (i := 3) rfl (.inl rfl) (den_var (i := 0) rfl) (sden_cons (sden_if (bden_compare op_eqS (den_item (den_var (i := 3) rfl) den_str) den_str) (sden_cons (sden_assign (i := 4) rfl (.inl rfl) (den_item (den_var (i := 3) rfl) den_str)) (sden_cons (sden_if (bden_not (bden_plain (den_var (i := 4) rfl))) (sden_cons sden_cont sden_nil) sden_nil) (sden_cons (sden_if (bden_and (bden_plain (den_var (i := 2) rfl)) (bden_and (bden_plain (den_call (f := 55) (P := P_entity) (gl hK rfl) (kp hK rfl) (C_entity.le (by decide)) rfl (lden_cons (den_item (den_var (i := 2) rfl) (den_neg den_int)) (lden_cons (den_var (i := 4) rfl) .nil)))) bden_and_nil)) (sden_cons (sden_expr (den_meth1 m_append (den_var (i := 1) rfl) (den_dict2 (by decide) den_str (den_meth1 m_join den_str (den_var (i := 2) rfl))))) (sden_cons (sden_assign (i := 2) rfl (.inl rfl) (den_list .nil)) sden_nil)) sden_nil) (sden_cons (sden_expr (den_meth1 m_append (den_var (i := 2) rfl) (den_var (i := 4) rfl))) sden_nil)))) (sden_cons (sden_if (bden_plain (den_var (i := 2) rfl)) (sden_cons (sden_expr (den_meth1 m_append (den_var (i := 1) rfl) (den_dict2 (by decide) den_str (den_meth1 m_join den_str (den_var (i := 2) rfl))))) (sden_cons (sden_assign (i := 2) rfl (.inl rfl) (den_list .nil)) sden_nil)) sden_nil) (sden_cons (sden_expr (den_meth1 m_append (den_var (i := 1) rfl) (den_call (f := 199) (P := P_clean) (gl hK rfl) (kp hK rfl) (C_clean.le (by decide)) rfl (lden_cons (den_var (i := 3) rfl) .nil)))) sden_nil))) sden_nil)) (sden_cons (sden_if (bden_plain (den_var (i := 2) rfl)) (sden_cons (sden_expr (den_meth1 m_append (den_var (i := 1) rfl) (den_dict2 (by decide) den_str (den_meth1 m_join den_str (den_var (i := 2) rfl))))) sden_nil) sden_nil) (sden_cons (sden_ret (den_var (i := 1) rfl)) sden_nil)))))
theorem D_finalize {p : Params} (hK : cx.K = hd.heap_39 p) (hcd : cx.codeOf = codeOf0) (C_contains : CallOK cx 1 (.ref 192) P_contains) (C_clean : CallOK cx 1 (.ref 199) P_clean) (C_source : CallOK cx 1 (.ref 206) P_source) (C_split : CallOK cx 3 (.ref 220) P_split) (C_srclen : CallOK cx 1 (.ref 213) P_srclen) (C_dense : CallOK cx 2 (.ref 185) P_dense) (C_merge : CallOK cx 2 (.ref 325) P_merge) (C_process : CallOK cx 4 (.ref 234) P_process) : CallC cx 5 (.ref 171) P_finalize := by
  refine callOK_of (d := 4) (nm := nm_finalize) (n := 3) (T := T_finalize) (by rw [hK]; rfl) rfl rfl (by rw [hK]; rfl) rfl rfl rfl (fun s rs X h => by
    match rs, h with
    | [a, b, c], _ => exact BindsTo.of_eq rfl) (by decide) (by decide) (W_finalize) ?D (by decide) (fun c h => by rw [hcd, show codeOf0 _ = none from rfl] at h; cases h) rfl rfl rfl
  case D => exact (sden_cons (sden_if (bden_compare op_gt (den_bcall (id := "len") mem_len c_len rfl (lden_cons (den_var (i := 0) rfl) .nil)) den_int) (sden_cons s1den_dead sden_nil) sden_nil) (sden_cons (sden_if (bden_or (bden_not (bden_plain (den_var (i := 1) rfl))) (bden_or (bden_not (bden_plain (den_call (f := 192) (P := P_contains) (gl hK rfl) (kp hK rfl) (C_contains.le (by decide)) rfl (lden_cons (den_var (i := 0) rfl) .nil)))) bden_or_nil)) (sden_cons (sden_ret (den_comp (fr := []) (compOk_of (fnm := []) hcd rfl rfl) (den_var (i := 0) rfl) .nil (den_call (f := 199) (P := P_clean) (gl hK rfl) (kp hK rfl) (C_clean.le (by decide)) rfl (lden_cons (den_var (i := 0) rfl) .nil)))) sden_nil) sden_nil) (sden_cons (sden_assign (i := 3) rfl (.inl rfl) (den_list .nil)) (sden_cons (sden_assign (i := 4) rfl (.inl rfl) (den_list .nil)) (sden_cons (sden_assign (i := 5) rfl (.inl rfl) (den_call (f := 206) (P := P_source) (gl hK rfl) (kp hK rfl) (C_source.le (by decide)) rfl (lden_cons (den_var (i := 0) rfl) .nil))) (sden_cons (sden_assign (i := 6) rfl (.inl rfl) den_int) (sden_cons (sden_forL (i := 7) rfl (.inl rfl) (den_var (i := 0) rfl) (sden_cons (sden_if (bden_and (bden_compare op_eqS (den_item (den_var (i := 7) rfl) den_str) den_str) (bden_and (bden_plain (den_dictget2 (den_var (i := 7) rfl) den_str den_bool)) bden_and_nil)) (sden_cons (sden_expr (den_call (f := 220) (P := P_split) (gl hK rfl) (kp hK rfl) (C_split.le (by decide)) rfl (lden_cons (den_var (i := 7) rfl) (lden_cons (den_var (i := 5) rfl) (lden_cons (den_var (i := 6) rfl) (lden_cons (den_var (i := 3) rfl) (lden_cons (den_var (i := 4) rfl) .nil))))))) sden_nil) (sden_cons s1den_dead sden_nil)) (sden_cons (sden_aug (i := 6) iop_add rfl (.inl rfl) (den_call (f := 213) (P := P_srclen) (gl hK rfl) (kp hK rfl) (C_srclen.le (by decide)) rfl (lden_cons (den_var (i := 7) rfl) .nil))) sden_nil))) (sden_cons (sden_if (bden_plain (den_call (f := 185) (P := P_dense) (gl hK rfl) (kp hK rfl) (C_dense.le (by decide)) rfl (lden_cons (den_var (i := 3) rfl) (lden_cons (den_var (i := 4) rfl) .nil)))) (sden_cons (sden_ret (den_call (f := 325) (P := P_merge) (gl hK rfl) (kp hK rfl) (C_merge.le (by decide)) rfl (lden_cons (den_var (i := 3) rfl) .nil))) sden_nil) sden_nil) (sden_cons (sden_expr (den_call (f := 234) (P := P_process) (gl hK rfl) (kp hK rfl) (C_process.le (by decide)) rfl (lden_cons (den_var (i := 3) rfl) (lden_cons (den_var (i := 4) rfl) (lden_cons (den_var (i := 2) rfl) .nil))))) (sden_cons (sden_ret (den_call (f := 325) (P := P_merge) (gl hK rfl) (kp hK rfl) (C_merge.le (by decide)) rfl (lden_cons (den_var (i := 3) rfl) .nil))) sden_nil))))))))))
theorem D_class {p : Params} (hK : cx.K = hd.heap_39 p) (hcd : cx.codeOf = codeOf0) : CallC cx 1 (.ref 332) P_class := by
  refine callOK_of (d := 0) (nm := nm_class) (n := 2) (T := T_class) (by rw [hK]; rfl) rfl rfl (by rw [hK]; rfl) rfl rfl rfl (fun s rs X h => by
    match rs, h with
    | [a, b], _ => exact BindsTo.of_eq rfl) (by decide) (by decide) W_class ?D (by decide) (fun c h => by rw [hcd, show codeOf0 _ = none from rfl] at h; cases h) rfl rfl rfl
  case D => exact (sden_cons (sden_if (bden_or (bden_compare op_lt (den_var (i := 1) rfl) den_int) (bden_or (bden_compare op_ge (den_var (i := 1) rfl) (den_bcall (id := "len") mem_len c_len rfl (lden_cons (den_var (i := 0) rfl) .nil))) (bden_or (bden_compare op_eqS (den_item (den_var (i := 0) rfl) (den_var (i := 1) rfl)) den_str) bden_or_nil))) (sden_cons (sden_ret den_int) sden_nil) sden_nil) (sden_cons (sden_ret (den_ifexp (bden_compare op_inS (den_item (den_var (i := 0) rfl) (den_var (i := 1) rfl)) den_str) den_int den_int)) sden_nil))
theorem D_paired {p : Params} (hK : cx.K = hd.heap_39 p) (hcd : cx.codeOf = codeOf0) (C_class : CallOK cx 1 (.ref 332) P_class) : CallC cx 2 (.ref 337) P_paired := by
  refine callOK_of (d := 1) (nm := nm_paired) (n := 1) (T := T_paired) (by rw [hK]; rfl) rfl rfl (by rw [hK]; rfl) rfl rfl rfl (fun s rs X h => by
    match rs, h with
    | [a], _ => exact BindsTo.of_eq rfl) (by decide) (by decide) W_paired ?D (by decide) (fun c h => by rw [hcd, show codeOf0 _ = none from rfl] at h; cases h) rfl rfl rfl
  case D => exact (sden_cons (sden_assign (i := 1) rfl (.inl rfl) (den_list .nil)) (sden_cons (sden_assign (i := 2) rfl (.inr rfl) (den_list .nil)) (sden_cons (sden_forR (i := 3) rfl (.inl rfl) (den_bcall (id := "len") mem_len c_len rfl (lden_cons (den_var (i := 0) rfl) .nil)) (sden_cons (sden_assign (i := 4) rfl (.inr rfl) (den_item (den_var (i := 0) rfl) (den_var (i := 3) rfl))) (sden_cons (sden_assign (i := 5) rfl (.inl rfl) (den_call (f := 332) (P := P_class) (gl hK rfl) (kp hK rfl) (C_class.le (by decide)) rfl (lden_cons (den_var (i := 0) rfl) (lden_cons (den_bin op_subI (den_var (i := 3) rfl) den_int) .nil)))) (sden_cons (sden_assign (i := 6) rfl (.inl rfl) (den_call (f := 332) (P := P_class) (gl hK rfl) (kp hK rfl) (C_class.le (by decide)) rfl (lden_cons (den_var (i := 0) rfl) (lden_cons (den_bin op_addI (den_var (i := 3) rfl) den_int) .nil)))) (sden_cons (sden_assign (i := 7) rfl (.inl rfl) (den_or (den_compare op_eqI (den_var (i := 6) rfl) den_int) (den_and1 (den_and (den_compare op_eqI (den_var (i := 6) rfl) den_int) (den_and1 (den_compare op_lt (den_var (i := 5) rfl) den_int)))))) (sden_cons (sden_assign (i := 8) rfl (.inl rfl) (den_or (den_compare op_eqI (den_var (i := 5) rfl) den_int) (den_and1 (den_and (den_compare op_eqI (den_var (i := 5) rfl) den_int) (den_and1 (den_compare op_lt (den_var (i := 6) rfl) den_int)))))) (sden_cons (sden_assign (i := 9) rfl (.inl rfl) (den_and (den_var (i := 7) rfl) (den_and1 (den_or (den_compare op_eqS (den_var (i := 4) rfl) den_str) (den_or (den_not (den_var (i := 8) rfl)) (den_and1 (den_compare op_eqI (den_var (i := 5) rfl) den_int))))))) (sden_cons (sden_assign (i := 10) rfl (.inl rfl) (den_and (den_var (i := 8) rfl) (den_and1 (den_or (den_compare op_eqS (den_var (i := 4) rfl) den_str) (den_or (den_not (den_var (i := 7) rfl)) (den_and1 (den_compare op_eqI (den_var (i := 6) rfl) den_int))))))) (sden_cons (sden_assign (i := 11) rfl (.inl rfl) (den_ifexp (bden_and (bden_compare op_inS (den_var (i := 4) rfl) den_str) (bden_and (bden_plain (den_var (i := 10) rfl)) bden_and_nil)) (den_compR (fr := [4, 2]) (compOk_of (fnm := [(Str.ofString "sign"), (Str.ofString "stack")]) hcd rfl rfl) (den_bcall (id := "len") mem_len c_len rfl (lden_cons (den_var (i := 2) rfl) .nil)) rfl (.one (bden_compare op_eqS (den_item (den_item (den_var (i := 2) rfl) (den_var (i := 0) rfl)) den_int) (den_var (i := 1) rfl))) (den_var (i := 0) rfl)) (den_list .nil))) (sden_cons (sden_if (bden_compare op_neNil (den_var (i := 11) rfl) (den_list .nil)) (sden_cons (sden_assign (i := 12) rfl (.inl rfl) (den_item (den_item (den_var (i := 2) rfl) (den_item (den_var (i := 11) rfl) (den_neg den_int))) den_int)) (sden_cons (sden_assign (i := 2) rfl (.inr rfl) (den_slice (den_var (i := 2) rfl) .none (.some (den_item (den_var (i := 11) rfl) (den_neg den_int))))) (sden_cons (sden_assign (i := 1) rfl (.inl rfl) (den_bin op_addL (den_slice (den_var (i := 1) rfl) .none (.some (den_var (i := 12) rfl))) (den_list (lden_cons (den_bin op_addS (den_bin op_addS den_str (den_meth1 m_join den_str (den_slice (den_var (i := 1) rfl) (.some (den_bin op_addI (den_var (i := 12) rfl) den_int)) .none))) den_str) .nil)))) sden_nil))) (sden_cons (sden_if (bden_and (bden_compare op_inS (den_var (i := 4) rfl) den_str) (bden_and (bden_plain (den_var (i := 9) rfl)) bden_and_nil)) (sden_cons (sden_expr (den_meth1 m_append (den_var (i := 2) rfl) (den_tuple (lden_cons (den_var (i := 4) rfl) (lden_cons (den_bcall (id := "len") mem_len c_len rfl (lden_cons (den_var (i := 1) rfl) .nil)) .nil))))) sden_nil) sden_nil) (sden_cons (sden_expr (den_meth1 m_append (den_var (i := 1) rfl) (den_var (i := 4) rfl))) sden_nil))) sden_nil))))))))) rfl) (sden_cons (sden_ret (den_meth1 m_join den_str (den_var (i := 1) rfl))) sden_nil))))
theorem D_shown1 {p : Params} (hK : cx.K = hd.heap_39 p) (hcd : cx.codeOf = codeOf0) (k d : Nat) (P : FnP) (CP : CallOK cx d (.ref 344) P) (hP : ∀ j, k = j + 1 → P = P_shown j) : CallC cx (d + 1) (.ref 344) (P_shown k) := by
  refine callOK_of (d := d) (nm := nm_shown) (n := 1) (T := T_shown P) (by rw [hK]; rfl) rfl rfl (by rw [hK]; rfl) rfl rfl rfl (fun s rs X h => by
    match rs, h with
    | [a], _ => exact BindsTo.of_eq rfl) (by decide) (by decide) (W_shown k P hP) ?D (by decide) (fun c h => by rw [hcd, show codeOf0 _ = none from rfl] at h; cases h) rfl rfl rfl
  case D => exact (sden_cons (sden_assign (i := 1) rfl (.inl rfl) den_str) (sden_cons (sden_forL (i := 2) rfl (.inl rfl) (den_var (i := 0) rfl) (sden_cons (sden_if (bden_compare op_eqS (den_item (den_var (i := 2) rfl) den_str) den_str) (sden_cons (sden_assign (i := 1) rfl (.inl rfl) (den_bin op_addS (den_var (i := 1) rfl) (den_item (den_var (i := 2) rfl) den_str))) sden_nil) (sden_cons (sden_assign (i := 1) rfl (.inl rfl) (den_bin op_addS (den_bin op_addS (den_bin op_addS (den_bin op_addS (den_bin op_addS (den_bin op_addS (den_bin op_addS (den_var (i := 1) rfl) den_str) (den_item (den_var (i := 2) rfl) den_str)) den_str) (den_call (f := 344) (P := P) (gl hK rfl) (kp hK rfl) CP rfl (lden_cons (den_item (den_var (i := 2) rfl) den_str) .nil))) den_str) (den_item (den_var (i := 2) rfl) den_str)) den_str)) sden_nil)) sden_nil)) (sden_cons (sden_ret (den_var (i := 1) rfl)) sden_nil)))
theorem D_shown {p : Params} (hK : cx.K = hd.heap_39 p) (hcd : cx.codeOf = codeOf0) : ∀ k, CallC cx (k + 1) (.ref 344) (P_shown k)
  | 0 => D_shown1 hK hcd 0 0 (fun _ _ _ => False) (fun _ _ _ _ _ _ _ _ _ _ h => h.elim) (fun j h => by omega)
  | k + 1 => D_shown1 hK hcd (k + 1) (k + 1) (P_shown k) (D_shown hK hcd k).ok (fun j h => by cases h; rfl)

theorem D_lawB {p : Params} (hK : cx.K = hd.heap_39 p) (hcd : cx.codeOf = codeOf0) (C_shown : CallOK cx 13 (.ref 344) (P_shown 12)) (C_paired : CallOK cx 2 (.ref 337) P_paired) (C_finalize : CallOK cx 5 (.ref 171) P_finalize) : CallC cx 14 (.ref 351) P_lawB := by
  refine callOK_of (d := 13) (nm := nm_lawB) (n := 1) (T := T_lawB) (by rw [hK]; rfl) rfl rfl (by rw [hK]; rfl) rfl rfl rfl (fun s rs X h => by
    match rs, h with
    | [a], _ => exact BindsTo.of_eq rfl) (by decide) (by decide) (W_lawB plain02) ?D (by decide) (fun c h => by rw [hcd, show codeOf0 _ = none from rfl] at h; cases h) rfl rfl rfl
  case D => exact (sden_cons (sden_assign (i := 1) rfl (.inl rfl) den_str) (sden_cons (sden_forL (i := 2) rfl (.inl rfl) (den_or (den_slice (den_var (i := 0) rfl) .none (.some den_int)) (den_and1 (den_list (lden_cons den_int (lden_cons den_int (lden_cons den_int .nil)))))) (sden_cons (sden_assign (i := 3) rfl (.inl rfl) (den_item (den_gname (v := .str lawSigns2) (gl hK rfl) (.str _ _) rfl) (den_bin op_modI (den_var (i := 2) rfl) den_int))) (sden_cons (sden_assign (i := 1) rfl (.inl rfl) (den_bin op_addS (den_var (i := 1) rfl) (den_ifexp (bden_and (bden_compare op_inS (den_var (i := 3) rfl) den_str) (bden_and (bden_compare op_eqS (den_slice (den_var (i := 1) rfl) (.some (den_neg den_int)) .none) (den_var (i := 3) rfl)) bden_and_nil)) den_str (den_var (i := 3) rfl)))) sden_nil))) (sden_cons (sden_assign (i := 4) rfl (.inl rfl) (den_call (f := 337) (P := P_paired) (gl hK rfl) (kp hK rfl) (C_paired.le (by decide)) rfl (lden_cons (den_var (i := 1) rfl) .nil))) (sden_cons (sden_ret (den_compare op_eqS (den_call (f := 344) (P := (P_shown 12)) (gl hK rfl) (kp hK rfl) (C_shown.le (by decide)) rfl (lden_cons (den_call (f := 171) (P := P_finalize) (gl hK rfl) (kp hK rfl) (C_finalize.le (by decide)) rfl (lden_cons (den_list (lden_cons (den_dict2 (by decide) den_str (den_var (i := 1) rfl)) .nil)) (lden_cons den_bool (lden_cons den_int .nil)))) .nil)) (den_var (i := 4) rfl))) sden_nil))))
theorem C_lawB {p : Params} (hK : cx.K = hd.heap_39 p) (hcd : cx.codeOf = codeOf0) : CallC cx 14 (.ref 351) P_lawB := by
  have c_entity := D_entity hK hcd 
  have c_init := D_init hK hcd 
  have c_find := D_find hK hcd 
  have c_initidx := D_initidx hK hcd 
  have c_current := D_current hK hcd 
  have c_collapse := D_collapse hK hcd 
  have c_deactivate := D_deactivate hK hcd c_find.ok
  have c_deactivate_range := D_deactivate_range hK hcd c_find.ok
  have c_token_depth := D_token_depth hK hcd 
  have c_contains := D_contains hK hcd 
  have c_clean := D_clean hK hcd 
  have c_source := D_source hK hcd 
  have c_srclen := D_srclen hK hcd 
  have c_next_run := D_next_run hK hcd 
  have c_is_punct := D_is_punct hK hcd 
  have c_can_open := D_can_open hK hcd c_is_punct.ok
  have c_can_close := D_can_close hK hcd c_is_punct.ok
  have c_new := D_new hK c_init
  have c_newidx := D_newidx hK c_initidx
  have c_split := D_split hK hcd c_next_run.ok c_can_open.ok c_can_close.ok c_new
  have c_can_match := D_can_match hK hcd 
  have c_has_content := D_has_content hK hcd 
  have c_text_raw := D_text_raw hK hcd 
  have c_has_strong := D_has_strong hK hcd c_text_raw.ok
  have c_has_emph := D_has_emph hK hcd c_text_raw.ok
  have c_use_length := D_use_length hK hcd c_has_strong.ok c_has_emph.ok
  have c_children := D_children hK hcd c_has_content.ok c_token_depth.ok
  have c_apply := D_apply hK hcd c_deactivate_range.ok c_collapse.ok c_deactivate.ok
  have c_find_opener := D_find_opener hK hcd c_can_match.ok
  have c_process := D_process hK hcd c_newidx c_find_opener.ok c_current.ok c_use_length.ok c_children.ok c_apply.ok
  have c_dense := D_dense hK hcd c_can_match.ok c_has_content.ok
  have c_merge := D_merge hK hcd c_entity.ok c_clean.ok
  have c_finalize := D_finalize hK hcd c_contains.ok c_clean.ok c_source.ok c_split.ok c_srclen.ok c_dense.ok c_merge.ok c_process.ok
  exact D_lawB hK hcd (D_shown hK hcd 12).ok (D_paired hK hcd (D_class hK hcd).ok).ok c_finalize.ok
end Mine
end
section
set_option maxRecDepth 100000
set_option maxHeartbeats 4000000
namespace Mine
theorem cx2_bi (p : Params) : ∀ x v, (x, v) ∈ bList → nsIn (hd.heap_39 p) mainGlobals x = some none ∧ bootBuiltins x = some v ∧ x ≠ "__name__" := by
  intro x v h
  simp only [bList, List.mem_cons, Prod.mk.injEq, List.not_mem_nil, or_false] at h
  rcases h with ⟨rfl, rfl⟩ | ⟨rfl, rfl⟩ | ⟨rfl, rfl⟩ | ⟨rfl, rfl⟩ | ⟨rfl, rfl⟩ | ⟨rfl, rfl⟩
  · exact ⟨rfl, rfl, by decide⟩
  · exact ⟨rfl, rfl, by decide⟩
  · exact ⟨rfl, rfl, by decide⟩
  · exact ⟨rfl, rfl, by decide⟩
  · exact ⟨rfl, rfl, by decide⟩
  · exact ⟨rfl, rfl, by decide⟩
theorem tab2 {loose : List Str} {mean : ExcName → Option Value} {mg mb : Str → Option Value} {h : Heap} {p : Params} (T : Top hd.view_39 loose mean mg mb h) (X : (hd.heap_39 p).In h) : TabsAt [(42, 40)] h := by
  obtain ⟨d, hd⟩ : ∃ d, (recsOf hd.view_39).find? (fun e => e.name == Str.ofString "token_depth") = some d := Option.isSome_iff_exists.mp (by decide +kernel)
  have := tab_of (x := Str.ofString "token_depth") (c := 42) (P := 40) T X hd rfl
  intro q hq
  simp only [List.mem_cons, List.not_mem_nil, or_false] at hq
  subst hq
  exact this
theorem j2_main {w : World} {s₁ : Shared} {loose : List Str} {mean : ExcName → Option Value} {mg mb : Str → Option Value} {fa : Addr} (X : (hd.heap_39 w.params).In s₁.heap) (T : Top hd.view_39 loose mean mg mb s₁.heap)
    (hmg : mg (Str.ofString "law") = some (.ref fa)) (hg : s₁.gens = #[]) {S : Addr} {rs : List Value} {ns : List Int} (hL : s₁.heap.IsList S rs.toArray) (hI : IntsAre rs ns) (hn : ns.length ≤ 63) {ca : Str → Option Addr} {args : List WData} :
    codeAny (model PySem.Challenge.rw_es0005_02.row.prog w) callerA (.call (.ref fa) ⟨[.ref S], []⟩) (GoodWG PySem.Challenge.rw_es0005_02.row.claim ca mean args s₁) s₁ := by
  have hfa : fa = 351 := by
    have := mg_of (n := Str.ofString "law") (v := .ref 351) X T.g rfl
    rw [hmg] at this
    cases this; rfl
  subst hfa
  have hT := tab2 T X
  have C := C_lawB (cx := cxOf PySem.Challenge.rw_es0005_02.row.prog w s₁ [(42, 40)] (hd.heap_39 w.params) hT X (by rfl) T (cx2_bi _)) rfl rfl
  refine law_end (cx := cxOf PySem.Challenge.rw_es0005_02.row.prog w s₁ [(42, 40)] (hd.heap_39 w.params) hT X (by rfl) T (cx2_bi _)) (l := lTD) (k := kTD) (ns := ns) rfl rfl hT hg (by decide) hL hI C ⟨rfl, by decide, by decide⟩ ?_ (fun _ => rfl) (by kernel_rfl)
  obtain ⟨_, hSP⟩ := grel0 (cx := cxOf PySem.Challenge.rw_es0005_02.row.prog w s₁ [(42, 40)] (hd.heap_39 w.params) hT X (by rfl) T (cx2_bi _)) (l := lTD) (k := kTD) rfl rfl hT hg (by decide) hL hI
  refine ⟨S, ns, rfl, ?_, hn, ?_, fun _ => rfl⟩
  · unfold H0; rw [if_neg hSP, if_pos rfl]
  · unfold tabOk H0; rw [if_pos rfl]
end Mine
end
set_option maxRecDepth 100000 in
set_option maxHeartbeats 8000000 in
theorem PySem.Challenge.cw_es0005_02_holds : PySem.Challenge.rw_es0005_02.Holds := by
  refine Mine.hd ?_
  k_fill
  intro w s₀ s₁ mg mb G Y fa o pm cd doc dV kV ho hcd0 hcd hD hmg hg args vals as hpre hlay hrd hwl hlo
  have KX := km_in_of Y
  km_tabs Y
  have X := (Ground.X G).1
  have V := (Ground.X G).2
  refine Ground.open G ?_
  intro T B D TE TW
  wrow_args hpre hlay hrd hwl hlo
  all_goals (
    first | refine callC_kw (enter_call ?_) | refine enter_call ?_)
  rename IntsAre _ _ => hI
  rename Heap.IsList _ _ _ => hL
  exact Mine.j2_main KX T hmg hg hL hI (by omega)
