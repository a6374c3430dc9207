import JvmDerived
import JvmDerived.Pilot.@@N@@Statement
import JvmDerived.Pilot.@@N@@Code
set_option linter.unusedVariables false
set_option linter.unusedSimpArgs false
@@BLOCK:HandJ.lean.txt@@
@@BLOCK:HandW.lean.txt@@
@@BLOCK:HandBits.lean.txt@@
@@BLOCK:SymRun.lean.txt@@
@@BLOCK:RowBasics.lean.txt@@
@@BLOCK:Bridge.lean.txt@@
@@BLOCK:SymKit.lean.txt@@
@@BLOCK:SymWays.lean.txt@@
@@BLOCK:NumsL.lean.txt@@
@@BLOCK:Masks.lean.txt@@
namespace Jvm.Pilot.@@N@@
open Jvm Jvm.ClassFile Sem Op Jvm.Sym Jvm.Pilot.@@N@@.Jvm.D

/-! own 1: arguments by their kinds -/
def own_KL : List VKind → List Value → Prop
  | [], [] => True
  | k :: ks, v :: vs => k.ok v = true ∧ own_KL ks vs
  | _, _ => False
def own_Kinds (ks : List VKind) (A : Array Value) : Prop := own_KL ks A.toList
theorem own_KL_get : ∀ {ks : List VKind} {vs : List Value}, own_KL ks vs → ∀ {i : Nat} {k : VKind}, ks[i]? = some k → ∃ v, vs[i]? = some v ∧ k.ok v = true
  | [], [], _, i, k, h => by simp at h
  | k0 :: ks, v0 :: vs, hh, 0, k, h => by
    simp at h; subst h; exact ⟨v0, by simp, hh.1⟩
  | k0 :: ks, v0 :: vs, hh, i + 1, k, h => by
    simp at h; obtain ⟨v, h1, h2⟩ := own_KL_get hh.2 h; exact ⟨v, by simpa using h1, h2⟩
  | [], _ :: _, hh, _, _, _ => hh.elim
  | _ :: _, [], hh, _, _, _ => hh.elim
theorem own_KL_len : ∀ {ks : List VKind} {vs : List Value}, own_KL ks vs → vs.length = ks.length
  | [], [], _ => rfl
  | k0 :: ks, v0 :: vs, hh => by simp [own_KL_len hh.2]
  | [], _ :: _, hh => hh.elim
  | _ :: _, [], hh => hh.elim
theorem own_Kinds.get {ks : List VKind} {A : Array Value} (h : own_Kinds ks A) {i : Nat} {k : VKind} (hk : ks[i]? = some k) : ∃ v, A[i]? = some v ∧ k.ok v = true := by
  obtain ⟨v, h1, h2⟩ := own_KL_get h hk
  exact ⟨v, by rwa [Array.getElem?_toList] at h1, h2⟩
theorem own_Kinds.size {ks : List VKind} {A : Array Value} (h : own_Kinds ks A) : A.size = ks.length := by
  have := own_KL_len h
  simpa using this
theorem own_KL_sorts {A : Array Value} {s : State} : ∀ (ks : List VKind) (i : Nat) (vs : List Value), (∀ j, A[i + j]? = vs[j]?) → vs.length = ks.length → (∀ q ∈ Sym.sorts i ks, q.before A s = true) → own_KL ks vs
  | [], _, [], _, _, _ => trivial
  | [], _, _ :: _, _, h, _ => by simp at h
  | _ :: _, _, [], _, h, _ => by simp at h
  | k :: ks, i, v :: vs, hA, hl, hq => by
    have h0 := hq (isK k (.arg i)) (by simp [Sym.sorts])
    obtain ⟨w, e, ok⟩ := isK_spec h0
    have e0 := hA 0
    simp only [Nat.add_zero, List.getElem?_cons_zero] at e0
    have e1 : A[i]? = some w := e
    rw [e0] at e1
    cases e1
    refine ⟨ok, own_KL_sorts ks (i + 1) vs (fun j => ?_) (by simpa using hl) (fun q h => hq q (by simp [Sym.sorts]; exact Or.inr h))⟩
    have := hA (j + 1)
    rw [List.getElem?_cons_succ] at this
    rw [← this]; congr 1; omega
theorem own_Kinds_of {A : Array Value} {s : State} {ks : List VKind} (hn : A.size = ks.length) (hq : ∀ q ∈ Sym.sorts 0 ks, q.before A s = true) : own_Kinds ks A :=
  own_KL_sorts ks 0 A.toList (fun j => by simp) (by simpa using hn) hq
theorem own_Kinds.sorts {A : Array Value} {s : State} : ∀ {ks : List VKind} {vs : List Value} (i : Nat), (∀ j, A[i + j]? = vs[j]?) → own_KL ks vs → ∀ q ∈ Sym.sorts i ks, q.before A s = true
  | [], [], _, _, _, q, hq => by cases hq
  | [], _ :: _, _, _, hh, _, _ => hh.elim
  | _ :: _, [], _, _, hh, _, _ => hh.elim
  | k :: ks, v :: vs, i, hA, hh, q, hq => by
    have e0 := hA 0
    simp only [Nat.add_zero, List.getElem?_cons_zero] at e0
    rcases List.mem_cons.mp hq with rfl | hq
    · cases k <;> cases v <;> first | (have := hh.1; simp [VKind.ok] at this; done) | simp [isK, Cond.before, Cond.holds, Cond.value, Term.eval, e0]
    · refine own_Kinds.sorts (i + 1) (fun j => ?_) hh.2 q hq
      have := hA (j + 1)
      rw [List.getElem?_cons_succ] at this
      rw [← this]; congr 1; omega
theorem own_int {v : Value} (h : VKind.int.ok v = true) : ∃ a : Int32, v = .int a := by cases v <;> simp [VKind.ok] at h <;> exact ⟨_, rfl⟩
theorem own_long {v : Value} (h : VKind.long.ok v = true) : ∃ a : Int64, v = .long a := by cases v <;> simp [VKind.ok] at h <;> exact ⟨_, rfl⟩
theorem own_k1 {k0 : VKind} {A : Array Value} (h : own_Kinds [k0] A) : ∃ v0, A = #[v0] ∧ k0.ok v0 = true := by
  obtain ⟨L⟩ := A
  match L, h with
  | [v0], h => exact ⟨v0, rfl, h.1⟩
theorem own_k2 {k0 k1 : VKind} {A : Array Value} (h : own_Kinds [k0, k1] A) : ∃ v0 v1, A = #[v0, v1] ∧ k0.ok v0 = true ∧ k1.ok v1 = true := by
  obtain ⟨L⟩ := A
  match L, h with
  | [v0, v1], h => exact ⟨v0, v1, rfl, h.1, h.2.1⟩
theorem own_k3 {k0 k1 k2 : VKind} {A : Array Value} (h : own_Kinds [k0, k1, k2] A) : ∃ v0 v1 v2, A = #[v0, v1, v2] ∧ k0.ok v0 = true ∧ k1.ok v1 = true ∧ k2.ok v2 = true := by
  obtain ⟨L⟩ := A
  match L, h with
  | [v0, v1, v2], h => exact ⟨v0, v1, v2, rfl, h.1, h.2.1, h.2.2.1⟩
theorem own_k4 {k0 k1 k2 k3 : VKind} {A : Array Value} (h : own_Kinds [k0, k1, k2, k3] A) : ∃ v0 v1 v2 v3, A = #[v0, v1, v2, v3] ∧ k0.ok v0 = true ∧ k1.ok v1 = true ∧ k2.ok v2 = true ∧ k3.ok v3 = true := by
  obtain ⟨L⟩ := A
  match L, h with
  | [v0, v1, v2, v3], h => exact ⟨v0, v1, v2, v3, rfl, h.1, h.2.1, h.2.2.1, h.2.2.2.1⟩

theorem own_k5 {k0 k1 k2 k3 k4 : VKind} {A : Array Value} (h : own_Kinds [k0, k1, k2, k3, k4] A) : ∃ v0 v1 v2 v3 v4, A = #[v0, v1, v2, v3, v4] ∧ k0.ok v0 = true ∧ k1.ok v1 = true ∧ k2.ok v2 = true ∧ k3.ok v3 = true ∧ k4.ok v4 = true := by
  obtain ⟨L⟩ := A
  match L, h with
  | [v0, v1, v2, v3, v4], h => exact ⟨v0, v1, v2, v3, v4, rfl, h.1, h.2.1, h.2.2.1, h.2.2.2.1, h.2.2.2.2.1⟩
theorem own_k6 {k0 k1 k2 k3 k4 k5 : VKind} {A : Array Value} (h : own_Kinds [k0, k1, k2, k3, k4, k5] A) : ∃ v0 v1 v2 v3 v4 v5, A = #[v0, v1, v2, v3, v4, v5] ∧ k0.ok v0 = true ∧ k1.ok v1 = true ∧ k2.ok v2 = true ∧ k3.ok v3 = true ∧ k4.ok v4 = true ∧ k5.ok v5 = true := by
  obtain ⟨L⟩ := A
  match L, h with
  | [v0, v1, v2, v3, v4, v5], h => exact ⟨v0, v1, v2, v3, v4, v5, rfl, h.1, h.2.1, h.2.2.1, h.2.2.2.1, h.2.2.2.2.1, h.2.2.2.2.2.1⟩

/-! own 2: a term's kind, read off its shape -/
def own_ty2 : Binary → Option VKind → Option VKind → Option VKind
  | .iand, some .int, some .int => some .int
  | .ior, some .int, some .int => some .int
  | .ixor, some .int, some .int => some .int
  | .ishl, some .int, some .int => some .int
  | .ishr, some .int, some .int => some .int
  | .iushr, some .int, some .int => some .int
  | .ladd, some .long, some .long => some .long
  | .lsub, some .long, some .long => some .long
  | .lmul, some .long, some .long => some .long
  | .land, some .long, some .long => some .long
  | .lor, some .long, some .long => some .long
  | .lxor, some .long, some .long => some .long
  | .lcmp, some .long, some .long => some .int
  | .lshl, some .long, some .int => some .long
  | .lshr, some .long, some .int => some .long
  | .lushr, some .long, some .int => some .long
  | _, _, _ => none
def own_ty1 : Unary → Option VKind → Option VKind
  | .ineg, some .int => some .int
  | .i2b, some .int => some .int
  | .i2c, some .int => some .int
  | .i2s, some .int => some .int
  | .i2l, some .int => some .long
  | .l2i, some .long => some .int
  | .lneg, some .long => some .long
  | _, _ => none
def own_ii : Option VKind → Option VKind → Option VKind
  | some .int, some .int => some .int
  | _, _ => none
def own_ty (ks : List VKind) : Term → Option VKind
  | .arg i => ks[i]?
  | .int _ => some .int
  | .long _ => some .long
  | .add a b => own_ii (own_ty ks a) (own_ty ks b)
  | .sub a b => own_ii (own_ty ks a) (own_ty ks b)
  | .mul a b => own_ii (own_ty ks a) (own_ty ks b)
  | .op2 f a b => own_ty2 f (own_ty ks a) (own_ty ks b)
  | .op1 f a => own_ty1 f (own_ty ks a)
  | .old t => own_ty ks t
  | _ => none
theorem own_ty2_sound {f : Binary} {a b : Option VKind} {k : VKind} (h : own_ty2 f a b = some k) : ∃ ka kb, a = some ka ∧ b = some kb ∧ ∀ x y, ka.ok x = true → kb.ok y = true → ∃ z, f.apply x y = some z ∧ k.ok z = true := by
  unfold own_ty2 at h
  split at h <;> first
    | (cases h; refine ⟨_, _, rfl, rfl, fun x y hx hy => ?_⟩; cases x <;> simp [VKind.ok] at hx <;> cases y <;> simp [VKind.ok] at hy <;> exact ⟨_, rfl, rfl⟩)
    | cases h
theorem own_ty1_sound {f : Unary} {a : Option VKind} {k : VKind} (h : own_ty1 f a = some k) : ∃ ka, a = some ka ∧ ∀ x, ka.ok x = true → ∃ z, f.apply x = some z ∧ k.ok z = true := by
  unfold own_ty1 at h
  split at h <;> first
    | (cases h; refine ⟨_, rfl, fun x hx => ?_⟩; cases x <;> simp [VKind.ok] at hx <;> exact ⟨_, rfl, rfl⟩)
    | cases h
theorem own_ii_sound {a b : Option VKind} {k : VKind} (h : own_ii a b = some k) : k = .int ∧ a = some .int ∧ b = some .int := by
  unfold own_ii at h
  split at h
  · cases h; exact ⟨rfl, rfl, rfl⟩
  · cases h
theorem own_ty_sound {ks : List VKind} {A : Array Value} {s : State} (hA : own_Kinds ks A) : ∀ (t : Term) {k : VKind}, own_ty ks t = some k → ∃ v, t.eval A s none [] s = some v ∧ k.ok v = true
  | .arg i, k, h => hA.get h
  | .int v, k, h => by cases h; exact ⟨_, rfl, rfl⟩
  | .long v, k, h => by cases h; exact ⟨_, rfl, rfl⟩
  | .add a b, k, h => by
    obtain ⟨rfl, ha, hb⟩ := own_ii_sound h
    obtain ⟨x, ex, hx⟩ := own_ty_sound (s := s) hA a ha
    obtain ⟨y, ey, hy⟩ := own_ty_sound (s := s) hA b hb
    obtain ⟨x, rfl⟩ := own_int hx
    obtain ⟨y, rfl⟩ := own_int hy
    exact ⟨.int (x + y), by simp [Term.eval, ex, ey], rfl⟩
  | .sub a b, k, h => by
    obtain ⟨rfl, ha, hb⟩ := own_ii_sound h
    obtain ⟨x, ex, hx⟩ := own_ty_sound (s := s) hA a ha
    obtain ⟨y, ey, hy⟩ := own_ty_sound (s := s) hA b hb
    obtain ⟨x, rfl⟩ := own_int hx
    obtain ⟨y, rfl⟩ := own_int hy
    exact ⟨.int (x - y), by simp [Term.eval, ex, ey], rfl⟩
  | .mul a b, k, h => by
    obtain ⟨rfl, ha, hb⟩ := own_ii_sound h
    obtain ⟨x, ex, hx⟩ := own_ty_sound (s := s) hA a ha
    obtain ⟨y, ey, hy⟩ := own_ty_sound (s := s) hA b hb
    obtain ⟨x, rfl⟩ := own_int hx
    obtain ⟨y, rfl⟩ := own_int hy
    exact ⟨.int (x * y), by simp [Term.eval, ex, ey], rfl⟩
  | .op2 f a b, k, h => by
    obtain ⟨ka, kb, ha, hb, hf⟩ := own_ty2_sound (show own_ty2 f (own_ty ks a) (own_ty ks b) = some k from h)
    obtain ⟨x, ex, hx⟩ := own_ty_sound (s := s) hA a ha
    obtain ⟨y, ey, hy⟩ := own_ty_sound (s := s) hA b hb
    obtain ⟨z, ez, hz⟩ := hf x y hx hy
    exact ⟨z, by simp [Term.eval, ex, ey, ez], hz⟩
  | .op1 f a, k, h => by
    obtain ⟨ka, ha, hf⟩ := own_ty1_sound (show own_ty1 f (own_ty ks a) = some k from h)
    obtain ⟨x, ex, hx⟩ := own_ty_sound (s := s) hA a ha
    obtain ⟨z, ez, hz⟩ := hf x hx
    exact ⟨z, by simp [Term.eval, ex, ez], hz⟩
  | .old t, k, h => by
    obtain ⟨x, ex, hx⟩ := own_ty_sound (s := s) hA t (show own_ty ks t = some k from h)
    exact ⟨x, by simpa [Term.eval] using ex, hx⟩
  | .null, _, h => by cases h
  | .index _, _, h => by cases h
  | .field _ _ _ _, _, h => by cases h
  | .static _ _ _, _, h => by cases h
  | .string _ _, _, h => by cases h
  | .mirror _, _, h => by cases h
  | .length _, _, h => by cases h
  | .elem _ _, _, h => by cases h
  | .div _ _, _, h => by cases h
  | .rem _ _, _, h => by cases h
  | .sum _, _, h => by cases h
  | .result, _, h => by cases h
  | .thrown, _, h => by cases h

/-! own 3: the needs of a walk, paid by one check: each stands under guards that are worth something whatever way they go -/
def own_num (ks : List VKind) (a b : Term) : Bool := (own_ty ks a == some .int && own_ty ks b == some .int) || (own_ty ks a == some .long && own_ty ks b == some .long)
def own_dfn (ks : List VKind) (D : List Cond) : Cond → Bool
  | .not c => own_dfn ks D c
  | .eq a b => D.contains (.eq a b) || own_num ks a b
  | .lt a b => D.contains (.lt a b) || own_num ks a b
  | .le a b => D.contains (.le a b) || own_num ks a b
  | .and a b => own_dfn ks D a && own_dfn ks D b
  | .or a b => own_dfn ks D a && own_dfn ks D b
  | .tt => true
  | _ => false
def own_chk (ks : List VKind) (T D : List Cond) : Cond → Bool
  | .tt => true
  | .and a b => T.contains (.and a b) || (own_chk ks T D a && own_chk ks T D b)
  | .or a b => T.contains (.or a b) || (own_dfn ks D a && own_chk ks T D b)
  | .isInt t => T.contains (.isInt t) || own_ty ks t == some .int
  | .isLong t => T.contains (.isLong t) || own_ty ks t == some .long
  | c => T.contains c
theorem own_num_sound {ks : List VKind} {A : Array Value} {s : State} (hA : own_Kinds ks A) {a b : Term} (h : own_num ks a b = true) :
    (∃ x y : Int32, a.eval A s none [] s = some (.int x) ∧ b.eval A s none [] s = some (.int y)) ∨ (∃ x y : Int64, a.eval A s none [] s = some (.long x) ∧ b.eval A s none [] s = some (.long y)) := by
  simp only [own_num, Bool.or_eq_true, Bool.and_eq_true, beq_iff_eq] at h
  rcases h with ⟨ha, hb⟩ | ⟨ha, hb⟩
  · obtain ⟨v, ev, hv⟩ := own_ty_sound (s := s) hA a ha
    obtain ⟨w, ew, hw⟩ := own_ty_sound (s := s) hA b hb
    obtain ⟨x, rfl⟩ := own_int hv
    obtain ⟨y, rfl⟩ := own_int hw
    exact Or.inl ⟨x, y, ev, ew⟩
  · obtain ⟨v, ev, hv⟩ := own_ty_sound (s := s) hA a ha
    obtain ⟨w, ew, hw⟩ := own_ty_sound (s := s) hA b hb
    obtain ⟨x, rfl⟩ := own_long hv
    obtain ⟨y, rfl⟩ := own_long hw
    exact Or.inr ⟨x, y, ev, ew⟩
theorem own_dfn_sound {ks : List VKind} {D : List Cond} {A : Array Value} {s : State} (hA : own_Kinds ks A) (hD : ∀ c ∈ D, ∃ b, c.value A s none s [] = some b) : ∀ (c : Cond), own_dfn ks D c = true → ∃ b, c.value A s none s [] = some b := by
  intro c
  induction c with
  | tt => intro _; exact ⟨true, rfl⟩
  | not c ih => intro h; obtain ⟨b, e⟩ := ih h; exact ⟨!b, by simp [Cond.value, e]⟩
  | and a b iha ihb =>
    intro h
    simp only [own_dfn, Bool.and_eq_true] at h
    obtain ⟨x, ex⟩ := iha h.1
    obtain ⟨y, ey⟩ := ihb h.2
    cases x
    · exact ⟨false, by simp [Cond.value, ex]⟩
    · exact ⟨y, by simp [Cond.value, ex, ey]⟩
  | or a b iha ihb =>
    intro h
    simp only [own_dfn, Bool.and_eq_true] at h
    obtain ⟨x, ex⟩ := iha h.1
    obtain ⟨y, ey⟩ := ihb h.2
    cases x
    · exact ⟨y, by simp [Cond.value, ex, ey]⟩
    · exact ⟨true, by simp [Cond.value, ex]⟩
  | eq a b =>
    intro h
    simp only [own_dfn, Bool.or_eq_true] at h
    rcases h with h | h
    · exact hD _ (List.contains_iff_mem.mp h)
    · rcases own_num_sound (s := s) hA h with ⟨x, y, e1, e2⟩ | ⟨x, y, e1, e2⟩ <;> simp only [Cond.value, e1, e2] <;> exact ⟨_, rfl⟩
  | lt a b =>
    intro h
    simp only [own_dfn, Bool.or_eq_true] at h
    rcases h with h | h
    · exact hD _ (List.contains_iff_mem.mp h)
    · rcases own_num_sound (s := s) hA h with ⟨x, y, e1, e2⟩ | ⟨x, y, e1, e2⟩ <;> simp only [Cond.value, e1, e2] <;> exact ⟨_, rfl⟩
  | le a b =>
    intro h
    simp only [own_dfn, Bool.or_eq_true] at h
    rcases h with h | h
    · exact hD _ (List.contains_iff_mem.mp h)
    · rcases own_num_sound (s := s) hA h with ⟨x, y, e1, e2⟩ | ⟨x, y, e1, e2⟩ <;> simp only [Cond.value, e1, e2] <;> exact ⟨_, rfl⟩
  | _ => intro h; simp [own_dfn] at h
theorem own_chk_sound {ks : List VKind} {T D : List Cond} {A : Array Value} {s : State} (hA : own_Kinds ks A) (hT : ∀ c ∈ T, c.value A s none s [] = some true) (hD : ∀ c ∈ D, ∃ b, c.value A s none s [] = some b) :
    ∀ (c : Cond), own_chk ks T D c = true → c.value A s none s [] = some true := by
  intro c
  induction c with
  | tt => intro _; rfl
  | and a b iha ihb =>
    intro h
    simp only [own_chk, Bool.or_eq_true, Bool.and_eq_true] at h
    rcases h with h | h
    · exact hT _ (List.contains_iff_mem.mp h)
    · simp [Cond.value, iha h.1, ihb h.2]
  | or a b iha ihb =>
    intro h
    simp only [own_chk, Bool.or_eq_true, Bool.and_eq_true] at h
    rcases h with h | h
    · exact hT _ (List.contains_iff_mem.mp h)
    · obtain ⟨x, ex⟩ := own_dfn_sound (s := s) hA hD a h.1
      cases x
      · simp [Cond.value, ex, ihb h.2]
      · simp [Cond.value, ex]
  | isInt t =>
    intro h
    simp only [own_chk, Bool.or_eq_true, beq_iff_eq] at h
    rcases h with h | h
    · exact hT _ (List.contains_iff_mem.mp h)
    · obtain ⟨v, ev, hv⟩ := own_ty_sound (s := s) hA t h
      obtain ⟨x, rfl⟩ := own_int hv
      simp [Cond.value, ev]
  | isLong t =>
    intro h
    simp only [own_chk, Bool.or_eq_true, beq_iff_eq] at h
    rcases h with h | h
    · exact hT _ (List.contains_iff_mem.mp h)
    · obtain ⟨v, ev, hv⟩ := own_ty_sound (s := s) hA t h
      obtain ⟨x, rfl⟩ := own_long hv
      simp [Cond.value, ev]
  | _ =>
    intro h
    simp only [own_chk] at h
    exact hT _ (List.contains_iff_mem.mp h)

/-! own 4: what a guard is worth, as a proposition on plain integers; a tree followed by it -/
def own_Is (A : Array Value) (s : State) (G : Cond) (P : Prop) : Prop := (P → G.value A s none s [] = some true) ∧ (¬ P → G.value A s none s [] = some false)
section
variable {A : Array Value} {s : State} {G : Cond} {P : Prop} {ta tb : Term} {a b : STree} {w : Value} {X Y : Int}
theorem own_Is.dfn (h : own_Is A s G P) : ∃ b, G.value A s none s [] = some b := by
  by_cases p : P
  · exact ⟨_, h.1 p⟩
  · exact ⟨_, h.2 p⟩
theorem own_fork (h : own_Is A s G P) (ha : P → Kit.valueOf A s a = some w) (hb : ¬ P → Kit.valueOf A s b = some w) : Kit.valueOf A s (.fork G a b) = some w := by
  by_cases p : P
  · simp only [Kit.valueOf, h.1 p]; exact ha p
  · simp only [Kit.valueOf, h.2 p]; exact hb p
theorem own_not (h : own_Is A s G P) : own_Is A s (.not G) (¬ P) :=
  ⟨fun p => by simp [Cond.value, h.2 p], fun p => by simp [Cond.value, h.1 (Classical.not_not.mp p)]⟩
theorem own_of_decide {Q : Prop} [Decidable Q] (h : G.value A s none s [] = some (decide Q)) (hq : Q ↔ P) : own_Is A s G P :=
  ⟨fun p => by rw [h, decide_eq_true (hq.mpr p)], fun p => by rw [h, decide_eq_false (fun q => p (hq.mp q))]⟩
theorem own_lt_i {x y : Int32} (ha : ta.eval A s none [] s = some (.int x)) (hb : tb.eval A s none [] s = some (.int y)) (hX : x.toInt = X) (hY : y.toInt = Y) : own_Is A s (.lt ta tb) (X < Y) :=
  own_of_decide (Q := x < y) (by simp only [Cond.value, ha, hb]) (by rw [Int32.lt_iff_toInt_lt, hX, hY])
theorem own_le_i {x y : Int32} (ha : ta.eval A s none [] s = some (.int x)) (hb : tb.eval A s none [] s = some (.int y)) (hX : x.toInt = X) (hY : y.toInt = Y) : own_Is A s (.le ta tb) (X ≤ Y) :=
  own_of_decide (Q := x ≤ y) (by simp only [Cond.value, ha, hb]) (by rw [Int32.le_iff_toInt_le, hX, hY])
theorem own_eq_i {x y : Int32} (ha : ta.eval A s none [] s = some (.int x)) (hb : tb.eval A s none [] s = some (.int y)) (hX : x.toInt = X) (hY : y.toInt = Y) : own_Is A s (.eq ta tb) (X = Y) :=
  own_of_decide (Q := x = y) (by simp only [Cond.value, ha, hb]) (by rw [← Int32.toInt_inj, hX, hY])
theorem own_lcmp_eval {x y : Int64} (ha : ta.eval A s none [] s = some (.long x)) (hb : tb.eval A s none [] s = some (.long y)) : (Term.old (.op2 .lcmp ta tb)).eval A s none [] s = some (.int (if x > y then 1 else if x == y then 0 else -1)) := by
  simp only [Term.eval, ha, hb]; rfl
theorem own_lcmp_cases (x y : Int64) : (y.toInt < x.toInt ∧ (if x > y then (1 : Int32) else if x == y then 0 else -1) = 1) ∨ (x.toInt = y.toInt ∧ (if x > y then (1 : Int32) else if x == y then 0 else -1) = 0) ∨ (x.toInt < y.toInt ∧ (if x > y then (1 : Int32) else if x == y then 0 else -1) = -1) := by
  by_cases h : y < x
  · exact Or.inl ⟨Int64.lt_iff_toInt_lt.mp h, by simp [h]⟩
  · by_cases h2 : x = y
    · exact Or.inr (Or.inl ⟨by rw [h2], by subst h2; simp [Int64.lt_irrefl]⟩)
    · refine Or.inr (Or.inr ⟨?_, by simp [h, h2]⟩)
      rw [Int64.lt_iff_toInt_lt] at h
      rw [← Int64.toInt_inj] at h2
      omega
theorem own_lcmp_lt {x y : Int64} (ha : ta.eval A s none [] s = some (.long x)) (hb : tb.eval A s none [] s = some (.long y)) (hX : x.toInt = X) (hY : y.toInt = Y) : own_Is A s (.lt (.old (.op2 .lcmp ta tb)) (.int 0)) (X < Y) :=
  own_of_decide (Cond.lt_ints (own_lcmp_eval ha hb) rfl) (by subst hX hY; rcases own_lcmp_cases x y with ⟨h, e⟩ | ⟨h, e⟩ | ⟨h, e⟩ <;> rw [e] <;> simp <;> omega)
theorem own_lcmp_gt {x y : Int64} (ha : ta.eval A s none [] s = some (.long x)) (hb : tb.eval A s none [] s = some (.long y)) (hX : x.toInt = X) (hY : y.toInt = Y) : own_Is A s (.lt (.int 0) (.old (.op2 .lcmp ta tb))) (Y < X) :=
  own_of_decide (Cond.lt_ints rfl (own_lcmp_eval ha hb)) (by subst hX hY; rcases own_lcmp_cases x y with ⟨h, e⟩ | ⟨h, e⟩ | ⟨h, e⟩ <;> rw [e] <;> simp <;> omega)
theorem own_lcmp_le {x y : Int64} (ha : ta.eval A s none [] s = some (.long x)) (hb : tb.eval A s none [] s = some (.long y)) (hX : x.toInt = X) (hY : y.toInt = Y) : own_Is A s (.le (.old (.op2 .lcmp ta tb)) (.int 0)) (X ≤ Y) :=
  own_of_decide (Cond.le_ints (own_lcmp_eval ha hb) rfl) (by subst hX hY; rcases own_lcmp_cases x y with ⟨h, e⟩ | ⟨h, e⟩ | ⟨h, e⟩ <;> rw [e] <;> simp <;> omega)
theorem own_lcmp_ge {x y : Int64} (ha : ta.eval A s none [] s = some (.long x)) (hb : tb.eval A s none [] s = some (.long y)) (hX : x.toInt = X) (hY : y.toInt = Y) : own_Is A s (.le (.int 0) (.old (.op2 .lcmp ta tb))) (Y ≤ X) :=
  own_of_decide (Cond.le_ints rfl (own_lcmp_eval ha hb)) (by subst hX hY; rcases own_lcmp_cases x y with ⟨h, e⟩ | ⟨h, e⟩ | ⟨h, e⟩ <;> rw [e] <;> simp <;> omega)
theorem own_lcmp_eq {x y : Int64} (ha : ta.eval A s none [] s = some (.long x)) (hb : tb.eval A s none [] s = some (.long y)) (hX : x.toInt = X) (hY : y.toInt = Y) : own_Is A s (.eq (.old (.op2 .lcmp ta tb)) (.int 0)) (X = Y) :=
  own_of_decide (Cond.eq_ints (own_lcmp_eval ha hb) rfl) (by subst hX hY; rcases own_lcmp_cases x y with ⟨h, e⟩ | ⟨h, e⟩ | ⟨h, e⟩ <;> rw [e] <;> simp <;> omega)
end

theorem own_walk_eq {α β γ : Type} {w : Option (α × β × γ)} (h : w.isSome = true) {t : α} (e : (w.get h).1 = t) : w = some (t, (w.get h).2.1, (w.get h).2.2) := by
  subst e; exact (Option.some_get h).symm
/-! own 5: a callee's contract with a promise of one's own; the law's -/
def own_says (T : Term) : Cond := .and .returned (.eq .result (.old T))
theorem own_says_after {T : Term} {A : Array Value} {s E : State} {w : Value} (hc : T.closed = true) (hw : T.eval A s none [] s = some w) (hk : VKind.int.ok w = true ∨ VKind.long.ok w = true) : (own_says T).after A s (.returned (some w)) E = true := by
  have h1 : (Term.old T).eval A s (some (.returned (some w))) [] E = some w := by
    show T.eval A s (some (.returned (some w))) [] s = some w
    rw [Term.eval_closed (some (.returned (some w))) [] T s hc]; exact hw
  have h2 : Term.result.eval A s (some (.returned (some w))) [] E = some w := rfl
  rcases hk with hk | hk
  · obtain ⟨x, rfl⟩ := own_int hk
    simp [own_says, Cond.after, Cond.holds, Cond.value, h1, h2]
  · obtain ⟨x, rfl⟩ := own_long hk
    simp [own_says, Cond.after, Cond.holds, Cond.value, h1, h2]
theorem own_callee {l : Launch} {y : MethodName} {code : ByteArray} {maxL : Nat} {ret : Option FieldType} {ks : List VKind} {I : Info} {n : Nat} {t : STree} {tabs needs extra : List Cond} {post : Cond}
    (hx : plainName y.cls = true) (hown : I.own = y.cls) (hr : I.ret = ret)
    (hw : walkTo I code [] n true (entry ks maxL) = some (t, tabs, needs)) (hcalls : CallsOk l I maxL I.room)
    (hn : (needs.all (own_chk ks (.code y code maxL ret :: (tabs ++ extra)) [])) = true) (hp : Kit.pureVal t = true)
    (hv : ∀ A s, own_Kinds ks A → ∃ w, Kit.valueOf A s t = some w ∧ ∀ E, post.after A s (.returned (some w)) E = true) :
    MeetsLoose l y (specOf y code maxL ret ks post (tabs ++ extra) [] I.room) := by
  refine loops_meets (I := I) (ks0 := ks) (cuts := []) hx hown hr rfl rfl rfl (fun args s h => ?_) hw (fun _ => none) (fun _ _ _ _ _ => False) (fun _ _ _ => 0) (fun args s h => ?_) (fun args s _ h ks hks => by cases hks) hcalls
  · exact conj_before h _ List.mem_cons_self
  · have hall := conj_before h
    have hsz : args.size = ks.length := by
      have := hall (.count ks.length) (by simp)
      simpa [Cond.before, Cond.holds, Cond.value] using this
    have hq : ∀ q ∈ Sym.sorts 0 ks, q.before args s = true := fun q hq => hall q (by simp [hq])
    have hK := own_Kinds_of hsz hq
    have hT : ∀ c ∈ (Cond.code y code maxL ret :: (tabs ++ extra)), c.value args s none s [] = some true := fun c hc => by
      have : c.before args s = true := hall c (by
        rcases List.mem_cons.mp hc with rfl | hc
        · exact List.mem_cons_self
        · rcases List.mem_append.mp hc with hc | hc <;> simp [hc])
      simpa [Cond.before, Cond.holds] using this
    obtain ⟨w, hw1, hw2⟩ := hv args s hK
    refine ⟨hsz, hq, fun q h => hall q (by simp [h]), fun q hq => ?_, Kit.vc_of_value (w₀ := w) (fun E => hw2 E) t hp hw1⟩
    have := own_chk_sound (s := s) hK hT (fun c hc => by cases hc) q (List.all_eq_true.mp hn q hq)
    simpa [Cond.before, Cond.holds] using this
theorem own_law {l : Launch} {ks : List VKind} {I : Info} {n : Nat} {t : STree} {tabs needs : List Cond} (hx : plainName x.cls = true) (hown : I.own = x.cls) (hr : I.ret = ret)
    (hw : walkTo I code [] n true (entry ks maxLocals) = some (t, tabs, needs)) (hcalls : CallsOk l I maxLocals room_1)
    (hg : flatC (Cond.and given_1 narrow_1) = .count ks.length :: (Sym.sorts 0 ks ++ [.tt]))
    (ht : (tabs.all fun q => (Cond.code x code maxLocals ret :: tables_1).contains q) = true)
    {Tx D : List Cond} (hTx : ∀ A s, own_Kinds ks A → (∀ c ∈ Tx, c.value A s none s [] = some true) ∧ ∀ c ∈ D, ∃ b, c.value A s none s [] = some b)
    (hn : (needs.all (own_chk ks (Tx ++ (Cond.code x code maxLocals ret :: tables_1)) D)) = true) (hp : Kit.pureVal t = true)
    (hv : ∀ A s, own_Kinds ks A → Kit.valueOf A s t = some (.int 1)) :
    MeetsLoose l x (armSpec x code maxLocals ret tables_1 room_1 .tt (.and given_1 narrow_1) (.and limb_1_1 limb_1_2) frame_1_writes frame_1_arrays frame_1_statics) := by
  refine loops_meets (I := I) (ks0 := ks) (cuts := []) hx hown hr rfl rfl rfl (fun args s h => ?_) hw (fun _ => none) (fun _ _ _ _ _ => False) (fun _ _ _ => 0) (fun args s h => ?_) (fun args s _ h ks hks => by cases hks) hcalls
  · simp only [armSpec, allAtoms, List.foldr_cons, Cond.before_and, Bool.and_eq_true] at h; exact h.1.1
  · have hts : (allAtoms (Cond.code x code maxLocals ret :: tables_1)).before args s = true := by simp only [armSpec, Cond.before_and, Bool.and_eq_true] at h; exact h.1
    have hK0 : (Cond.and given_1 narrow_1).before args s = true := by simp only [armSpec, Cond.before_and, Bool.and_eq_true] at h ⊢; exact h.2.2
    have hall := flat_of_before _ hK0
    rw [hg] at hall
    have hsz : args.size = ks.length := by
      have := hall (.count ks.length) (by simp)
      simpa [Cond.before, Cond.holds, Cond.value] using this
    have hq : ∀ q ∈ Sym.sorts 0 ks, q.before args s = true := fun q hq => hall q (by simp [hq])
    have hK := own_Kinds_of hsz hq
    have hT : ∀ c ∈ (Tx ++ (Cond.code x code maxLocals ret :: tables_1)), c.value args s none s [] = some true := fun c hc => by
      rcases List.mem_append.mp hc with hc | hc
      · exact (hTx args s hK).1 c hc
      · exact value_of_before (atoms_spec hts c hc)
    refine ⟨hsz, hq, tabs_of_sub hts ht, fun q hq => before_of_value (own_chk_sound (s := s) hK hT (hTx args s hK).2 q (List.all_eq_true.mp hn q hq)), Kit.vc_of_value (w₀ := .int 1) (fun E => ?_) t hp (hv args s hK)⟩
    simp [armSpec, limb_1_1, limb_1_2, Cond.after, Cond.holds, Cond.value, Term.eval]
theorem own_main {l0 : True} {limb : Cond} (hM : ∀ l, MeetsLoose l x (armSpec x code maxLocals ret tables_1 room_1 .tt (.and given_1 narrow_1) (.and limb_1_1 limb_1_2) frame_1_writes frame_1_arrays frame_1_statics)) (h0 : ∀ args s o t, (Cond.and limb_1_1 limb_1_2).after args s o t = true → limb.after args s o t = true) :
    ArmFor flags0 classFile x code maxLocals ret World_1 tables_1 room_1 Calls_1 rest_1 Pre_1 (fun tb e a s o t => postC limb tb e a s o t ∧ Framed s o t (fieldLocs frame_1_writes a s ++ arrayLocs frame_1_arrays a s ++ staticLocs frame_1_statics s) 0 0) :=
  armFor_of_meets0 (fun l => (hM l).meets) h0
/-! own 6: a boolean as a term of ints -/
def own_TB (A : Array Value) (s : State) (T : Term) (P : Prop) : Prop := (P → T.eval A s none [] s = some (.int 1)) ∧ (¬ P → T.eval A s none [] s = some (.int 0))
def own_tltL (a b : Term) : Term := .op2 .iushr (.op2 .lcmp a b) (.int 31)
def own_tlt (a b : Term) : Term := own_tltL (.op1 .i2l a) (.op1 .i2l b)
def own_tnot (a : Term) : Term := .sub (.int 1) a
def own_tand (a b : Term) : Term := .op2 .iand a b
def own_tor (a b : Term) : Term := .op2 .ior a b
section
variable {A : Array Value} {s : State} {P Q : Prop} {ta tb T U : Term} {X Y : Int}
theorem own_tb_ltL {x y : Int64} (ha : ta.eval A s none [] s = some (.long x)) (hb : tb.eval A s none [] s = some (.long y)) (hX : x.toInt = X) (hY : y.toInt = Y) : own_TB A s (own_tltL ta tb) (X < Y) := by
  have h : (own_tltL ta tb).eval A s none [] s = some (.int (((if x > y then (1 : Int32) else if x == y then 0 else -1).toUInt32 >>> ((31 : Int32) &&& 31).toUInt32).toInt32)) := by
    simp only [own_tltL, Term.eval, ha, hb]; rfl
  subst hX hY
  rcases own_lcmp_cases x y with ⟨h1, e⟩ | ⟨h1, e⟩ | ⟨h1, e⟩ <;> rw [e] at h <;> refine ⟨fun p => ?_, fun p => ?_⟩ <;> first | omega | exact h
theorem own_tb_lt {x y : Int32} (ha : ta.eval A s none [] s = some (.int x)) (hb : tb.eval A s none [] s = some (.int y)) (hX : x.toInt = X) (hY : y.toInt = Y) : own_TB A s (own_tlt ta tb) (X < Y) :=
  own_tb_ltL (x := x.toInt64) (y := y.toInt64) (by simp only [Term.eval, ha]; rfl) (by simp only [Term.eval, hb]; rfl) ((Int32.toInt_toInt64 x).trans hX) ((Int32.toInt_toInt64 y).trans hY)
theorem own_tb_not (h : own_TB A s T P) : own_TB A s (own_tnot T) (¬ P) :=
  ⟨fun p => by simp only [own_tnot, Term.eval, h.2 p]; rfl, fun p => by simp only [own_tnot, Term.eval, h.1 (Classical.not_not.mp p)]; rfl⟩
theorem own_tb_and (h : own_TB A s T P) (k : own_TB A s U Q) : own_TB A s (own_tand T U) (P ∧ Q) := by
  by_cases p : P <;> by_cases q : Q
  · exact ⟨fun _ => by simp only [own_tand, Term.eval, h.1 p, k.1 q]; rfl, fun z => absurd ⟨p, q⟩ z⟩
  · exact ⟨fun z => absurd z.2 q, fun _ => by simp only [own_tand, Term.eval, h.1 p, k.2 q]; rfl⟩
  · exact ⟨fun z => absurd z.1 p, fun _ => by simp only [own_tand, Term.eval, h.2 p, k.1 q]; rfl⟩
  · exact ⟨fun z => absurd z.1 p, fun _ => by simp only [own_tand, Term.eval, h.2 p, k.2 q]; rfl⟩
theorem own_tb_or (h : own_TB A s T P) (k : own_TB A s U Q) : own_TB A s (own_tor T U) (P ∨ Q) := by
  by_cases p : P <;> by_cases q : Q
  · exact ⟨fun _ => by simp only [own_tor, Term.eval, h.1 p, k.1 q]; rfl, fun z => absurd (Or.inl p) z⟩
  · exact ⟨fun _ => by simp only [own_tor, Term.eval, h.1 p, k.2 q]; rfl, fun z => absurd (Or.inl p) z⟩
  · exact ⟨fun _ => by simp only [own_tor, Term.eval, h.2 p, k.1 q]; rfl, fun z => absurd (Or.inr q) z⟩
  · exact ⟨fun z => (z.elim (absurd · p) (absurd · q)), fun _ => by simp only [own_tor, Term.eval, h.2 p, k.2 q]; rfl⟩
theorem own_tb_iff (h : own_TB A s T P) (e : P ↔ Q) : own_TB A s T Q := ⟨fun q => h.1 (e.mpr q), fun q => h.2 (fun p => q (e.mp p))⟩
theorem own_tb_some (h : own_TB A s T P) : ∃ x : Int32, T.eval A s none [] s = some (.int x) := by
  by_cases p : P
  · exact ⟨1, h.1 p⟩
  · exact ⟨0, h.2 p⟩
theorem own_eq_tb1 (h : own_TB A s T P) (hb : tb.eval A s none [] s = some (.int 1)) : own_Is A s (.eq (.old T) tb) P :=
  ⟨fun p => by rw [Cond.eq_ints (show (Term.old T).eval A s none [] s = _ from h.1 p) hb]; rfl, fun p => by rw [Cond.eq_ints (show (Term.old T).eval A s none [] s = _ from h.2 p) hb]; rfl⟩
theorem own_eq_tb0 (h : own_TB A s T P) (hb : tb.eval A s none [] s = some (.int 0)) : own_Is A s (.eq (.old T) tb) (¬ P) :=
  ⟨fun p => by rw [Cond.eq_ints (show (Term.old T).eval A s none [] s = _ from h.2 p) hb]; rfl, fun p => by rw [Cond.eq_ints (show (Term.old T).eval A s none [] s = _ from h.1 (Classical.not_not.mp p)) hb]; rfl⟩
theorem own_eq_self (h : own_TB A s T P) : own_Is A s (.eq (.old T) (.old T)) True := by
  obtain ⟨x, e⟩ := own_tb_some h
  exact ⟨fun _ => by rw [Cond.eq_ints (show (Term.old T).eval A s none [] s = _ from e) (show (Term.old T).eval A s none [] s = _ from e)]; simp, fun p => absurd trivial p⟩
/-- a callee that answers P by 1 or 0, its promise the term T -/
theorem own_bool {t : STree} (h : own_TB A s T P) (hc : T.closed = true) (h1 : P → Kit.valueOf A s t = some (.int 1)) (h0 : ¬ P → Kit.valueOf A s t = some (.int 0)) : ∃ w, Kit.valueOf A s t = some w ∧ ∀ E, (own_says T).after A s (.returned (some w)) E = true := by
  by_cases p : P
  · exact ⟨_, h1 p, fun E => own_says_after hc (h.1 p) (Or.inl rfl)⟩
  · exact ⟨_, h0 p, fun E => own_says_after hc (h.2 p) (Or.inl rfl)⟩
end
end Jvm.Pilot.@@N@@
namespace Jvm.Pilot.@@N@@
open Jvm Jvm.ClassFile Sem Op Jvm.Sym Jvm.Pilot.@@N@@.Jvm.D
theorem own_forkE {A : Array Value} {s : State} {G : Cond} {P : Prop} {a b : STree} (h : own_Is A s G P) (ha : P → ∃ w : Int32, Kit.valueOf A s a = some (.int w)) (hb : ¬ P → ∃ w : Int32, Kit.valueOf A s b = some (.int w)) : ∃ w : Int32, Kit.valueOf A s (.fork G a b) = some (.int w) := by
  by_cases p : P
  · obtain ⟨w, e⟩ := ha p; exact ⟨w, own_fork h (fun _ => e) (fun q => absurd p q)⟩
  · obtain ⟨w, e⟩ := hb p; exact ⟨w, own_fork h (fun q => absurd q p) (fun _ => e)⟩
/-! body 1 -/
def y1 : MethodName := ⟨"com/example/librobots/librobots/PathPatternLastRunStartPinLaw", "drawn", "(IJI)B"⟩
def I1 : Info := { own := y1.cls, ret := some .byte, maxLocals := 4 }
def w1 := walkTo I1 method_2_code [] 400 true (entry [.int, .long, .int] 4)
set_option maxRecDepth 65536 in
theorem w1_some : w1.isSome = true := by decide +kernel
def own1_g0 : Cond := (.eq (.old (.op2 .iand (.op2 .iushr (.arg 0) (.arg 2)) (.int 1))) (.int 0))
def own1_t : STree := (.fork own1_g0 (.ret (some ⟨(.op1 .i2b (.op1 .i2b (.op1 .l2i (.op2 .lushr (.arg 1) (.mul (.int 8) (.arg 2)))))), .int⟩) []) (.ret (some ⟨(.op1 .i2b (.int 42)), .int⟩) []))
set_option maxRecDepth 65536 in
theorem w1_tree : (w1.get w1_some).1 = own1_t := by decide +kernel
theorem w1_walk : walkTo I1 method_2_code [] 400 true (entry [.int, .long, .int] 4) = some (own1_t, (w1.get w1_some).2.1, (w1.get w1_some).2.2) := own_walk_eq w1_some w1_tree
def own_E1 : List Cond := []
def own_T1 : List Cond := (w1.get w1_some).2.1 ++ own_E1
def S1 : Spec := specOf y1 method_2_code 4 (some .byte) [.int, .long, .int] (.and .returned (.isInt .result)) own_T1 [] I1.room
def c1 : Callee := { y := y1, S := S1, bytes := method_2_code, maxL := 4, ret := some .byte, static := true, params := 3, res := some .int }
theorem I1_calls (l : Launch) : CallsOk l I1 4 I1.room := fun q hq => by
  cases hq
set_option maxRecDepth 65536 in
theorem value1 (a : Int32) (b : Int64) (c : Int32) (s : State) : ∃ w, Kit.valueOf #[.int a, .long b, .int c] s own1_t = some w ∧ ∀ E, (Cond.and .returned (.isInt .result)).after #[.int a, .long b, .int c] s (.returned (some w)) E = true := by
  have key : ∃ w : Int32, Kit.valueOf #[.int a, .long b, .int c] s own1_t = some (.int w) := by
    have g0 : own_Is #[.int a, .long b, .int c] s own1_g0 ((((a.toUInt32 >>> (c &&& 31).toUInt32).toInt32) &&& (1 : Int32)).toInt = (0 : Int)) := own_eq_i rfl rfl rfl (by decide)
    refine own_forkE g0 (fun _ => ?_) (fun _ => ?_)
    · exact ⟨_, rfl⟩
    · exact ⟨_, rfl⟩
  obtain ⟨w, hw⟩ := key
  exact ⟨_, hw, fun E => by simp [Cond.after, Cond.holds, Cond.value, Term.eval]⟩
set_option maxRecDepth 65536 in
set_option maxHeartbeats 4000000 in
theorem S1_meets (l : Launch) : MeetsLoose l y1 S1 :=
  own_callee (extra := own_E1) (by decide) rfl rfl w1_walk (I1_calls l) (by decide +kernel) (by decide +kernel) (fun A s hA => by
    obtain ⟨v0, v1, v2, rfl, q0, q1, q2⟩ := own_k3 hA
    obtain ⟨a, rfl⟩ := own_int q0
    obtain ⟨b, rfl⟩ := own_long q1
    obtain ⟨c, rfl⟩ := own_int q2
    exact value1 a b c s)
set_option maxRecDepth 65536 in
theorem S1_cold : S1.Cold := Spec.cold_of_keeps (by decide +kernel)
end Jvm.Pilot.@@N@@
namespace Jvm.Pilot.@@N@@
open Jvm Jvm.ClassFile Sem Op Lib Jvm.Free Jvm.Stand Jvm.LawKit Jvm.RoadKit Bundle Jvm.Pilot.@@N@@.Jvm.D
/-! own 8: the goal at a frame, one step -/
abbrev own_G (tb : Tables) (e : Env) (below : List Frame) (F : State → Outcome → Prop) (U : State) : Prop := ∃ s₂ o, Steps tb e below U s₂ ∧ F s₂ o
theorem own_via {tb : Tables} {e : Env} {below : List Frame} {F : State → Outcome → Prop} {U U' : State} (h : ∀ t, Steps tb e below U' t → Steps tb e below U t) (k : own_G tb e below F U') : own_G tb e below F U := by
  obtain ⟨s₂, o, h1, h2⟩ := k
  exact ⟨s₂, o, h s₂ h1, h2⟩
/-! own 9: a contract of the walk by evaluation, spent in a walk by hand -/
theorem own_conj {args : Array Value} {s : State} : ∀ (L : List Jvm.Cond), (∀ c ∈ L, c.before args s = true) → (Jvm.Sym.conj L).before args s = true
  | [], _ => rfl
  | c :: L, h => by
    show (Jvm.Cond.and c (Jvm.Sym.conj L)).before args s = true
    rw [Cond.before_and, h c List.mem_cons_self, own_conj L fun d hd => h d (List.mem_cons_of_mem _ hd)]; rfl
theorem own_tabs (T : List Jvm.Cond) {a0 : Array Value} {Z : State} (hw : ∀ d ∈ tables_1, d.before a0 Z = true) (h : (T.all fun d => tables_1.contains d) = true) : ∀ d ∈ T, d.before a0 Z = true :=
  fun d hd => hw d (List.contains_iff_mem.mp (List.all_eq_true.mp h d hd))
theorem own_free {l : Launch} {y : MethodName} {bytes : ByteArray} {maxL : Nat} {ret : Option FieldType} {ks : List Jvm.Sym.VKind} {post : Jvm.Cond} {TT : List Jvm.Cond} {room : Room} (hM : MeetsLoose l y (Jvm.Sym.specOf y bytes maxL ret ks post TT [] room))
    {Z : State} {a0 : Array Value} (hT : ∀ d ∈ TT, d.before a0 Z = true) (hTo : (TT.all fun d => d.onTables && d.keepsFace) = true) (hrc : room.cells = 0) (hrs : room.slots = 0) {as' : Array Value} (hK : own_Kinds ks as') {h : Heap} {Qv : Option Value → Prop}
    (hQ : ∀ U o U', post.after as' U o U' = true → ∃ v, o = .returned v ∧ Qv v) :
    MetFree l y (head1 [Jvm.Cond.code y bytes maxL ret] room) (fun a U => a = as' ∧ Z.Warmed39 U.vm ∧ U.heap = h) (fun _ _ _ _ _ => True) (fun _ U o U' => ∃ v L, o = .returned v ∧ (Qv v ∧ L = [] ∧ U'.heap = h) ∧ FrameEnd U o U' L room.cells room.slots) := by
  intro p e ha hc hk s m args below hf happ hP _
  obtain ⟨rfl, hZ, hh⟩ := hP
  obtain ⟨a1, a2, a3, a4, a5, a6, a7, a8⟩ := (Spec.appliesLoose_iff hf).mp happ
  have hcode : (Jvm.Cond.code y bytes maxL ret).before args s = true := by
    have : (Jvm.Cond.and (Jvm.Cond.code y bytes maxL ret) .tt).before args s = true := a8
    rw [Cond.before_and, Bool.and_eq_true] at this; exact this.1
  have hpre : (Jvm.Sym.specOf y bytes maxL ret ks post TT [] room).pre.before args s = true := by
    refine own_conj _ fun c hc => ?_
    rcases List.mem_cons.mp hc with rfl | hc
    · exact hcode
    · rcases List.mem_cons.mp hc with rfl | hc
      · have := hK.size
        simp [Cond.before, Cond.holds, Cond.value, this]
      · simp only [List.append_nil, List.mem_append] at hc
        rcases hc with hc | hc
        · exact own_Kinds.sorts 0 (fun j => by simp) hK c hc
        · exact mv hZ (hT c hc) (List.all_eq_true.mp hTo c hc)
  obtain ⟨n, o, h1, h2, h3, h4⟩ := hM p e ha hc hk s m args below hf ((Spec.appliesLoose_iff hf).mpr ⟨a1, a2, a3, a4, a5, a6, a7, hpre⟩)
  obtain ⟨hpo, hfr⟩ := h4
  obtain ⟨v, hv, hq⟩ := hQ _ _ _ hpo
  have hfr' : s.WarmedH (stepsAlone p.tables e n s).vm ∧ s.sameBut ({ stepsAlone p.tables e n s with vm := s.vm } : State) [] := by
    simpa [Spec.frees, fieldLocs, arrayLocs, staticLocs, Jvm.Sym.specOf] using hfr
  have hFE : FrameEnd s o (stepsAlone p.tables e n s) [] 0 0 := ⟨⟨v, hv⟩, hfr'.1, hfr'.2.sameButNew 0 0⟩
  refine ⟨n, o, h1, h2, h3, v, [], hv, ⟨hq, rfl, (heap_of_end hFE).trans hh⟩, ?_⟩
  rw [hrc, hrs]; exact hFE
section
variable {p : Program} {l : Launch} {e : Env} {R : Room} {s : State} {m : MethodId} {args : Array Value} {below : List Frame} {meth : Method} {c : Code} {T : State} {locs : List Loc} {cells slots : Nat} {Z : State} {a0 : Array Value} {h : Heap}
theorem own_pure {W : Nat} (X : Stand p l e R s m args below meth c T locs cells slots) (hx : p.tables.exec = Jvm.exec) (hZ : Z.Warmed39 s.vm) {own : String} {index : Nat} {y : MethodName} {bytes : ByteArray} {maxL : Nat} {ret : Option FieldType} {ks : List Jvm.Sym.VKind} {post : Jvm.Cond} {TT : List Jvm.Cond} {room : Room}
    (hown : s.vm.findClass own = some m.cls) (w1 : (Jvm.Cond.methodLink own index y).before a0 Z = true) (w2 : (Jvm.Cond.static y).before a0 Z = true) (w3 : (Jvm.Cond.initialized y.cls).before a0 Z = true) (w4 : (Jvm.Cond.code y bytes maxL ret).before a0 Z = true) (hy : y.cls ≠ "java/lang/invoke/MethodHandle" ∧ y.cls ≠ "java/lang/invoke/VarHandle")
    (hM : MeetsLoose l y (Jvm.Sym.specOf y bytes maxL ret ks post TT [] room)) (hT : ∀ d ∈ TT, d.before a0 Z = true) (hTo : (TT.all fun d => d.onTables && d.keepsFace) = true) (hrc : room.cells = 0) (hrs : room.slots = 0) (eT : T.heap = h)
    {g : JFrame} (hg : g.method = m) (hsize : g.locals.size = c.maxLocals) {argsL rest : List Value} (hlen : ∀ sig, parseMethodDescriptor y.desc = some sig → argsL.length = sig.parameters.length)
    (hstack : g.stack = argsL.reverse ++ rest) (hW : 2 * g.monitorRoom + (rest.map fun v => v.category).sum ≤ W) (hd : decode c.code g.pc = .ok (.invokestatic index, 3)) (hK : own_Kinds ks argsL.toArray) {Qv : Option Value → Prop}
    (hQ : ∀ U o U', post.after argsL.toArray U o U' = true → ∃ v, o = .returned v ∧ Qv v) (hf : room.frames + 1 ≤ R.frames) (hl : W + (maxL + 11) + room.locals ≤ R.locals) (hc : cells ≤ R.cells) (hs : slots ≤ R.slots) :
    ∃ (v : Option Value) (T' : State), Stand p l e R s m args below meth c T' locs cells slots ∧ T'.heap = h ∧ Qv v ∧
      ∀ target, Steps p.tables e below (T'.setTop { g with pc := g.pc + 3, stack := v.toList ++ rest }) target → Steps p.tables e below (T.setTop g) target := by
  obtain ⟨v, _, ⟨T4, L4, k4, n4⟩, -, X4, ⟨Lc4, hQ4, l4, y4, z4⟩, st4⟩ := Jvm.LawKit.callS X hx (y := y) hown (mvT hZ w1) (mvT hZ w2) (mvT hZ w3) (mvT hZ w4) hy
    (backOf (W := W) (Q := fun v h' L => Qv v ∧ L = [] ∧ h' = h) (own_free hM hT hTo hrc hrs hK (h := h) hQ) hZ w4 w3 hf hl) (g := g) hg hsize (argsL := argsL) (rest := rest) hlen hstack hW hd (fun _ _ => ⟨rfl, eT, by rw [hrc]; exact hc, by rw [hrs]; exact hs⟩)
  dsimp only [Pt.U, Pt.locs, Pt.cells, Pt.slots] at X4 l4 y4 z4 st4 hQ4
  obtain ⟨hq, rfl, hh⟩ := hQ4
  rw [hrc] at y4
  rw [hrs] at z4
  simp only [List.append_nil, Nat.add_zero] at l4 y4 z4
  subst l4 y4 z4
  exact ⟨v, T4, X4, hh, hq, st4⟩
end
/-! own 10: what a contract's promise says of the value that comes back; joins -/
theorem own_ints (zs : List Int32) (i : Nat) : ∃ z : Int32, (zs.map Value.int).getD i (.int (0 : Int32)) = .int z := by
  induction zs generalizing i with
  | nil => exact ⟨0, rfl⟩
  | cons a zs ih =>
    cases i with
    | zero => exact ⟨a, rfl⟩
    | succ i => exact ih i
theorem own_inb {j z : Int32} (n : Int) (hz : z.toInt = n) (h0 : 0 ≤ j.toInt) (h1 : j.toInt < n) : ¬ j < 0 ∧ j < z := by
  rw [Int32.lt_iff_toInt_lt, Int32.lt_iff_toInt_lt, hz, show (0 : Int32).toInt = 0 from rfl]; omega
theorem own_says_get {T : Term} {A : Array Value} {U U' : State} {o : Outcome} (hc : T.closed = true) (h : (own_says T).after A U o U' = true) : ∃ w, o = .returned (some w) ∧ T.eval A U none [] U = some w := by
  simp only [own_says, Cond.after_and, Bool.and_eq_true] at h
  obtain ⟨y, e1, e2⟩ := Cond.eq_one (show (Jvm.Cond.eq .result (.old T)).holds A U (some o) U' [] = true from h.2)
  cases o with
  | threw a => simp [Term.eval] at e1
  | returned v =>
    have : v = some y := by simpa [Term.eval] using e1
    subst this
    refine ⟨y, rfl, ?_⟩
    have e3 : T.eval A U (some (.returned (some y))) [] U = some y := e2
    rw [Term.eval_closed (some (.returned (some y))) [] T U hc] at e3
    exact e3
theorem own_says_int {n : Int32} {A : Array Value} {U U' : State} {o : Outcome} (h : (own_says (.int n)).after A U o U' = true) : ∃ v, o = .returned v ∧ v = some (.int n) := by
  obtain ⟨w, h1, h2⟩ := own_says_get (T := .int n) rfl h
  cases h2
  exact ⟨_, h1, rfl⟩
theorem own_says_bool {T : Term} {A : Array Value} {P : Prop} [Decidable P] {U U' : State} {o : Outcome} (hc : T.closed = true) (hT : own_TB A U T P) (h : (own_says T).after A U o U' = true) : ∃ v, o = .returned v ∧ v = some (.int (if P then 1 else 0)) := by
  obtain ⟨w, h1, h2⟩ := own_says_get hc h
  refine ⟨_, h1, ?_⟩
  by_cases p : P
  · rw [hT.1 p] at h2; cases h2; simp [p]
  · rw [hT.2 p] at h2; cases h2; simp [p]
theorem own_join {α : Type} {tb : Tables} {e : Env} {below : List Frame} {F : State → Outcome → Prop} {U0 : State} (P : α → Prop) (U : α → State) (h : ∀ F', (∀ a, P a → own_G tb e below F' (U a)) → own_G tb e below F' U0) (k : ∀ a, P a → own_G tb e below F (U a)) : own_G tb e below F U0 := h F k
end Jvm.Pilot.@@N@@
namespace Jvm.Pilot.@@N@@
open Jvm Jvm.ClassFile Sem Op Lib Jvm.Free Jvm.Stand Jvm.LawKit Jvm.RoadKit Bundle Jvm.Pilot.@@N@@.Jvm.D
theorem own_isint {A : Array Value} {U U' : State} {o : Outcome} (h : (Jvm.Cond.and .returned (.isInt .result)).after A U o U' = true) : ∃ v, o = .returned v ∧ ∃ w : Int32, v = some (.int w) := by
  simp only [Cond.after_and, Bool.and_eq_true] at h
  cases o with
  | threw a => simp [Cond.after, Cond.holds, Cond.value] at h
  | returned v =>
    refine ⟨v, rfl, ?_⟩
    have h2 := h.2
    cases v with
    | none => simp [Cond.after, Cond.holds, Cond.value, Term.eval] at h2
    | some w => cases w <;> simp [Cond.after, Cond.holds, Cond.value, Term.eval] at h2 <;> exact ⟨_, rfl⟩
theorem own_getD (zs : List Int32) (j : Nat) : (zs.map Value.int).getD j (.int (0 : Int32)) = .int (zs.getD j 0) := by
  induction zs generalizing j with
  | nil => rfl
  | cons a zs ih =>
    cases j with
    | zero => rfl
    | succ j => exact ih j
theorem own_clamp (x : Int32) (h : 0 ≤ x.toInt) : (x.toNatClampNeg : Int) = x.toInt := by
  show ((x.toInt.toNat : Nat) : Int) = x.toInt
  omega
theorem own_inc (x : Int32) (h : x.toInt < 1000) : (x + (1 : Int32)).toInt = x.toInt + 1 := by
  have := x.le_toInt
  rw [Int32.toInt_add, show (1 : Int32).toInt = 1 from by decide]
  exact Int.bmod_eq_of_le (by omega) (by omega)
theorem own_dec (x : Int32) (h : -1000 < x.toInt) : (x + (-1 : Int32)).toInt = x.toInt - 1 := by
  have := x.toInt_lt
  rw [Int32.toInt_add, show (-1 : Int32).toInt = -1 from by decide]
  exact Int.bmod_eq_of_le (by omega) (by omega)
theorem own_lt32 {x y : Int32} : x < y ↔ x.toInt < y.toInt := Int32.lt_iff_toInt_lt
theorem own_eq32 {x y : Int32} : x = y ↔ x.toInt = y.toInt := Int32.toInt_inj.symm
def own_run (f : Nat → Int32) (i1 i2 r : Int32) : Prop := i1.toInt < r.toInt ∧ r.toInt ≤ i2.toInt ∧ (i1.toInt + 1 < r.toInt → f (r.toInt - 1).toNat = 42) ∧ ∀ j : Nat, r.toInt ≤ j → (j : Int) < i2.toInt → f j ≠ 42
theorem own_getS (zs : List Int32) (i : Nat) (w : Int32) (j : Nat) : (List.set (zs.map Value.int) i (.int w)).getD j (.int (0 : Int32)) = .int ((zs.set i w).getD j 0) := by
  rw [← List.map_set]; exact own_getD _ _
theorem own_stop {f : Nat → Int32} {i1 i2 i : Int32} (hs : 0 ≤ i1.toInt) (he : i2.toInt ≤ 6) (h1 : i1.toInt ≤ i.toInt) (h2 : i.toInt < i2.toInt) (h3 : ∀ j : Nat, i.toInt < j → (j : Int) < i2.toInt → f j ≠ 42) (h42 : i1.toInt < i.toInt → f i.toNatClampNeg = 42) :
    0 ≤ i.toInt ∧ i.toInt < 6 ∧ own_run f i1 i2 (i + (1 : Int32)) := by
  have hi1 := own_inc i (by omega)
  have hc := own_clamp i (by omega)
  unfold own_run
  rw [hi1]
  refine ⟨by omega, by omega, by omega, by omega, fun q => ?_, fun j a b => h3 j (by omega) b⟩
  rw [show (i.toInt + 1 - 1).toNat = i.toNatClampNeg from by omega]
  exact h42 (by omega)
end Jvm.Pilot.@@N@@
namespace Jvm.RoadKit
open Sem ClassFile Op Lib Jvm.Stand Jvm.Free Jvm.LawKit
section New
variable {p : Program} {l : Launch} {e : Env} {R : Room} {s : State} {m : MethodId} {args : Array Value} {below : List Frame} {meth : Method} {c : Code} {T : State} {locs : List Loc} {cells slots : Nat}
theorem retI (X : Stand p l e R s m args below meth c T locs cells slots) (hx : p.tables.exec = Jvm.exec) {pc : Nat} {Ls : Array Slot} {z : Int32} {rest : List Value} (hret : meth.sig.returnType = some .int) (hd : decode c.code pc = .ok (.ireturn, 1)) {fs : List Frame}
    (hl : ∀ (f : JFrame) (acts : List Action), f.method = m → f.locked = none → f.entered = [] → (doReturn e (T.setTop f) acts (some (.int z))).1 = T.setFrames fs) : Steps p.tables e below (T.setTop (mkF m pc Ls (.int z :: rest))) (T.setFrames fs) := by
  have hm' : T.vm.method? m = some meth := X.method'
  have hn : narrow .int (.int z) = .int z := rfl
  show Steps p.tables e below (T.setTop { method := m, pc := pc, locals := Ls, stack := _ :: rest, locked := none }) _
  jvm_step X.here [X.here.top, hx, hd, hm', hret, hn]
  first | (intro acts; rw [hl _ acts rfl rfl rfl]) | rw [hl _ _ rfl rfl rfl]
  exact Steps.refl _
end New
end Jvm.RoadKit
namespace Jvm.Pilot.@@N@@
open Jvm Jvm.ClassFile Sem Op Lib Jvm.Free Jvm.Stand Jvm.LawKit Jvm.RoadKit Bundle Jvm.Pilot.@@N@@.Jvm.D
theorem pd_0 : parseMethodDescriptor "(IJI)B" = some ⟨[.int, .long, .int], some .byte⟩ := by decide +kernel
theorem pd_1 : parseMethodDescriptor "([BII)I" = some ⟨[(.array .byte), .int, .int], some .int⟩ := by decide +kernel
theorem pd_2 : parseMethodDescriptor "([BIII)Z" = some ⟨[(.array .byte), .int, .int, .int], some .boolean⟩ := by decide +kernel
theorem d6_0 : decode prog_17_method_7_code 0 = .ok (.iload_n 2, 1) := by decide +kernel
theorem d6_1 : decode prog_17_method_7_code 1 = .ok (.iconst 1, 1) := by decide +kernel
theorem d6_2 : decode prog_17_method_7_code 2 = .ok (.isub, 1) := by decide +kernel
theorem d6_3 : decode prog_17_method_7_code 3 = .ok (.istore_n 3, 1) := by decide +kernel
theorem d6_4 : decode prog_17_method_7_code 4 = .ok (.iload_n 3, 1) := by decide +kernel
theorem d6_5 : decode prog_17_method_7_code 5 = .ok (.iload_n 1, 1) := by decide +kernel
theorem d6_6 : decode prog_17_method_7_code 6 = .ok (.if_icmp .le 17, 3) := by decide +kernel
theorem d6_9 : decode prog_17_method_7_code 9 = .ok (.aload_n 0, 1) := by decide +kernel
theorem d6_10 : decode prog_17_method_7_code 10 = .ok (.iload_n 3, 1) := by decide +kernel
theorem d6_11 : decode prog_17_method_7_code 11 = .ok (.baload, 1) := by decide +kernel
theorem d6_12 : decode prog_17_method_7_code 12 = .ok (.bipush 42, 2) := by decide +kernel
theorem d6_14 : decode prog_17_method_7_code 14 = .ok (.if_icmp .eq 9, 3) := by decide +kernel
theorem d6_17 : decode prog_17_method_7_code 17 = .ok (.iinc 3 (-1), 3) := by decide +kernel
theorem d6_20 : decode prog_17_method_7_code 20 = .ok (.goto (-16), 3) := by decide +kernel
theorem d6_23 : decode prog_17_method_7_code 23 = .ok (.iload_n 3, 1) := by decide +kernel
theorem d6_24 : decode prog_17_method_7_code 24 = .ok (.iconst 1, 1) := by decide +kernel
theorem d6_25 : decode prog_17_method_7_code 25 = .ok (.iadd, 1) := by decide +kernel
theorem d6_26 : decode prog_17_method_7_code 26 = .ok (.ireturn, 1) := by decide +kernel
theorem pn_6 : plainName "com/example/librobots/librobots/PathPattern" = true := by first | (simp [plainName, overriddenIn]; done) | decide +kernel
theorem ef_6 (m : MethodId) (a : Addr) (i1 : Int32) (i2 : Int32) : entryFrame m #[(.ref a), (.int i1), (.int i2)] 4 = (mkF m 0 #[.val (.ref a), .val (.int i1), .val (.int i2), .unset] []) := by first | (simp [entryFrame, mkF, argsToLocals, Value.category]; done) | rfl
def Q6 (Z : State) (a : Addr) (i1 : Int32) (i2 : Int32) (f : Nat → Int32) (kk0 : ClassId) (vs : List Value) (h0 : Heap) (n0 : Nat) (v : Option Value) (h : Heap) (L : List Loc) : Prop := ∃ r : Int32, v = some (.int r) ∧ Fr n0 L ∧ h = h0 ∧ own_run f i1 i2 r
set_option maxRecDepth 65536 in
set_option maxHeartbeats 40000000 in
theorem rm6 (l : Launch) (Z : State) (a0 : Array Value) (hw : ∀ d ∈ tables_1, d.before a0 Z = true) (ws : List Jvm.Cond) (a : Addr) (i1 : Int32) (i2 : Int32) (f : Nat → Int32) (kk0 : ClassId) (vs : List Value) (h0 : Heap) (n0 : Nat) (Z0 : n0 ≤ h0.size) (V_a : Arv Z h0 a kk0 .byte (6 : Int32) vs (.int (0 : Int32))) (hf : ∀ j : Nat, vs.getD j (.int (0 : Int32)) = .int (f j)) (hs : 0 ≤ i1.toInt) (hse : i1.toInt < i2.toInt) (he : i2.toInt ≤ 6) :
    MetFree l (⟨"com/example/librobots/librobots/PathPattern", "lastRunStart", "([BII)I"⟩ : MethodName) (head1 (Jvm.Cond.code (⟨"com/example/librobots/librobots/PathPattern", "lastRunStart", "([BII)I"⟩ : MethodName) prog_17_method_7_code 4 (some .int) :: ws) ({ frames := 0, cells := 0, slots := 0, locals := 0 } : Room)) (fun as' U => as' = #[(.ref a), (.int i1), (.int i2)] ∧ Z.Warmed39 U.vm ∧ U.heap = h0) (fun _ _ _ _ _ => True) (fun _ U o U' => ∃ v L, o = .returned v ∧ Q6 Z a i1 i2 f kk0 vs h0 n0 v U'.heap L ∧ FrameEnd U o U' L ({ frames := 0, cells := 0, slots := 0, locals := 0 } : Room).cells ({ frames := 0, cells := 0, slots := 0, locals := 0 } : Room).slots) := by
  refine MetFree.of_bodySF (plainFor_of_name pn_6) hisR ?_
  intro p e s m args below meth c s₁ Bd hml0 hP hK
  obtain ⟨rfl, hZ, hh⟩ := hP
  have hx := Bd.exec
  have hby := Bd.bytes
  have hml : c.maxLocals = 4 := hml0
  have hown : s.vm.findClass "com/example/librobots/librobots/PathPattern" = some m.cls := findClass_of_methodNamed Bd.named
  have hnm := (name_of_methodNamed Bd.named Bd.method).1
  have X0 : Stand p l e ({ frames := 0, cells := 0, slots := 0, locals := 0 } : Room) s m #[(.ref a), (.int i1), (.int i2)] below meth c s₁ [] 0 0 := Stand.of_body Bd
  have e0 : s₁.heap = h0 := by rw [← hh, Bd.state]; rfl
  have N0 := Fr.nil n0
  refine own_via (fun t k => castTop (ef_6 m a i1 i2) k) ?_
  show own_G _ _ _ _ (s₁.setTop (mkF m 0 #[.val (.ref a), .val (.int i1), .val (.int i2), .unset] []))
  refine own_via (fun _ k => XS.iloadN X0.here hx rfl (hb hby d6_0) rfl k) ?_
  show own_G _ _ _ _ (s₁.setTop (mkF m 1 #[.val (.ref a), .val (.int i1), .val (.int i2), .unset] [(.int i2)]))
  refine own_via (fun _ k => XS.iconst X0.here hx rfl (hb hby d6_1) k) ?_
  show own_G _ _ _ _ (s₁.setTop (mkF m 2 #[.val (.ref a), .val (.int i1), .val (.int i2), .unset] [(.int (1 : Int32)), (.int i2)]))
  refine own_via (fun _ k => XS.isub X0.here hx rfl (hb hby d6_2) rfl k) ?_
  show own_G _ _ _ _ (s₁.setTop (mkF m 3 #[.val (.ref a), .val (.int i1), .val (.int i2), .unset] [(.int (i2 - (1 : Int32)))]))
  refine own_via (fun _ k => XS.istoreN X0.here hx rfl (hb hby d6_3) rfl (l' := #[.val (.ref a), .val (.int i1), .val (.int i2), .val (.int (i2 - (1 : Int32)))]) rfl k) ?_
  show own_G _ _ _ _ (s₁.setTop (mkF m 4 #[.val (.ref a), .val (.int i1), .val (.int i2), .val (.int (i2 - (1 : Int32)))] []))
  have hd : (i2 - (1 : Int32)).toInt = i2.toInt - 1 := Jvm.Kit.i32_sub (by simp; omega) (by simp; omega)
  obtain ⟨i9, hi9⟩ : ∃ z, z = (i2 - (1 : Int32)) := ⟨_, rfl⟩
  rw [← hi9] at hd ⊢
  show own_G _ _ _ _ (s₁.setTop (mkF m 4 #[.val (.ref a), .val (.int i1), .val (.int i2), .val (.int i9)] []))
  refine own_join (fun q1 : Int32 => 0 ≤ q1.toInt ∧ q1.toInt < 6 ∧ own_run f i1 i2 (q1 + (1 : Int32))) (fun q1 : Int32 => s₁.setTop (mkF m 23 #[.val (.ref a), .val (.int i1), .val (.int i2), .val (.int q1)] [])) (fun F' kk => ?_) (fun q hq => ?_)
  · show own_G _ _ _ _ (s₁.setTop (mkF m 4 #[.val (.ref a), .val (.int i1), .val (.int i2), .val (.int i9)] []))
    have loop : ∀ (k : Nat) (i : Int32), (i.toInt - i1.toInt).toNat < k → i1.toInt ≤ i.toInt → i.toInt < i2.toInt → (∀ j : Nat, i.toInt < j → (j : Int) < i2.toInt → f j ≠ 42) → own_G p.tables e below F' (s₁.setTop (mkF m 4 #[.val (.ref a), .val (.int i1), .val (.int i2), .val (.int i)] [])) := by
      intro k
      induction k with
      | zero => intro i hk; exact absurd hk (Nat.not_lt_zero _)
      | succ k ih =>
        intro i hk h1 h2 h3
        show own_G _ _ _ _ (s₁.setTop (mkF m 4 #[.val (.ref a), .val (.int i1), .val (.int i2), .val (.int i)] []))
        refine own_via (fun _ k => XS.iloadN X0.here hx rfl (hb hby d6_4) rfl k) ?_
        show own_G _ _ _ _ (s₁.setTop (mkF m 5 #[.val (.ref a), .val (.int i1), .val (.int i2), .val (.int i)] [(.int i)]))
        refine own_via (fun _ k => XS.iloadN X0.here hx rfl (hb hby d6_5) rfl k) ?_
        show own_G _ _ _ _ (s₁.setTop (mkF m 6 #[.val (.ref a), .val (.int i1), .val (.int i2), .val (.int i)] [(.int i1), (.int i)]))
        by_cases hc : i1 < i
        · refine own_via (fun _ k => XS.icmpNo X0.here hx rfl (hb hby d6_6) rfl (tlt hc).2.2.2 k) ?_
          show own_G _ _ _ _ (s₁.setTop (mkF m 9 #[.val (.ref a), .val (.int i1), .val (.int i2), .val (.int i)] []))
          have hc1 := own_lt32.mp hc
          have hcl := own_clamp i (by omega)
          refine own_via (fun _ k => XS.aloadN X0.here hx rfl (hb hby d6_9) rfl rfl k) ?_
          show own_G _ _ _ _ (s₁.setTop (mkF m 10 #[.val (.ref a), .val (.int i1), .val (.int i2), .val (.int i)] [(.ref a)]))
          refine own_via (fun _ k => XS.iloadN X0.here hx rfl (hb hby d6_10) rfl k) ?_
          show own_G _ _ _ _ (s₁.setTop (mkF m 11 #[.val (.ref a), .val (.int i1), .val (.int i2), .val (.int i)] [(.int i), (.ref a)]))
          obtain ⟨cl1, Ar1, -, Sz1, Nn1, Hh1, -⟩ := id V_a
          have hin1 : ¬ (i < 0 ∨ cl1.slots.size ≤ (i).toNatClampNeg) := inb_of Sz1 (own_inb 6 (by decide) (by omega) (by omega))
          have hat1 : cl1.slots[(i).toNatClampNeg]? = some (.int (f i.toNatClampNeg)) := Has.at Hh1 hin1 (hf _)
          refine own_via (fun _ k => X0.baloadBytes hx (j := i) (v := (.int (f i.toNatClampNeg))) (by rw [e0]; exact Ar1.1) (State.isArrayOf_alike hZ.alike Ar1.2.1) Ar1.2.2 hin1 hat1 (g := (mkF m 11 #[.val (.ref a), .val (.int i1), .val (.int i2), .val (.int i)] [(.int i), (.ref a)])) rfl rfl (hb hby d6_11) _ k) ?_
          show own_G _ _ _ _ (s₁.setTop (mkF m 12 #[.val (.ref a), .val (.int i1), .val (.int i2), .val (.int i)] [(.int (f i.toNatClampNeg))]))
          refine own_via (fun _ k => XS.bipush X0.here hx rfl (hb hby d6_12) k) ?_
          show own_G _ _ _ _ (s₁.setTop (mkF m 14 #[.val (.ref a), .val (.int i1), .val (.int i2), .val (.int i)] [(.int (42 : Int32)), (.int (f i.toNatClampNeg))]))
          by_cases h42 : (f i.toNatClampNeg) = (42 : Int32)
          · refine own_via (fun _ k => XS.icmpYes X0.here hx rfl (pc0 := 14) (pc' := 23) rfl (hb hby d6_14) rfl (teq h42).1 (by decide) (by decide) k) ?_
            show own_G _ _ _ _ (s₁.setTop (mkF m 23 #[.val (.ref a), .val (.int i1), .val (.int i2), .val (.int i)] []))
            exact kk i (own_stop hs he h1 h2 h3 (fun _ => h42))
          · refine own_via (fun _ k => XS.icmpNo X0.here hx rfl (hb hby d6_14) rfl (feq h42).1 k) ?_
            show own_G _ _ _ _ (s₁.setTop (mkF m 17 #[.val (.ref a), .val (.int i1), .val (.int i2), .val (.int i)] []))
            refine own_via (fun _ k => XS.iinc X0.here hx rfl (hb hby d6_17) rfl (l' := #[.val (.ref a), .val (.int i1), .val (.int i2), .val (.int (i + (-1 : Int32)))]) rfl k) ?_
            show own_G _ _ _ _ (s₁.setTop (mkF m 20 #[.val (.ref a), .val (.int i1), .val (.int i2), .val (.int (i + (-1 : Int32)))] []))
            refine own_via (fun _ k => XS.goto X0.here hx rfl (pc0 := 20) (pc' := 4) rfl (hb hby d6_20) (by decide) (by decide) k) ?_
            show own_G _ _ _ _ (s₁.setTop (mkF m 4 #[.val (.ref a), .val (.int i1), .val (.int i2), .val (.int (i + (-1 : Int32)))] []))
            have hi2 := own_dec i (by omega)
            obtain ⟨i8, hi8⟩ : ∃ z, z = (i + (-1 : Int32)) := ⟨_, rfl⟩
            rw [← hi8] at hi2 ⊢
            show own_G _ _ _ _ (s₁.setTop (mkF m 4 #[.val (.ref a), .val (.int i1), .val (.int i2), .val (.int i8)] []))
            refine ih _ (by omega) (by omega) (by omega) (fun j hj1 hj2 => ?_)
            by_cases hj : i.toInt < (j : Int)
            · exact h3 j hj hj2
            · have : j = i.toNatClampNeg := by omega
              rw [this]; exact h42
        · refine own_via (fun _ k => XS.icmpYes X0.here hx rfl (pc0 := 6) (pc' := 23) rfl (hb hby d6_6) rfl (flt hc).2.2.2 (by decide) (by decide) k) ?_
          show own_G _ _ _ _ (s₁.setTop (mkF m 23 #[.val (.ref a), .val (.int i1), .val (.int i2), .val (.int i)] []))
          have hc1 : ¬ i1.toInt < i.toInt := fun z => hc (own_lt32.mpr z)
          exact kk i (own_stop hs he h1 h2 h3 (fun q => absurd q hc1))
    exact loop _ _ (Nat.lt_succ_self _) (by omega) (by omega) (fun j a b => by omega)
  · obtain ⟨q1, rfl⟩ : ∃ z, z = q := ⟨_, rfl⟩
    have hq : 0 ≤ q1.toInt ∧ q1.toInt < 6 ∧ own_run f i1 i2 (q1 + (1 : Int32)) := hq
    show own_G _ _ _ _ (s₁.setTop (mkF m 23 #[.val (.ref a), .val (.int i1), .val (.int i2), .val (.int q1)] []))
    refine own_via (fun _ k => XS.iloadN X0.here hx rfl (hb hby d6_23) rfl k) ?_
    show own_G _ _ _ _ (s₁.setTop (mkF m 24 #[.val (.ref a), .val (.int i1), .val (.int i2), .val (.int q1)] [(.int q1)]))
    refine own_via (fun _ k => XS.iconst X0.here hx rfl (hb hby d6_24) k) ?_
    show own_G _ _ _ _ (s₁.setTop (mkF m 25 #[.val (.ref a), .val (.int i1), .val (.int i2), .val (.int q1)] [(.int (1 : Int32)), (.int q1)]))
    refine own_via (fun _ k => XS.iadd X0.here hx rfl (hb hby d6_25) rfl k) ?_
    show own_G _ _ _ _ (s₁.setTop (mkF m 26 #[.val (.ref a), .val (.int i1), .val (.int i2), .val (.int q1)] [(.int (q1 + (1 : Int32)))]))
    obtain ⟨fs, hr, hrun, hended, hW, hsame⟩ := X0.leave (v := some (.int (q1 + (1 : Int32)))) (fun h => by rw [Bd.returns] at h; cases h)
    refine ⟨_, _, ?_, hrun, hended, _, _, rfl, ?_, ⟨_, rfl⟩, hW, hsame.mono (by decide) (by decide)⟩
    · exact retI X0 hx Bd.returns (hb hby d6_26) hr
    · show Q6 Z a i1 i2 f kk0 vs h0 n0 _ s₁.heap _
      rw [e0]
      exact ⟨_, rfl, N0, rfl, hq.2.2⟩
theorem d3_0 : decode method_3_code 0 = .ok (.iload_n 1, 1) := by decide +kernel
theorem d3_1 : decode method_3_code 1 = .ok (.iload_n 2, 1) := by decide +kernel
theorem d3_2 : decode method_3_code 2 = .ok (.if_icmp .lt 20, 3) := by decide +kernel
theorem d3_5 : decode method_3_code 5 = .ok (.iload_n 1, 1) := by decide +kernel
theorem d3_6 : decode method_3_code 6 = .ok (.iload_n 3, 1) := by decide +kernel
theorem d3_7 : decode method_3_code 7 = .ok (.if_icmp .ge 15, 3) := by decide +kernel
theorem d3_10 : decode method_3_code 10 = .ok (.aload_n 0, 1) := by decide +kernel
theorem d3_11 : decode method_3_code 11 = .ok (.iload_n 1, 1) := by decide +kernel
theorem d3_12 : decode method_3_code 12 = .ok (.baload, 1) := by decide +kernel
theorem d3_13 : decode method_3_code 13 = .ok (.bipush 42, 2) := by decide +kernel
theorem d3_15 : decode method_3_code 15 = .ok (.if_icmp .ne 7, 3) := by decide +kernel
theorem d3_18 : decode method_3_code 18 = .ok (.iconst 1, 1) := by decide +kernel
theorem d3_19 : decode method_3_code 19 = .ok (.goto 4, 3) := by decide +kernel
theorem d3_22 : decode method_3_code 22 = .ok (.iconst 0, 1) := by decide +kernel
theorem d3_23 : decode method_3_code 23 = .ok (.ireturn, 1) := by decide +kernel
theorem pn_3 : plainName "com/example/librobots/librobots/PathPatternLastRunStartPinLaw" = true := by first | (simp [plainName, overriddenIn]; done) | decide +kernel
theorem ef_3 (m : MethodId) (a : Addr) (i1 : Int32) (i2 : Int32) (i3 : Int32) : entryFrame m #[(.ref a), (.int i1), (.int i2), (.int i3)] 4 = (mkF m 0 #[.val (.ref a), .val (.int i1), .val (.int i2), .val (.int i3)] []) := by first | (simp [entryFrame, mkF, argsToLocals, Value.category]; done) | rfl
def Q3 (Z : State) (a : Addr) (i1 : Int32) (i2 : Int32) (i3 : Int32) (f : Nat → Int32) (kk0 : ClassId) (vs : List Value) (h0 : Heap) (n0 : Nat) (v : Option Value) (h : Heap) (L : List Loc) : Prop := v = some (.int 0) ∧ Fr n0 L ∧ h = h0
set_option maxRecDepth 65536 in
set_option maxHeartbeats 40000000 in
theorem rm3 (l : Launch) (Z : State) (a0 : Array Value) (hw : ∀ d ∈ tables_1, d.before a0 Z = true) (ws : List Jvm.Cond) (a : Addr) (i1 : Int32) (i2 : Int32) (i3 : Int32) (f : Nat → Int32) (kk0 : ClassId) (vs : List Value) (h0 : Heap) (n0 : Nat) (Z0 : n0 ≤ h0.size) (V_a : Arv Z h0 a kk0 .byte (6 : Int32) vs (.int (0 : Int32))) (hf : ∀ j : Nat, vs.getD j (.int (0 : Int32)) = .int (f j)) (hk1 : 0 ≤ i1.toInt) (hk2 : i1.toInt < 6) (hcl : i2.toInt ≤ i1.toInt → i1.toInt < i3.toInt → f i1.toNatClampNeg ≠ 42) :
    MetFree l (⟨"com/example/librobots/librobots/PathPatternLastRunStartPinLaw", "starAfter", "([BIII)Z"⟩ : MethodName) (head1 (Jvm.Cond.code (⟨"com/example/librobots/librobots/PathPatternLastRunStartPinLaw", "starAfter", "([BIII)Z"⟩ : MethodName) method_3_code 4 (some .boolean) :: ws) ({ frames := 0, cells := 0, slots := 0, locals := 0 } : Room)) (fun as' U => as' = #[(.ref a), (.int i1), (.int i2), (.int i3)] ∧ Z.Warmed39 U.vm ∧ U.heap = h0) (fun _ _ _ _ _ => True) (fun _ U o U' => ∃ v L, o = .returned v ∧ Q3 Z a i1 i2 i3 f kk0 vs h0 n0 v U'.heap L ∧ FrameEnd U o U' L ({ frames := 0, cells := 0, slots := 0, locals := 0 } : Room).cells ({ frames := 0, cells := 0, slots := 0, locals := 0 } : Room).slots) := by
  refine MetFree.of_bodySF (plainFor_of_name pn_3) hisR ?_
  intro p e s m args below meth c s₁ Bd hml0 hP hK
  obtain ⟨rfl, hZ, hh⟩ := hP
  have hx := Bd.exec
  have hby := Bd.bytes
  have hml : c.maxLocals = 4 := hml0
  have hown : s.vm.findClass "com/example/librobots/librobots/PathPatternLastRunStartPinLaw" = some m.cls := findClass_of_methodNamed Bd.named
  have hnm := (name_of_methodNamed Bd.named Bd.method).1
  have X0 : Stand p l e ({ frames := 0, cells := 0, slots := 0, locals := 0 } : Room) s m #[(.ref a), (.int i1), (.int i2), (.int i3)] below meth c s₁ [] 0 0 := Stand.of_body Bd
  have e0 : s₁.heap = h0 := by rw [← hh, Bd.state]; rfl
  have N0 := Fr.nil n0
  refine own_via (fun t k => castTop (ef_3 m a i1 i2 i3) k) ?_
  show own_G _ _ _ _ (s₁.setTop (mkF m 0 #[.val (.ref a), .val (.int i1), .val (.int i2), .val (.int i3)] []))
  refine own_via (fun _ k => XS.iloadN X0.here hx rfl (hb hby d3_0) rfl k) ?_
  show own_G _ _ _ _ (s₁.setTop (mkF m 1 #[.val (.ref a), .val (.int i1), .val (.int i2), .val (.int i3)] [(.int i1)]))
  refine own_via (fun _ k => XS.iloadN X0.here hx rfl (hb hby d3_1) rfl k) ?_
  show own_G _ _ _ _ (s₁.setTop (mkF m 2 #[.val (.ref a), .val (.int i1), .val (.int i2), .val (.int i3)] [(.int i2), (.int i1)]))
  by_cases hc1 : i1 < i2
  · refine own_via (fun _ k => XS.icmpYes X0.here hx rfl (pc0 := 2) (pc' := 22) rfl (hb hby d3_2) rfl (tlt hc1).1 (by decide) (by decide) k) ?_
    show own_G _ _ _ _ (s₁.setTop (mkF m 22 #[.val (.ref a), .val (.int i1), .val (.int i2), .val (.int i3)] []))
    refine own_via (fun _ k => XS.iconst X0.here hx rfl (hb hby d3_22) k) ?_
    show own_G _ _ _ _ (s₁.setTop (mkF m 23 #[.val (.ref a), .val (.int i1), .val (.int i2), .val (.int i3)] [(.int (0 : Int32))]))
    obtain ⟨fs, hr, hrun, hended, hW, hsame⟩ := X0.leave (v := some (.int (0 : Int32))) (fun h => by rw [Bd.returns] at h; cases h)
    refine ⟨_, _, ?_, hrun, hended, _, _, rfl, ?_, ⟨_, rfl⟩, hW, hsame.mono (by decide) (by decide)⟩
    · exact retN X0 hx (t := .boolean) Bd.returns (by simp) (hb hby d3_23) hr
    · show Q3 Z a i1 i2 i3 f kk0 vs h0 n0 _ s₁.heap _
      rw [e0]
      exact ⟨rfl, N0, rfl⟩
  · refine own_via (fun _ k => XS.icmpNo X0.here hx rfl (hb hby d3_2) rfl (flt hc1).1 k) ?_
    show own_G _ _ _ _ (s₁.setTop (mkF m 5 #[.val (.ref a), .val (.int i1), .val (.int i2), .val (.int i3)] []))
    refine own_via (fun _ k => XS.iloadN X0.here hx rfl (hb hby d3_5) rfl k) ?_
    show own_G _ _ _ _ (s₁.setTop (mkF m 6 #[.val (.ref a), .val (.int i1), .val (.int i2), .val (.int i3)] [(.int i1)]))
    refine own_via (fun _ k => XS.iloadN X0.here hx rfl (hb hby d3_6) rfl k) ?_
    show own_G _ _ _ _ (s₁.setTop (mkF m 7 #[.val (.ref a), .val (.int i1), .val (.int i2), .val (.int i3)] [(.int i3), (.int i1)]))
    by_cases hc2 : i1 < i3
    · refine own_via (fun _ k => XS.icmpNo X0.here hx rfl (hb hby d3_7) rfl (tlt hc2).2.1 k) ?_
      show own_G _ _ _ _ (s₁.setTop (mkF m 10 #[.val (.ref a), .val (.int i1), .val (.int i2), .val (.int i3)] []))
      refine own_via (fun _ k => XS.aloadN X0.here hx rfl (hb hby d3_10) rfl rfl k) ?_
      show own_G _ _ _ _ (s₁.setTop (mkF m 11 #[.val (.ref a), .val (.int i1), .val (.int i2), .val (.int i3)] [(.ref a)]))
      refine own_via (fun _ k => XS.iloadN X0.here hx rfl (hb hby d3_11) rfl k) ?_
      show own_G _ _ _ _ (s₁.setTop (mkF m 12 #[.val (.ref a), .val (.int i1), .val (.int i2), .val (.int i3)] [(.int i1), (.ref a)]))
      obtain ⟨cl2, Ar2, -, Sz2, Nn2, Hh2, -⟩ := id V_a
      have hin2 : ¬ (i1 < 0 ∨ cl2.slots.size ≤ (i1).toNatClampNeg) := inb_of Sz2 (own_inb 6 (by decide) (by omega) (by omega))
      have hat2 : cl2.slots[(i1).toNatClampNeg]? = some (.int (f i1.toNatClampNeg)) := Has.at Hh2 hin2 (hf _)
      refine own_via (fun _ k => X0.baloadBytes hx (j := i1) (v := (.int (f i1.toNatClampNeg))) (by rw [e0]; exact Ar2.1) (State.isArrayOf_alike hZ.alike Ar2.2.1) Ar2.2.2 hin2 hat2 (g := (mkF m 12 #[.val (.ref a), .val (.int i1), .val (.int i2), .val (.int i3)] [(.int i1), (.ref a)])) rfl rfl (hb hby d3_12) _ k) ?_
      show own_G _ _ _ _ (s₁.setTop (mkF m 13 #[.val (.ref a), .val (.int i1), .val (.int i2), .val (.int i3)] [(.int (f i1.toNatClampNeg))]))
      refine own_via (fun _ k => XS.bipush X0.here hx rfl (hb hby d3_13) k) ?_
      show own_G _ _ _ _ (s₁.setTop (mkF m 15 #[.val (.ref a), .val (.int i1), .val (.int i2), .val (.int i3)] [(.int (42 : Int32)), (.int (f i1.toNatClampNeg))]))
      refine own_via (fun _ k => XS.icmpYes X0.here hx rfl (pc0 := 15) (pc' := 22) rfl (hb hby d3_15) rfl (feq (hcl (by rw [own_lt32] at hc1; omega) (own_lt32.mp hc2))).2 (by decide) (by decide) k) ?_
      show own_G _ _ _ _ (s₁.setTop (mkF m 22 #[.val (.ref a), .val (.int i1), .val (.int i2), .val (.int i3)] []))
      refine own_via (fun _ k => XS.iconst X0.here hx rfl (hb hby d3_22) k) ?_
      show own_G _ _ _ _ (s₁.setTop (mkF m 23 #[.val (.ref a), .val (.int i1), .val (.int i2), .val (.int i3)] [(.int (0 : Int32))]))
      obtain ⟨fs, hr, hrun, hended, hW, hsame⟩ := X0.leave (v := some (.int (0 : Int32))) (fun h => by rw [Bd.returns] at h; cases h)
      refine ⟨_, _, ?_, hrun, hended, _, _, rfl, ?_, ⟨_, rfl⟩, hW, hsame.mono (by decide) (by decide)⟩
      · exact retN X0 hx (t := .boolean) Bd.returns (by simp) (hb hby d3_23) hr
      · show Q3 Z a i1 i2 i3 f kk0 vs h0 n0 _ s₁.heap _
        rw [e0]
        exact ⟨rfl, N0, rfl⟩
    · refine own_via (fun _ k => XS.icmpYes X0.here hx rfl (pc0 := 7) (pc' := 22) rfl (hb hby d3_7) rfl (flt hc2).2.1 (by decide) (by decide) k) ?_
      show own_G _ _ _ _ (s₁.setTop (mkF m 22 #[.val (.ref a), .val (.int i1), .val (.int i2), .val (.int i3)] []))
      refine own_via (fun _ k => XS.iconst X0.here hx rfl (hb hby d3_22) k) ?_
      show own_G _ _ _ _ (s₁.setTop (mkF m 23 #[.val (.ref a), .val (.int i1), .val (.int i2), .val (.int i3)] [(.int (0 : Int32))]))
      obtain ⟨fs, hr, hrun, hended, hW, hsame⟩ := X0.leave (v := some (.int (0 : Int32))) (fun h => by rw [Bd.returns] at h; cases h)
      refine ⟨_, _, ?_, hrun, hended, _, _, rfl, ?_, ⟨_, rfl⟩, hW, hsame.mono (by decide) (by decide)⟩
      · exact retN X0 hx (t := .boolean) Bd.returns (by simp) (hb hby d3_23) hr
      · show Q3 Z a i1 i2 i3 f kk0 vs h0 n0 _ s₁.heap _
        rw [e0]
        exact ⟨rfl, N0, rfl⟩
theorem pn_0 : plainName "com/example/librobots/librobots/PathPatternLastRunStartPinLaw" = true := by first | (simp [plainName, overriddenIn]; done) | decide +kernel
theorem ef_0 (m : MethodId) (i1 : Int32) (j1 : Int64) (i2 : Int32) (i3 : Int32) : entryFrame m #[(.int i1), (.long j1), (.int i2), (.int i3)] maxLocals = (mkF m 0 #[.val (.int i1), .val (.long j1), .second, .val (.int i2), .val (.int i3), .unset, .unset, .unset, .unset] []) := by first | (simp [entryFrame, mkF, argsToLocals, Value.category, maxLocals]; done) | rfl
set_option maxRecDepth 65536 in
set_option maxHeartbeats 40000000 in
theorem rm0 (l : Launch) (Z : State) (a0 : Array Value) (hw : ∀ d ∈ tables_1, d.before a0 Z = true) (ws : List Jvm.Cond) (i1 : Int32) (j1 : Int64) (i2 : Int32) (i3 : Int32) (h0 : Heap) (n0 : Nat) (Z0 : n0 ≤ h0.size) :
    MetFree l x (head1 (Jvm.Cond.code x code maxLocals ret :: ws) room_1) (fun as' U => as' = #[(.int i1), (.long j1), (.int i2), (.int i3)] ∧ Z.Warmed39 U.vm ∧ U.heap = h0) (fun _ _ _ _ _ => True) (fun _ U o U' => ∃ v L, o = .returned v ∧ (v = some (.int 1) ∧ Fr n0 L) ∧ FrameEnd U o U' L 1 6) := by
  refine MetFree.of_bodySF (plainFor_of_name pn_0) hisR ?_
  intro p e s m args below meth c s₁ Bd hml0 hP hK
  obtain ⟨rfl, hZ, hh⟩ := hP
  have hx := Bd.exec
  have hby := Bd.bytes
  have hml : c.maxLocals = 9 := hml0
  have hown : s.vm.findClass "com/example/librobots/librobots/PathPatternLastRunStartPinLaw" = some m.cls := findClass_of_methodNamed Bd.named
  have hnm := (name_of_methodNamed Bd.named Bd.method).1
  have X0 : Stand p l e room_1 s m #[(.int i1), (.long j1), (.int i2), (.int i3)] below meth c s₁ [] 0 0 := Stand.of_body Bd
  have e0 : s₁.heap = h0 := by rw [← hh, Bd.state]; rfl
  have N0 := Fr.nil n0
  refine own_via (fun t k => castTop (ef_0 m i1 j1 i2 i3) k) ?_
  show own_G _ _ _ _ (s₁.setTop (mkF m 0 #[.val (.int i1), .val (.long j1), .second, .val (.int i2), .val (.int i3), .unset, .unset, .unset, .unset] []))
  refine own_via (fun _ k => XS.bipush X0.here hx rfl (hb hby at_0) k) ?_
  show own_G _ _ _ _ (s₁.setTop (mkF m 2 #[.val (.int i1), .val (.long j1), .second, .val (.int i2), .val (.int i3), .unset, .unset, .unset, .unset] [(.int (6 : Int32))]))
  obtain ⟨T3, h3, k_b, X3, e3, E3, A3, st3⟩ := newP X0 hx hZ (hw _ (List.mem_of_getElem? (i := 0) rfl)) e0 (g := (mkF m 2 #[.val (.int i1), .val (.long j1), .second, .val (.int i2), .val (.int i3), .unset, .unset, .unset, .unset] [(.int (6 : Int32))])) rfl (hb hby at_2) rfl (by decide) (cap := 6) (by decide) (by decide) (by decide) (by decide)
  obtain ⟨b, g3⟩ : ∃ z, z = h0.size := ⟨_, rfl⟩
  rw [← g3] at A3 st3
  have g_b : n0 ≤ b := Nat.le_trans Z0 (Nat.le_of_eq g3.symm)
  have Z0 := Nat.le_trans Z0 E3.1
  have V_b : Arv Z h3 b k_b .byte (6 : Int32) [(.int (0 : Int32)), (.int (0 : Int32)), (.int (0 : Int32)), (.int (0 : Int32)), (.int (0 : Int32)), (.int (0 : Int32))] (.int (0 : Int32)) := (Arv.new A3 (by decide)).pad (pad_rep [] (.int (0 : Int32)) 6)
  refine own_via st3 ?_
  show own_G _ _ _ _ (T3.setTop (mkF m 4 #[.val (.int i1), .val (.long j1), .second, .val (.int i2), .val (.int i3), .unset, .unset, .unset, .unset] [(.ref b)]))
  refine own_via (fun _ k => XS.astore X3.here hx rfl (hb hby at_4) rfl rfl (l' := #[.val (.int i1), .val (.long j1), .second, .val (.int i2), .val (.int i3), .val (.ref b), .unset, .unset, .unset]) rfl k) ?_
  show own_G _ _ _ _ (T3.setTop (mkF m 6 #[.val (.int i1), .val (.long j1), .second, .val (.int i2), .val (.int i3), .val (.ref b), .unset, .unset, .unset] []))
  refine own_via (fun _ k => XS.aload X3.here hx rfl (hb hby at_6) rfl rfl k) ?_
  show own_G _ _ _ _ (T3.setTop (mkF m 8 #[.val (.int i1), .val (.long j1), .second, .val (.int i2), .val (.int i3), .val (.ref b), .unset, .unset, .unset] [(.ref b)]))
  refine own_via (fun _ k => XS.iconst X3.here hx rfl (hb hby at_8) k) ?_
  show own_G _ _ _ _ (T3.setTop (mkF m 9 #[.val (.int i1), .val (.long j1), .second, .val (.int i2), .val (.int i3), .val (.ref b), .unset, .unset, .unset] [(.int (0 : Int32)), (.ref b)]))
  refine own_via (fun _ k => XS.iloadN X3.here hx rfl (hb hby at_9) rfl k) ?_
  show own_G _ _ _ _ (T3.setTop (mkF m 10 #[.val (.int i1), .val (.long j1), .second, .val (.int i2), .val (.int i3), .val (.ref b), .unset, .unset, .unset] [(.int i1), (.int (0 : Int32)), (.ref b)]))
  refine own_via (fun _ k => XS.lloadN X3.here hx rfl (hb hby at_10) rfl k) ?_
  show own_G _ _ _ _ (T3.setTop (mkF m 11 #[.val (.int i1), .val (.long j1), .second, .val (.int i2), .val (.int i3), .val (.ref b), .unset, .unset, .unset] [(.long j1), (.int i1), (.int (0 : Int32)), (.ref b)]))
  refine own_via (fun _ k => XS.iconst X3.here hx rfl (hb hby at_11) k) ?_
  show own_G _ _ _ _ (T3.setTop (mkF m 12 #[.val (.int i1), .val (.long j1), .second, .val (.int i2), .val (.int i3), .val (.ref b), .unset, .unset, .unset] [(.int (0 : Int32)), (.long j1), (.int i1), (.int (0 : Int32)), (.ref b)]))
  obtain ⟨v4, T4, X4, e4, hv4, st4⟩ := own_pure (W := 2) X3 hx hZ hown (hw _ (List.mem_of_getElem? (i := 1) rfl)) (hw _ (List.mem_of_getElem? (i := 2) rfl)) (hw _ (List.mem_of_getElem? (i := 3) rfl)) (hw _ (List.mem_of_getElem? (i := 4) rfl)) (by decide) (S1_meets l) (own_tabs own_T1 hw (by decide +kernel)) (by decide +kernel) rfl rfl e3 (g := (mkF m 12 #[.val (.int i1), .val (.long j1), .second, .val (.int i2), .val (.int i3), .val (.ref b), .unset, .unset, .unset] [(.int (0 : Int32)), (.long j1), (.int i1), (.int (0 : Int32)), (.ref b)])) rfl (by rw [hml]; rfl) (argsL := [(.int i1), (.long j1), (.int (0 : Int32))]) (rest := [(.int (0 : Int32)), (.ref b)]) (lenOf pd_0 rfl) rfl (by show 2 * 0 + _ ≤ _; exact Nat.le_of_eq rfl) (hb hby at_12) ⟨rfl, rfl, rfl, trivial⟩ (fun U o U' hh => own_isint hh) (by decide) (by decide) (by decide) (by decide)
  obtain ⟨z0, rfl⟩ := hv4
  refine own_via st4 ?_
  show own_G _ _ _ _ (T4.setTop (mkF m 15 #[.val (.int i1), .val (.long j1), .second, .val (.int i2), .val (.int i3), .val (.ref b), .unset, .unset, .unset] [(.int z0), (.int (0 : Int32)), (.ref b)]))
  obtain ⟨cl_b, Ar_b, q_b, S_b, Nn_b, H_b, G_b⟩ := V_b
  have hin5 : ¬ ((0 : Int32) < 0 ∨ cl_b.slots.size ≤ ((0 : Int32)).toNatClampNeg) := inb_of S_b ⟨by decide, by decide⟩
  obtain ⟨T5, h5, X5, e5, W5, st5⟩ := stB X4 hx hZ e4 Ar_b (j := (0 : Int32)) hin5 (g := (mkF m 15 #[.val (.int i1), .val (.long j1), .second, .val (.int i2), .val (.int i3), .val (.ref b), .unset, .unset, .unset] [(.int z0), (.int (0 : Int32)), (.ref b)])) rfl rfl (hb hby at_15)
  have V_b : Arv Z h5 b k_b .byte (6 : Int32) [(.int (nar .byte z0)), (.int (0 : Int32)), (.int (0 : Int32)), (.int (0 : Int32)), (.int (0 : Int32)), (.int (0 : Int32))] (.int (0 : Int32)) := Arv.set Ar_b q_b S_b Nn_b H_b G_b (fits_nar_byte _) W5 0 rfl (Nat.le_of_ble_eq_true rfl)
  have Z0 := Nat.le_trans Z0 (Keep.of_wr W5).1
  have N5 := Fr.snoc X5 N0 g_b
  refine own_via st5 ?_
  show own_G _ _ _ _ (T5.setTop (mkF m 16 #[.val (.int i1), .val (.long j1), .second, .val (.int i2), .val (.int i3), .val (.ref b), .unset, .unset, .unset] []))
  refine own_via (fun _ k => XS.aload X5.here hx rfl (hb hby at_16) rfl rfl k) ?_
  show own_G _ _ _ _ (T5.setTop (mkF m 18 #[.val (.int i1), .val (.long j1), .second, .val (.int i2), .val (.int i3), .val (.ref b), .unset, .unset, .unset] [(.ref b)]))
  refine own_via (fun _ k => XS.iconst X5.here hx rfl (hb hby at_18) k) ?_
  show own_G _ _ _ _ (T5.setTop (mkF m 19 #[.val (.int i1), .val (.long j1), .second, .val (.int i2), .val (.int i3), .val (.ref b), .unset, .unset, .unset] [(.int (1 : Int32)), (.ref b)]))
  refine own_via (fun _ k => XS.iloadN X5.here hx rfl (hb hby at_19) rfl k) ?_
  show own_G _ _ _ _ (T5.setTop (mkF m 20 #[.val (.int i1), .val (.long j1), .second, .val (.int i2), .val (.int i3), .val (.ref b), .unset, .unset, .unset] [(.int i1), (.int (1 : Int32)), (.ref b)]))
  refine own_via (fun _ k => XS.lloadN X5.here hx rfl (hb hby at_20) rfl k) ?_
  show own_G _ _ _ _ (T5.setTop (mkF m 21 #[.val (.int i1), .val (.long j1), .second, .val (.int i2), .val (.int i3), .val (.ref b), .unset, .unset, .unset] [(.long j1), (.int i1), (.int (1 : Int32)), (.ref b)]))
  refine own_via (fun _ k => XS.iconst X5.here hx rfl (hb hby at_21) k) ?_
  show own_G _ _ _ _ (T5.setTop (mkF m 22 #[.val (.int i1), .val (.long j1), .second, .val (.int i2), .val (.int i3), .val (.ref b), .unset, .unset, .unset] [(.int (1 : Int32)), (.long j1), (.int i1), (.int (1 : Int32)), (.ref b)]))
  obtain ⟨v6, T6, X6, e6, hv6, st6⟩ := own_pure (W := 2) X5 hx hZ hown (hw _ (List.mem_of_getElem? (i := 1) rfl)) (hw _ (List.mem_of_getElem? (i := 2) rfl)) (hw _ (List.mem_of_getElem? (i := 3) rfl)) (hw _ (List.mem_of_getElem? (i := 4) rfl)) (by decide) (S1_meets l) (own_tabs own_T1 hw (by decide +kernel)) (by decide +kernel) rfl rfl e5 (g := (mkF m 22 #[.val (.int i1), .val (.long j1), .second, .val (.int i2), .val (.int i3), .val (.ref b), .unset, .unset, .unset] [(.int (1 : Int32)), (.long j1), (.int i1), (.int (1 : Int32)), (.ref b)])) rfl (by rw [hml]; rfl) (argsL := [(.int i1), (.long j1), (.int (1 : Int32))]) (rest := [(.int (1 : Int32)), (.ref b)]) (lenOf pd_0 rfl) rfl (by show 2 * 0 + _ ≤ _; exact Nat.le_of_eq rfl) (hb hby at_22) ⟨rfl, rfl, rfl, trivial⟩ (fun U o U' hh => own_isint hh) (by decide) (by decide) (by decide) (by decide)
  obtain ⟨z1, rfl⟩ := hv6
  refine own_via st6 ?_
  show own_G _ _ _ _ (T6.setTop (mkF m 25 #[.val (.int i1), .val (.long j1), .second, .val (.int i2), .val (.int i3), .val (.ref b), .unset, .unset, .unset] [(.int z1), (.int (1 : Int32)), (.ref b)]))
  obtain ⟨cl_b, Ar_b, q_b, S_b, Nn_b, H_b, G_b⟩ := V_b
  have hin7 : ¬ ((1 : Int32) < 0 ∨ cl_b.slots.size ≤ ((1 : Int32)).toNatClampNeg) := inb_of S_b ⟨by decide, by decide⟩
  obtain ⟨T7, h7, X7, e7, W7, st7⟩ := stB X6 hx hZ e6 Ar_b (j := (1 : Int32)) hin7 (g := (mkF m 25 #[.val (.int i1), .val (.long j1), .second, .val (.int i2), .val (.int i3), .val (.ref b), .unset, .unset, .unset] [(.int z1), (.int (1 : Int32)), (.ref b)])) rfl rfl (hb hby at_25)
  have V_b : Arv Z h7 b k_b .byte (6 : Int32) [(.int (nar .byte z0)), (.int (nar .byte z1)), (.int (0 : Int32)), (.int (0 : Int32)), (.int (0 : Int32)), (.int (0 : Int32))] (.int (0 : Int32)) := Arv.set Ar_b q_b S_b Nn_b H_b G_b (fits_nar_byte _) W7 1 rfl (Nat.le_of_ble_eq_true rfl)
  have Z0 := Nat.le_trans Z0 (Keep.of_wr W7).1
  have N7 := Fr.snoc X7 N5 g_b
  refine own_via st7 ?_
  show own_G _ _ _ _ (T7.setTop (mkF m 26 #[.val (.int i1), .val (.long j1), .second, .val (.int i2), .val (.int i3), .val (.ref b), .unset, .unset, .unset] []))
  refine own_via (fun _ k => XS.aload X7.here hx rfl (hb hby at_26) rfl rfl k) ?_
  show own_G _ _ _ _ (T7.setTop (mkF m 28 #[.val (.int i1), .val (.long j1), .second, .val (.int i2), .val (.int i3), .val (.ref b), .unset, .unset, .unset] [(.ref b)]))
  refine own_via (fun _ k => XS.iconst X7.here hx rfl (hb hby at_28) k) ?_
  show own_G _ _ _ _ (T7.setTop (mkF m 29 #[.val (.int i1), .val (.long j1), .second, .val (.int i2), .val (.int i3), .val (.ref b), .unset, .unset, .unset] [(.int (2 : Int32)), (.ref b)]))
  refine own_via (fun _ k => XS.iloadN X7.here hx rfl (hb hby at_29) rfl k) ?_
  show own_G _ _ _ _ (T7.setTop (mkF m 30 #[.val (.int i1), .val (.long j1), .second, .val (.int i2), .val (.int i3), .val (.ref b), .unset, .unset, .unset] [(.int i1), (.int (2 : Int32)), (.ref b)]))
  refine own_via (fun _ k => XS.lloadN X7.here hx rfl (hb hby at_30) rfl k) ?_
  show own_G _ _ _ _ (T7.setTop (mkF m 31 #[.val (.int i1), .val (.long j1), .second, .val (.int i2), .val (.int i3), .val (.ref b), .unset, .unset, .unset] [(.long j1), (.int i1), (.int (2 : Int32)), (.ref b)]))
  refine own_via (fun _ k => XS.iconst X7.here hx rfl (hb hby at_31) k) ?_
  show own_G _ _ _ _ (T7.setTop (mkF m 32 #[.val (.int i1), .val (.long j1), .second, .val (.int i2), .val (.int i3), .val (.ref b), .unset, .unset, .unset] [(.int (2 : Int32)), (.long j1), (.int i1), (.int (2 : Int32)), (.ref b)]))
  obtain ⟨v8, T8, X8, e8, hv8, st8⟩ := own_pure (W := 2) X7 hx hZ hown (hw _ (List.mem_of_getElem? (i := 1) rfl)) (hw _ (List.mem_of_getElem? (i := 2) rfl)) (hw _ (List.mem_of_getElem? (i := 3) rfl)) (hw _ (List.mem_of_getElem? (i := 4) rfl)) (by decide) (S1_meets l) (own_tabs own_T1 hw (by decide +kernel)) (by decide +kernel) rfl rfl e7 (g := (mkF m 32 #[.val (.int i1), .val (.long j1), .second, .val (.int i2), .val (.int i3), .val (.ref b), .unset, .unset, .unset] [(.int (2 : Int32)), (.long j1), (.int i1), (.int (2 : Int32)), (.ref b)])) rfl (by rw [hml]; rfl) (argsL := [(.int i1), (.long j1), (.int (2 : Int32))]) (rest := [(.int (2 : Int32)), (.ref b)]) (lenOf pd_0 rfl) rfl (by show 2 * 0 + _ ≤ _; exact Nat.le_of_eq rfl) (hb hby at_32) ⟨rfl, rfl, rfl, trivial⟩ (fun U o U' hh => own_isint hh) (by decide) (by decide) (by decide) (by decide)
  obtain ⟨z2, rfl⟩ := hv8
  refine own_via st8 ?_
  show own_G _ _ _ _ (T8.setTop (mkF m 35 #[.val (.int i1), .val (.long j1), .second, .val (.int i2), .val (.int i3), .val (.ref b), .unset, .unset, .unset] [(.int z2), (.int (2 : Int32)), (.ref b)]))
  obtain ⟨cl_b, Ar_b, q_b, S_b, Nn_b, H_b, G_b⟩ := V_b
  have hin9 : ¬ ((2 : Int32) < 0 ∨ cl_b.slots.size ≤ ((2 : Int32)).toNatClampNeg) := inb_of S_b ⟨by decide, by decide⟩
  obtain ⟨T9, h9, X9, e9, W9, st9⟩ := stB X8 hx hZ e8 Ar_b (j := (2 : Int32)) hin9 (g := (mkF m 35 #[.val (.int i1), .val (.long j1), .second, .val (.int i2), .val (.int i3), .val (.ref b), .unset, .unset, .unset] [(.int z2), (.int (2 : Int32)), (.ref b)])) rfl rfl (hb hby at_35)
  have V_b : Arv Z h9 b k_b .byte (6 : Int32) [(.int (nar .byte z0)), (.int (nar .byte z1)), (.int (nar .byte z2)), (.int (0 : Int32)), (.int (0 : Int32)), (.int (0 : Int32))] (.int (0 : Int32)) := Arv.set Ar_b q_b S_b Nn_b H_b G_b (fits_nar_byte _) W9 2 rfl (Nat.le_of_ble_eq_true rfl)
  have Z0 := Nat.le_trans Z0 (Keep.of_wr W9).1
  have N9 := Fr.snoc X9 N7 g_b
  refine own_via st9 ?_
  show own_G _ _ _ _ (T9.setTop (mkF m 36 #[.val (.int i1), .val (.long j1), .second, .val (.int i2), .val (.int i3), .val (.ref b), .unset, .unset, .unset] []))
  refine own_via (fun _ k => XS.aload X9.here hx rfl (hb hby at_36) rfl rfl k) ?_
  show own_G _ _ _ _ (T9.setTop (mkF m 38 #[.val (.int i1), .val (.long j1), .second, .val (.int i2), .val (.int i3), .val (.ref b), .unset, .unset, .unset] [(.ref b)]))
  refine own_via (fun _ k => XS.iconst X9.here hx rfl (hb hby at_38) k) ?_
  show own_G _ _ _ _ (T9.setTop (mkF m 39 #[.val (.int i1), .val (.long j1), .second, .val (.int i2), .val (.int i3), .val (.ref b), .unset, .unset, .unset] [(.int (3 : Int32)), (.ref b)]))
  refine own_via (fun _ k => XS.iloadN X9.here hx rfl (hb hby at_39) rfl k) ?_
  show own_G _ _ _ _ (T9.setTop (mkF m 40 #[.val (.int i1), .val (.long j1), .second, .val (.int i2), .val (.int i3), .val (.ref b), .unset, .unset, .unset] [(.int i1), (.int (3 : Int32)), (.ref b)]))
  refine own_via (fun _ k => XS.lloadN X9.here hx rfl (hb hby at_40) rfl k) ?_
  show own_G _ _ _ _ (T9.setTop (mkF m 41 #[.val (.int i1), .val (.long j1), .second, .val (.int i2), .val (.int i3), .val (.ref b), .unset, .unset, .unset] [(.long j1), (.int i1), (.int (3 : Int32)), (.ref b)]))
  refine own_via (fun _ k => XS.iconst X9.here hx rfl (hb hby at_41) k) ?_
  show own_G _ _ _ _ (T9.setTop (mkF m 42 #[.val (.int i1), .val (.long j1), .second, .val (.int i2), .val (.int i3), .val (.ref b), .unset, .unset, .unset] [(.int (3 : Int32)), (.long j1), (.int i1), (.int (3 : Int32)), (.ref b)]))
  obtain ⟨v10, T10, X10, e10, hv10, st10⟩ := own_pure (W := 2) X9 hx hZ hown (hw _ (List.mem_of_getElem? (i := 1) rfl)) (hw _ (List.mem_of_getElem? (i := 2) rfl)) (hw _ (List.mem_of_getElem? (i := 3) rfl)) (hw _ (List.mem_of_getElem? (i := 4) rfl)) (by decide) (S1_meets l) (own_tabs own_T1 hw (by decide +kernel)) (by decide +kernel) rfl rfl e9 (g := (mkF m 42 #[.val (.int i1), .val (.long j1), .second, .val (.int i2), .val (.int i3), .val (.ref b), .unset, .unset, .unset] [(.int (3 : Int32)), (.long j1), (.int i1), (.int (3 : Int32)), (.ref b)])) rfl (by rw [hml]; rfl) (argsL := [(.int i1), (.long j1), (.int (3 : Int32))]) (rest := [(.int (3 : Int32)), (.ref b)]) (lenOf pd_0 rfl) rfl (by show 2 * 0 + _ ≤ _; exact Nat.le_of_eq rfl) (hb hby at_42) ⟨rfl, rfl, rfl, trivial⟩ (fun U o U' hh => own_isint hh) (by decide) (by decide) (by decide) (by decide)
  obtain ⟨z3, rfl⟩ := hv10
  refine own_via st10 ?_
  show own_G _ _ _ _ (T10.setTop (mkF m 45 #[.val (.int i1), .val (.long j1), .second, .val (.int i2), .val (.int i3), .val (.ref b), .unset, .unset, .unset] [(.int z3), (.int (3 : Int32)), (.ref b)]))
  obtain ⟨cl_b, Ar_b, q_b, S_b, Nn_b, H_b, G_b⟩ := V_b
  have hin11 : ¬ ((3 : Int32) < 0 ∨ cl_b.slots.size ≤ ((3 : Int32)).toNatClampNeg) := inb_of S_b ⟨by decide, by decide⟩
  obtain ⟨T11, h11, X11, e11, W11, st11⟩ := stB X10 hx hZ e10 Ar_b (j := (3 : Int32)) hin11 (g := (mkF m 45 #[.val (.int i1), .val (.long j1), .second, .val (.int i2), .val (.int i3), .val (.ref b), .unset, .unset, .unset] [(.int z3), (.int (3 : Int32)), (.ref b)])) rfl rfl (hb hby at_45)
  have V_b : Arv Z h11 b k_b .byte (6 : Int32) [(.int (nar .byte z0)), (.int (nar .byte z1)), (.int (nar .byte z2)), (.int (nar .byte z3)), (.int (0 : Int32)), (.int (0 : Int32))] (.int (0 : Int32)) := Arv.set Ar_b q_b S_b Nn_b H_b G_b (fits_nar_byte _) W11 3 rfl (Nat.le_of_ble_eq_true rfl)
  have Z0 := Nat.le_trans Z0 (Keep.of_wr W11).1
  have N11 := Fr.snoc X11 N9 g_b
  refine own_via st11 ?_
  show own_G _ _ _ _ (T11.setTop (mkF m 46 #[.val (.int i1), .val (.long j1), .second, .val (.int i2), .val (.int i3), .val (.ref b), .unset, .unset, .unset] []))
  refine own_via (fun _ k => XS.aload X11.here hx rfl (hb hby at_46) rfl rfl k) ?_
  show own_G _ _ _ _ (T11.setTop (mkF m 48 #[.val (.int i1), .val (.long j1), .second, .val (.int i2), .val (.int i3), .val (.ref b), .unset, .unset, .unset] [(.ref b)]))
  refine own_via (fun _ k => XS.iconst X11.here hx rfl (hb hby at_48) k) ?_
  show own_G _ _ _ _ (T11.setTop (mkF m 49 #[.val (.int i1), .val (.long j1), .second, .val (.int i2), .val (.int i3), .val (.ref b), .unset, .unset, .unset] [(.int (4 : Int32)), (.ref b)]))
  refine own_via (fun _ k => XS.iloadN X11.here hx rfl (hb hby at_49) rfl k) ?_
  show own_G _ _ _ _ (T11.setTop (mkF m 50 #[.val (.int i1), .val (.long j1), .second, .val (.int i2), .val (.int i3), .val (.ref b), .unset, .unset, .unset] [(.int i1), (.int (4 : Int32)), (.ref b)]))
  refine own_via (fun _ k => XS.lloadN X11.here hx rfl (hb hby at_50) rfl k) ?_
  show own_G _ _ _ _ (T11.setTop (mkF m 51 #[.val (.int i1), .val (.long j1), .second, .val (.int i2), .val (.int i3), .val (.ref b), .unset, .unset, .unset] [(.long j1), (.int i1), (.int (4 : Int32)), (.ref b)]))
  refine own_via (fun _ k => XS.iconst X11.here hx rfl (hb hby at_51) k) ?_
  show own_G _ _ _ _ (T11.setTop (mkF m 52 #[.val (.int i1), .val (.long j1), .second, .val (.int i2), .val (.int i3), .val (.ref b), .unset, .unset, .unset] [(.int (4 : Int32)), (.long j1), (.int i1), (.int (4 : Int32)), (.ref b)]))
  obtain ⟨v12, T12, X12, e12, hv12, st12⟩ := own_pure (W := 2) X11 hx hZ hown (hw _ (List.mem_of_getElem? (i := 1) rfl)) (hw _ (List.mem_of_getElem? (i := 2) rfl)) (hw _ (List.mem_of_getElem? (i := 3) rfl)) (hw _ (List.mem_of_getElem? (i := 4) rfl)) (by decide) (S1_meets l) (own_tabs own_T1 hw (by decide +kernel)) (by decide +kernel) rfl rfl e11 (g := (mkF m 52 #[.val (.int i1), .val (.long j1), .second, .val (.int i2), .val (.int i3), .val (.ref b), .unset, .unset, .unset] [(.int (4 : Int32)), (.long j1), (.int i1), (.int (4 : Int32)), (.ref b)])) rfl (by rw [hml]; rfl) (argsL := [(.int i1), (.long j1), (.int (4 : Int32))]) (rest := [(.int (4 : Int32)), (.ref b)]) (lenOf pd_0 rfl) rfl (by show 2 * 0 + _ ≤ _; exact Nat.le_of_eq rfl) (hb hby at_52) ⟨rfl, rfl, rfl, trivial⟩ (fun U o U' hh => own_isint hh) (by decide) (by decide) (by decide) (by decide)
  obtain ⟨z4, rfl⟩ := hv12
  refine own_via st12 ?_
  show own_G _ _ _ _ (T12.setTop (mkF m 55 #[.val (.int i1), .val (.long j1), .second, .val (.int i2), .val (.int i3), .val (.ref b), .unset, .unset, .unset] [(.int z4), (.int (4 : Int32)), (.ref b)]))
  obtain ⟨cl_b, Ar_b, q_b, S_b, Nn_b, H_b, G_b⟩ := V_b
  have hin13 : ¬ ((4 : Int32) < 0 ∨ cl_b.slots.size ≤ ((4 : Int32)).toNatClampNeg) := inb_of S_b ⟨by decide, by decide⟩
  obtain ⟨T13, h13, X13, e13, W13, st13⟩ := stB X12 hx hZ e12 Ar_b (j := (4 : Int32)) hin13 (g := (mkF m 55 #[.val (.int i1), .val (.long j1), .second, .val (.int i2), .val (.int i3), .val (.ref b), .unset, .unset, .unset] [(.int z4), (.int (4 : Int32)), (.ref b)])) rfl rfl (hb hby at_55)
  have V_b : Arv Z h13 b k_b .byte (6 : Int32) [(.int (nar .byte z0)), (.int (nar .byte z1)), (.int (nar .byte z2)), (.int (nar .byte z3)), (.int (nar .byte z4)), (.int (0 : Int32))] (.int (0 : Int32)) := Arv.set Ar_b q_b S_b Nn_b H_b G_b (fits_nar_byte _) W13 4 rfl (Nat.le_of_ble_eq_true rfl)
  have Z0 := Nat.le_trans Z0 (Keep.of_wr W13).1
  have N13 := Fr.snoc X13 N11 g_b
  refine own_via st13 ?_
  show own_G _ _ _ _ (T13.setTop (mkF m 56 #[.val (.int i1), .val (.long j1), .second, .val (.int i2), .val (.int i3), .val (.ref b), .unset, .unset, .unset] []))
  refine own_via (fun _ k => XS.aload X13.here hx rfl (hb hby at_56) rfl rfl k) ?_
  show own_G _ _ _ _ (T13.setTop (mkF m 58 #[.val (.int i1), .val (.long j1), .second, .val (.int i2), .val (.int i3), .val (.ref b), .unset, .unset, .unset] [(.ref b)]))
  refine own_via (fun _ k => XS.iconst X13.here hx rfl (hb hby at_58) k) ?_
  show own_G _ _ _ _ (T13.setTop (mkF m 59 #[.val (.int i1), .val (.long j1), .second, .val (.int i2), .val (.int i3), .val (.ref b), .unset, .unset, .unset] [(.int (5 : Int32)), (.ref b)]))
  refine own_via (fun _ k => XS.iloadN X13.here hx rfl (hb hby at_59) rfl k) ?_
  show own_G _ _ _ _ (T13.setTop (mkF m 60 #[.val (.int i1), .val (.long j1), .second, .val (.int i2), .val (.int i3), .val (.ref b), .unset, .unset, .unset] [(.int i1), (.int (5 : Int32)), (.ref b)]))
  refine own_via (fun _ k => XS.lloadN X13.here hx rfl (hb hby at_60) rfl k) ?_
  show own_G _ _ _ _ (T13.setTop (mkF m 61 #[.val (.int i1), .val (.long j1), .second, .val (.int i2), .val (.int i3), .val (.ref b), .unset, .unset, .unset] [(.long j1), (.int i1), (.int (5 : Int32)), (.ref b)]))
  refine own_via (fun _ k => XS.iconst X13.here hx rfl (hb hby at_61) k) ?_
  show own_G _ _ _ _ (T13.setTop (mkF m 62 #[.val (.int i1), .val (.long j1), .second, .val (.int i2), .val (.int i3), .val (.ref b), .unset, .unset, .unset] [(.int (5 : Int32)), (.long j1), (.int i1), (.int (5 : Int32)), (.ref b)]))
  obtain ⟨v14, T14, X14, e14, hv14, st14⟩ := own_pure (W := 2) X13 hx hZ hown (hw _ (List.mem_of_getElem? (i := 1) rfl)) (hw _ (List.mem_of_getElem? (i := 2) rfl)) (hw _ (List.mem_of_getElem? (i := 3) rfl)) (hw _ (List.mem_of_getElem? (i := 4) rfl)) (by decide) (S1_meets l) (own_tabs own_T1 hw (by decide +kernel)) (by decide +kernel) rfl rfl e13 (g := (mkF m 62 #[.val (.int i1), .val (.long j1), .second, .val (.int i2), .val (.int i3), .val (.ref b), .unset, .unset, .unset] [(.int (5 : Int32)), (.long j1), (.int i1), (.int (5 : Int32)), (.ref b)])) rfl (by rw [hml]; rfl) (argsL := [(.int i1), (.long j1), (.int (5 : Int32))]) (rest := [(.int (5 : Int32)), (.ref b)]) (lenOf pd_0 rfl) rfl (by show 2 * 0 + _ ≤ _; exact Nat.le_of_eq rfl) (hb hby at_62) ⟨rfl, rfl, rfl, trivial⟩ (fun U o U' hh => own_isint hh) (by decide) (by decide) (by decide) (by decide)
  obtain ⟨z5, rfl⟩ := hv14
  refine own_via st14 ?_
  show own_G _ _ _ _ (T14.setTop (mkF m 65 #[.val (.int i1), .val (.long j1), .second, .val (.int i2), .val (.int i3), .val (.ref b), .unset, .unset, .unset] [(.int z5), (.int (5 : Int32)), (.ref b)]))
  obtain ⟨cl_b, Ar_b, q_b, S_b, Nn_b, H_b, G_b⟩ := V_b
  have hin15 : ¬ ((5 : Int32) < 0 ∨ cl_b.slots.size ≤ ((5 : Int32)).toNatClampNeg) := inb_of S_b ⟨by decide, by decide⟩
  obtain ⟨T15, h15, X15, e15, W15, st15⟩ := stB X14 hx hZ e14 Ar_b (j := (5 : Int32)) hin15 (g := (mkF m 65 #[.val (.int i1), .val (.long j1), .second, .val (.int i2), .val (.int i3), .val (.ref b), .unset, .unset, .unset] [(.int z5), (.int (5 : Int32)), (.ref b)])) rfl rfl (hb hby at_65)
  have V_b : Arv Z h15 b k_b .byte (6 : Int32) [(.int (nar .byte z0)), (.int (nar .byte z1)), (.int (nar .byte z2)), (.int (nar .byte z3)), (.int (nar .byte z4)), (.int (nar .byte z5))] (.int (0 : Int32)) := Arv.set Ar_b q_b S_b Nn_b H_b G_b (fits_nar_byte _) W15 5 rfl (Nat.le_of_ble_eq_true rfl)
  have Z0 := Nat.le_trans Z0 (Keep.of_wr W15).1
  have N15 := Fr.snoc X15 N13 g_b
  refine own_via st15 ?_
  show own_G _ _ _ _ (T15.setTop (mkF m 66 #[.val (.int i1), .val (.long j1), .second, .val (.int i2), .val (.int i3), .val (.ref b), .unset, .unset, .unset] []))
  refine own_via (fun _ k => XS.iloadN X15.here hx rfl (hb hby at_66) rfl k) ?_
  show own_G _ _ _ _ (T15.setTop (mkF m 67 #[.val (.int i1), .val (.long j1), .second, .val (.int i2), .val (.int i3), .val (.ref b), .unset, .unset, .unset] [(.int i2)]))
  refine own_via (fun _ k => X15.ldcInt hx hown (mvT hZ (hw _ (List.mem_of_getElem? (i := 5) rfl))) (g := (mkF m 67 #[.val (.int i1), .val (.long j1), .second, .val (.int i2), .val (.int i3), .val (.ref b), .unset, .unset, .unset] [(.int i2)])) rfl (hb hby at_67) _ k) ?_
  show own_G _ _ _ _ (T15.setTop (mkF m 69 #[.val (.int i1), .val (.long j1), .second, .val (.int i2), .val (.int i3), .val (.ref b), .unset, .unset, .unset] [(.int (2147483647 : Int32)), (.int i2)]))
  refine own_via (fun _ k => XS.iand X15.here hx rfl (hb hby at_69) rfl k) ?_
  show own_G _ _ _ _ (T15.setTop (mkF m 70 #[.val (.int i1), .val (.long j1), .second, .val (.int i2), .val (.int i3), .val (.ref b), .unset, .unset, .unset] [(.int (i2 &&& (2147483647 : Int32)))]))
  refine own_via (fun _ k => XS.bipush X15.here hx rfl (hb hby at_70) k) ?_
  show own_G _ _ _ _ (T15.setTop (mkF m 72 #[.val (.int i1), .val (.long j1), .second, .val (.int i2), .val (.int i3), .val (.ref b), .unset, .unset, .unset] [(.int (6 : Int32)), (.int (i2 &&& (2147483647 : Int32)))]))
  refine own_via (fun _ k => iremM X15 hx rfl (hb hby at_72) rfl (by decide) k) ?_
  show own_G _ _ _ _ (T15.setTop (mkF m 73 #[.val (.int i1), .val (.long j1), .second, .val (.int i2), .val (.int i3), .val (.ref b), .unset, .unset, .unset] [(.int ((i2 &&& (2147483647 : Int32)) % (6 : Int32)))]))
  refine own_via (fun _ k => XS.istore X15.here hx rfl (hb hby at_73) rfl (l' := #[.val (.int i1), .val (.long j1), .second, .val (.int i2), .val (.int i3), .val (.ref b), .val (.int ((i2 &&& (2147483647 : Int32)) % (6 : Int32))), .unset, .unset]) rfl k) ?_
  show own_G _ _ _ _ (T15.setTop (mkF m 75 #[.val (.int i1), .val (.long j1), .second, .val (.int i2), .val (.int i3), .val (.ref b), .val (.int ((i2 &&& (2147483647 : Int32)) % (6 : Int32))), .unset, .unset] []))
  have m1 : (i2 &&& (2147483647 : Int32)).toInt = i2.toInt % 2 ^ 31 := Jvm.Kit.i32_mask i2 2147483647 (by decide) (by decide)
  have m2 : (i3 &&& (2147483647 : Int32)).toInt = i3.toInt % 2 ^ 31 := Jvm.Kit.i32_mask i3 2147483647 (by decide) (by decide)
  have s1 : ((i2 &&& (2147483647 : Int32)) % (6 : Int32)).toInt = (i2 &&& (2147483647 : Int32)).toInt % 6 := Jvm.Kit.i32_rem_nonneg (by omega)
  obtain ⟨S, hS⟩ : ∃ z, z = ((i2 &&& (2147483647 : Int32)) % (6 : Int32)) := ⟨_, rfl⟩
  rw [← hS] at s1 ⊢
  show own_G _ _ _ _ (T15.setTop (mkF m 75 #[.val (.int i1), .val (.long j1), .second, .val (.int i2), .val (.int i3), .val (.ref b), .val (.int S), .unset, .unset] []))
  have s3 : ((6 : Int32) - S).toInt = 6 - S.toInt := Jvm.Kit.i32_sub (by simp; omega) (by simp; omega)
  refine own_via (fun _ k => XS.iload X15.here hx rfl (hb hby at_75) rfl k) ?_
  show own_G _ _ _ _ (T15.setTop (mkF m 77 #[.val (.int i1), .val (.long j1), .second, .val (.int i2), .val (.int i3), .val (.ref b), .val (.int S), .unset, .unset] [(.int S)]))
  refine own_via (fun _ k => XS.iconst X15.here hx rfl (hb hby at_77) k) ?_
  show own_G _ _ _ _ (T15.setTop (mkF m 78 #[.val (.int i1), .val (.long j1), .second, .val (.int i2), .val (.int i3), .val (.ref b), .val (.int S), .unset, .unset] [(.int (1 : Int32)), (.int S)]))
  refine own_via (fun _ k => XS.iadd X15.here hx rfl (hb hby at_78) rfl k) ?_
  show own_G _ _ _ _ (T15.setTop (mkF m 79 #[.val (.int i1), .val (.long j1), .second, .val (.int i2), .val (.int i3), .val (.ref b), .val (.int S), .unset, .unset] [(.int (S + (1 : Int32)))]))
  refine own_via (fun _ k => XS.iload X15.here hx rfl (hb hby at_79) rfl k) ?_
  show own_G _ _ _ _ (T15.setTop (mkF m 81 #[.val (.int i1), .val (.long j1), .second, .val (.int i2), .val (.int i3), .val (.ref b), .val (.int S), .unset, .unset] [(.int i3), (.int (S + (1 : Int32)))]))
  refine own_via (fun _ k => X15.ldcInt hx hown (mvT hZ (hw _ (List.mem_of_getElem? (i := 5) rfl))) (g := (mkF m 81 #[.val (.int i1), .val (.long j1), .second, .val (.int i2), .val (.int i3), .val (.ref b), .val (.int S), .unset, .unset] [(.int i3), (.int (S + (1 : Int32)))])) rfl (hb hby at_81) _ k) ?_
  show own_G _ _ _ _ (T15.setTop (mkF m 83 #[.val (.int i1), .val (.long j1), .second, .val (.int i2), .val (.int i3), .val (.ref b), .val (.int S), .unset, .unset] [(.int (2147483647 : Int32)), (.int i3), (.int (S + (1 : Int32)))]))
  refine own_via (fun _ k => XS.iand X15.here hx rfl (hb hby at_83) rfl k) ?_
  show own_G _ _ _ _ (T15.setTop (mkF m 84 #[.val (.int i1), .val (.long j1), .second, .val (.int i2), .val (.int i3), .val (.ref b), .val (.int S), .unset, .unset] [(.int (i3 &&& (2147483647 : Int32))), (.int (S + (1 : Int32)))]))
  refine own_via (fun _ k => XS.bipush X15.here hx rfl (hb hby at_84) k) ?_
  show own_G _ _ _ _ (T15.setTop (mkF m 86 #[.val (.int i1), .val (.long j1), .second, .val (.int i2), .val (.int i3), .val (.ref b), .val (.int S), .unset, .unset] [(.int (6 : Int32)), (.int (i3 &&& (2147483647 : Int32))), (.int (S + (1 : Int32)))]))
  refine own_via (fun _ k => XS.iload X15.here hx rfl (hb hby at_86) rfl k) ?_
  show own_G _ _ _ _ (T15.setTop (mkF m 88 #[.val (.int i1), .val (.long j1), .second, .val (.int i2), .val (.int i3), .val (.ref b), .val (.int S), .unset, .unset] [(.int S), (.int (6 : Int32)), (.int (i3 &&& (2147483647 : Int32))), (.int (S + (1 : Int32)))]))
  refine own_via (fun _ k => XS.isub X15.here hx rfl (hb hby at_88) rfl k) ?_
  show own_G _ _ _ _ (T15.setTop (mkF m 89 #[.val (.int i1), .val (.long j1), .second, .val (.int i2), .val (.int i3), .val (.ref b), .val (.int S), .unset, .unset] [(.int ((6 : Int32) - S)), (.int (i3 &&& (2147483647 : Int32))), (.int (S + (1 : Int32)))]))
  refine own_via (fun _ k => iremM X15 hx rfl (hb hby at_89) rfl (fun q => by rw [q] at s3; simp at s3; omega) k) ?_
  show own_G _ _ _ _ (T15.setTop (mkF m 90 #[.val (.int i1), .val (.long j1), .second, .val (.int i2), .val (.int i3), .val (.ref b), .val (.int S), .unset, .unset] [(.int ((i3 &&& (2147483647 : Int32)) % ((6 : Int32) - S))), (.int (S + (1 : Int32)))]))
  refine own_via (fun _ k => XS.iadd X15.here hx rfl (hb hby at_90) rfl k) ?_
  show own_G _ _ _ _ (T15.setTop (mkF m 91 #[.val (.int i1), .val (.long j1), .second, .val (.int i2), .val (.int i3), .val (.ref b), .val (.int S), .unset, .unset] [(.int ((S + (1 : Int32)) + ((i3 &&& (2147483647 : Int32)) % ((6 : Int32) - S))))]))
  refine own_via (fun _ k => XS.istore X15.here hx rfl (hb hby at_91) rfl (l' := #[.val (.int i1), .val (.long j1), .second, .val (.int i2), .val (.int i3), .val (.ref b), .val (.int S), .val (.int ((S + (1 : Int32)) + ((i3 &&& (2147483647 : Int32)) % ((6 : Int32) - S)))), .unset]) rfl k) ?_
  show own_G _ _ _ _ (T15.setTop (mkF m 93 #[.val (.int i1), .val (.long j1), .second, .val (.int i2), .val (.int i3), .val (.ref b), .val (.int S), .val (.int ((S + (1 : Int32)) + ((i3 &&& (2147483647 : Int32)) % ((6 : Int32) - S)))), .unset] []))
  have s4 : ((i3 &&& (2147483647 : Int32)) % ((6 : Int32) - S)).toInt = (i3 &&& (2147483647 : Int32)).toInt % ((6 : Int32) - S).toInt := Jvm.Kit.i32_rem_nonneg (by omega)
  have s5 := Int.emod_nonneg (i3 &&& (2147483647 : Int32)).toInt (show ((6 : Int32) - S).toInt ≠ 0 by omega)
  have s6 := Int.emod_lt_of_pos (i3 &&& (2147483647 : Int32)).toInt (show 0 < ((6 : Int32) - S).toInt by omega)
  rw [← s4] at s5 s6
  have s7 := own_inc S (by omega)
  have s8 : ((S + (1 : Int32)) + ((i3 &&& (2147483647 : Int32)) % ((6 : Int32) - S))).toInt = (S + (1 : Int32)).toInt + _ := Jvm.Kit.i32_add (by omega) (by omega)
  obtain ⟨E, hE⟩ : ∃ z, z = ((S + (1 : Int32)) + ((i3 &&& (2147483647 : Int32)) % ((6 : Int32) - S))) := ⟨_, rfl⟩
  rw [← hE] at s8 ⊢
  show own_G _ _ _ _ (T15.setTop (mkF m 93 #[.val (.int i1), .val (.long j1), .second, .val (.int i2), .val (.int i3), .val (.ref b), .val (.int S), .val (.int E), .unset] []))
  have sc := own_clamp S (by omega)
  refine own_via (fun _ k => XS.aload X15.here hx rfl (hb hby at_93) rfl rfl k) ?_
  show own_G _ _ _ _ (T15.setTop (mkF m 95 #[.val (.int i1), .val (.long j1), .second, .val (.int i2), .val (.int i3), .val (.ref b), .val (.int S), .val (.int E), .unset] [(.ref b)]))
  refine own_via (fun _ k => XS.iload X15.here hx rfl (hb hby at_95) rfl k) ?_
  show own_G _ _ _ _ (T15.setTop (mkF m 97 #[.val (.int i1), .val (.long j1), .second, .val (.int i2), .val (.int i3), .val (.ref b), .val (.int S), .val (.int E), .unset] [(.int S), (.ref b)]))
  refine own_via (fun _ k => XS.bipush X15.here hx rfl (hb hby at_97) k) ?_
  show own_G _ _ _ _ (T15.setTop (mkF m 99 #[.val (.int i1), .val (.long j1), .second, .val (.int i2), .val (.int i3), .val (.ref b), .val (.int S), .val (.int E), .unset] [(.int (42 : Int32)), (.int S), (.ref b)]))
  obtain ⟨cl_b, Ar_b, q_b, S_b, Nn_b, H_b, G_b⟩ := V_b
  have hin16 : ¬ (S < 0 ∨ cl_b.slots.size ≤ (S).toNatClampNeg) := inb_of S_b (own_inb 6 (by decide) (by omega) (by omega))
  obtain ⟨T16, h16, X16, e16, W16, st16⟩ := stB X15 hx hZ e15 Ar_b (j := S) hin16 (g := (mkF m 99 #[.val (.int i1), .val (.long j1), .second, .val (.int i2), .val (.int i3), .val (.ref b), .val (.int S), .val (.int E), .unset] [(.int (42 : Int32)), (.int S), (.ref b)])) rfl rfl (hb hby at_99)
  have V_b : Arv Z h16 b k_b .byte (6 : Int32) (List.set ([(.int (nar .byte z0)), (.int (nar .byte z1)), (.int (nar .byte z2)), (.int (nar .byte z3)), (.int (nar .byte z4)), (.int (nar .byte z5))] : List Value) S.toNatClampNeg (.int (nar .byte (42 : Int32)))) (.int (0 : Int32)) := Arv.set Ar_b q_b S_b Nn_b H_b G_b (fits_nar_byte _) W16 S.toNatClampNeg rfl (by show S.toNatClampNeg < 6; omega)
  have Z0 := Nat.le_trans Z0 (Keep.of_wr W16).1
  have N16 := Fr.snoc X16 N15 g_b
  refine own_via st16 ?_
  show own_G _ _ _ _ (T16.setTop (mkF m 100 #[.val (.int i1), .val (.long j1), .second, .val (.int i2), .val (.int i3), .val (.ref b), .val (.int S), .val (.int E), .unset] []))
  obtain ⟨f, hfd⟩ : ∃ f : Nat → Int32, f = fun j => (List.set ([nar .byte z0, nar .byte z1, nar .byte z2, nar .byte z3, nar .byte z4, nar .byte z5] : List Int32) S.toNatClampNeg (nar .byte (42 : Int32))).getD j 0 := ⟨_, rfl⟩
  have hf : ∀ j : Nat, (List.set ([(.int (nar .byte z0)), (.int (nar .byte z1)), (.int (nar .byte z2)), (.int (nar .byte z3)), (.int (nar .byte z4)), (.int (nar .byte z5))] : List Value) S.toNatClampNeg (.int (nar .byte (42 : Int32)))).getD j (.int (0 : Int32)) = .int (f j) := fun j => by rw [hfd]; exact own_getS [nar .byte z0, nar .byte z1, nar .byte z2, nar .byte z3, nar .byte z4, nar .byte z5] _ _ j
  refine own_via (fun _ k => XS.aload X16.here hx rfl (hb hby at_100) rfl rfl k) ?_
  show own_G _ _ _ _ (T16.setTop (mkF m 102 #[.val (.int i1), .val (.long j1), .second, .val (.int i2), .val (.int i3), .val (.ref b), .val (.int S), .val (.int E), .unset] [(.ref b)]))
  refine own_via (fun _ k => XS.iload X16.here hx rfl (hb hby at_102) rfl k) ?_
  show own_G _ _ _ _ (T16.setTop (mkF m 104 #[.val (.int i1), .val (.long j1), .second, .val (.int i2), .val (.int i3), .val (.ref b), .val (.int S), .val (.int E), .unset] [(.int S), (.ref b)]))
  refine own_via (fun _ k => XS.iload X16.here hx rfl (hb hby at_104) rfl k) ?_
  show own_G _ _ _ _ (T16.setTop (mkF m 106 #[.val (.int i1), .val (.long j1), .second, .val (.int i2), .val (.int i3), .val (.ref b), .val (.int S), .val (.int E), .unset] [(.int E), (.int S), (.ref b)]))
  obtain ⟨_, _, ⟨T17, L17, k17, n17⟩, -, X17, ⟨Lc17, hQ17, l17, y17, z17⟩, st17⟩ := Jvm.LawKit.callS X16 hx (y := (⟨"com/example/librobots/librobots/PathPattern", "lastRunStart", "([BII)I"⟩ : MethodName)) hown (mvT hZ (hw _ (List.mem_of_getElem? (i := 6) rfl))) (mvT hZ (hw _ (List.mem_of_getElem? (i := 7) rfl))) (mvT hZ (hw _ (List.mem_of_getElem? (i := 8) rfl))) (mvT hZ (hw _ (List.mem_of_getElem? (i := 9) rfl))) (by decide) (backOf (W := 0) (rm6 l Z a0 hw [] b S E f k_b (List.set ([(.int (nar .byte z0)), (.int (nar .byte z1)), (.int (nar .byte z2)), (.int (nar .byte z3)), (.int (nar .byte z4)), (.int (nar .byte z5))] : List Value) S.toNatClampNeg (.int (nar .byte (42 : Int32)))) h16 n0 Z0 V_b hf (by omega) (by omega) (by omega)) hZ (hw _ (List.mem_of_getElem? (i := 9) rfl)) (hw _ (List.mem_of_getElem? (i := 8) rfl)) (by decide) (by decide)) (g := (mkF m 106 #[.val (.int i1), .val (.long j1), .second, .val (.int i2), .val (.int i3), .val (.ref b), .val (.int S), .val (.int E), .unset] [(.int E), (.int S), (.ref b)])) rfl (by rw [hml]; rfl) (argsL := [(.ref b), (.int S), (.int E)]) (rest := []) (lenOf pd_1 rfl) rfl (by show 2 * 0 + _ ≤ _; exact Nat.le_of_eq rfl) (hb hby at_106) (fun _ _ => ⟨rfl, e16, Nat.le_of_ble_eq_true rfl, Nat.le_of_ble_eq_true rfl⟩)
  dsimp only [Pt.U, Pt.locs, Pt.cells, Pt.slots] at X17 l17 y17 z17 st17 hQ17
  subst l17 y17 z17
  obtain ⟨r, rfl, N17q, e17, hr⟩ := hQ17
  have N17 := Fr.app N16 N17q
  refine own_via st17 ?_
  show own_G _ _ _ _ (T17.setTop (mkF m 109 #[.val (.int i1), .val (.long j1), .second, .val (.int i2), .val (.int i3), .val (.ref b), .val (.int S), .val (.int E), .unset] [(.int r)]))
  obtain ⟨r1, r2, r3, r4⟩ := hr
  refine own_via (fun _ k => XS.istore X17.here hx rfl (hb hby at_109) rfl (l' := #[.val (.int i1), .val (.long j1), .second, .val (.int i2), .val (.int i3), .val (.ref b), .val (.int S), .val (.int E), .val (.int r)]) rfl k) ?_
  show own_G _ _ _ _ (T17.setTop (mkF m 111 #[.val (.int i1), .val (.long j1), .second, .val (.int i2), .val (.int i3), .val (.ref b), .val (.int S), .val (.int E), .val (.int r)] []))
  refine own_via (fun _ k => XS.iload X17.here hx rfl (hb hby at_111) rfl k) ?_
  show own_G _ _ _ _ (T17.setTop (mkF m 113 #[.val (.int i1), .val (.long j1), .second, .val (.int i2), .val (.int i3), .val (.ref b), .val (.int S), .val (.int E), .val (.int r)] [(.int r)]))
  refine own_via (fun _ k => XS.iload X17.here hx rfl (hb hby at_113) rfl k) ?_
  show own_G _ _ _ _ (T17.setTop (mkF m 115 #[.val (.int i1), .val (.long j1), .second, .val (.int i2), .val (.int i3), .val (.ref b), .val (.int S), .val (.int E), .val (.int r)] [(.int S), (.int r)]))
  refine own_via (fun _ k => XS.icmpNo X17.here hx rfl (hb hby at_115) rfl (tlt (own_lt32.mpr r1)).2.2.2 k) ?_
  show own_G _ _ _ _ (T17.setTop (mkF m 118 #[.val (.int i1), .val (.long j1), .second, .val (.int i2), .val (.int i3), .val (.ref b), .val (.int S), .val (.int E), .val (.int r)] []))
  refine own_via (fun _ k => XS.iload X17.here hx rfl (hb hby at_118) rfl k) ?_
  show own_G _ _ _ _ (T17.setTop (mkF m 120 #[.val (.int i1), .val (.long j1), .second, .val (.int i2), .val (.int i3), .val (.ref b), .val (.int S), .val (.int E), .val (.int r)] [(.int r)]))
  refine own_via (fun _ k => XS.iload X17.here hx rfl (hb hby at_120) rfl k) ?_
  show own_G _ _ _ _ (T17.setTop (mkF m 122 #[.val (.int i1), .val (.long j1), .second, .val (.int i2), .val (.int i3), .val (.ref b), .val (.int S), .val (.int E), .val (.int r)] [(.int E), (.int r)]))
  refine own_via (fun _ k => XS.icmpYes X17.here hx rfl (pc0 := 122) (pc' := 127) rfl (hb hby at_122) rfl (flt (by rw [own_lt32]; omega)).2.2.2 (by decide) (by decide) k) ?_
  show own_G _ _ _ _ (T17.setTop (mkF m 127 #[.val (.int i1), .val (.long j1), .second, .val (.int i2), .val (.int i3), .val (.ref b), .val (.int S), .val (.int E), .val (.int r)] []))
  refine own_via (fun _ k => XS.iload X17.here hx rfl (hb hby at_127) rfl k) ?_
  show own_G _ _ _ _ (T17.setTop (mkF m 129 #[.val (.int i1), .val (.long j1), .second, .val (.int i2), .val (.int i3), .val (.ref b), .val (.int S), .val (.int E), .val (.int r)] [(.int r)]))
  refine own_via (fun _ k => XS.iload X17.here hx rfl (hb hby at_129) rfl k) ?_
  show own_G _ _ _ _ (T17.setTop (mkF m 131 #[.val (.int i1), .val (.long j1), .second, .val (.int i2), .val (.int i3), .val (.ref b), .val (.int S), .val (.int E), .val (.int r)] [(.int S), (.int r)]))
  refine own_via (fun _ k => XS.iconst X17.here hx rfl (hb hby at_131) k) ?_
  show own_G _ _ _ _ (T17.setTop (mkF m 132 #[.val (.int i1), .val (.long j1), .second, .val (.int i2), .val (.int i3), .val (.ref b), .val (.int S), .val (.int E), .val (.int r)] [(.int (1 : Int32)), (.int S), (.int r)]))
  refine own_via (fun _ k => XS.iadd X17.here hx rfl (hb hby at_132) rfl k) ?_
  show own_G _ _ _ _ (T17.setTop (mkF m 133 #[.val (.int i1), .val (.long j1), .second, .val (.int i2), .val (.int i3), .val (.ref b), .val (.int S), .val (.int E), .val (.int r)] [(.int (S + (1 : Int32))), (.int r)]))
  refine own_join (fun q0 : Unit => True) (fun q0 : Unit => T17.setTop (mkF m 150 #[.val (.int i1), .val (.long j1), .second, .val (.int i2), .val (.int i3), .val (.ref b), .val (.int S), .val (.int E), .val (.int r)] [])) (fun F' kk => ?_) (fun q hq => ?_)
  · show own_G _ _ _ _ (T17.setTop (mkF m 133 #[.val (.int i1), .val (.long j1), .second, .val (.int i2), .val (.int i3), .val (.ref b), .val (.int S), .val (.int E), .val (.int r)] [(.int (S + (1 : Int32))), (.int r)]))
    by_cases hre : r = (S + (1 : Int32))
    · refine own_via (fun _ k => XS.icmpYes X17.here hx rfl (pc0 := 133) (pc' := 150) rfl (hb hby at_133) rfl (teq hre).1 (by decide) (by decide) k) ?_
      show own_G _ _ _ _ (T17.setTop (mkF m 150 #[.val (.int i1), .val (.long j1), .second, .val (.int i2), .val (.int i3), .val (.ref b), .val (.int S), .val (.int E), .val (.int r)] []))
      exact kk (()) trivial
    · refine own_via (fun _ k => XS.icmpNo X17.here hx rfl (hb hby at_133) rfl (feq hre).1 k) ?_
      show own_G _ _ _ _ (T17.setTop (mkF m 136 #[.val (.int i1), .val (.long j1), .second, .val (.int i2), .val (.int i3), .val (.ref b), .val (.int S), .val (.int E), .val (.int r)] []))
      refine own_via (fun _ k => XS.aload X17.here hx rfl (hb hby at_136) rfl rfl k) ?_
      show own_G _ _ _ _ (T17.setTop (mkF m 138 #[.val (.int i1), .val (.long j1), .second, .val (.int i2), .val (.int i3), .val (.ref b), .val (.int S), .val (.int E), .val (.int r)] [(.ref b)]))
      refine own_via (fun _ k => XS.iload X17.here hx rfl (hb hby at_138) rfl k) ?_
      show own_G _ _ _ _ (T17.setTop (mkF m 140 #[.val (.int i1), .val (.long j1), .second, .val (.int i2), .val (.int i3), .val (.ref b), .val (.int S), .val (.int E), .val (.int r)] [(.int r), (.ref b)]))
      refine own_via (fun _ k => XS.iconst X17.here hx rfl (hb hby at_140) k) ?_
      show own_G _ _ _ _ (T17.setTop (mkF m 141 #[.val (.int i1), .val (.long j1), .second, .val (.int i2), .val (.int i3), .val (.ref b), .val (.int S), .val (.int E), .val (.int r)] [(.int (1 : Int32)), (.int r), (.ref b)]))
      refine own_via (fun _ k => XS.isub X17.here hx rfl (hb hby at_141) rfl k) ?_
      show own_G _ _ _ _ (T17.setTop (mkF m 142 #[.val (.int i1), .val (.long j1), .second, .val (.int i2), .val (.int i3), .val (.ref b), .val (.int S), .val (.int E), .val (.int r)] [(.int (r - (1 : Int32))), (.ref b)]))
      have hre1 : ¬ r.toInt = (S + (1 : Int32)).toInt := fun z => hre (own_eq32.mpr z)
      have hrd : (r - (1 : Int32)).toInt = r.toInt - 1 := Jvm.Kit.i32_sub (by simp; omega) (by simp; omega)
      have hrc := own_clamp (r - (1 : Int32)) (by omega)
      obtain ⟨cl18, Ar18, -, Sz18, Nn18, Hh18, -⟩ := id V_b
      have hin18 : ¬ ((r - (1 : Int32)) < 0 ∨ cl18.slots.size ≤ ((r - (1 : Int32))).toNatClampNeg) := inb_of Sz18 (own_inb 6 (by decide) (by omega) (by omega))
      have hat18 : cl18.slots[((r - (1 : Int32))).toNatClampNeg]? = some (.int (f (r - (1 : Int32)).toNatClampNeg)) := Has.at Hh18 hin18 (hf _)
      refine own_via (fun _ k => X17.baloadBytes hx (j := (r - (1 : Int32))) (v := (.int (f (r - (1 : Int32)).toNatClampNeg))) (by rw [e17]; exact Ar18.1) (State.isArrayOf_alike hZ.alike Ar18.2.1) Ar18.2.2 hin18 hat18 (g := (mkF m 142 #[.val (.int i1), .val (.long j1), .second, .val (.int i2), .val (.int i3), .val (.ref b), .val (.int S), .val (.int E), .val (.int r)] [(.int (r - (1 : Int32))), (.ref b)])) rfl rfl (hb hby at_142) _ k) ?_
      show own_G _ _ _ _ (T17.setTop (mkF m 143 #[.val (.int i1), .val (.long j1), .second, .val (.int i2), .val (.int i3), .val (.ref b), .val (.int S), .val (.int E), .val (.int r)] [(.int (f (r - (1 : Int32)).toNatClampNeg))]))
      refine own_via (fun _ k => XS.bipush X17.here hx rfl (hb hby at_143) k) ?_
      show own_G _ _ _ _ (T17.setTop (mkF m 145 #[.val (.int i1), .val (.long j1), .second, .val (.int i2), .val (.int i3), .val (.ref b), .val (.int S), .val (.int E), .val (.int r)] [(.int (42 : Int32)), (.int (f (r - (1 : Int32)).toNatClampNeg))]))
      refine own_via (fun _ k => XS.icmpYes X17.here hx rfl (pc0 := 145) (pc' := 150) rfl (hb hby at_145) rfl (teq (by rw [show (r - (1 : Int32)).toNatClampNeg = (r.toInt - 1).toNat from by omega]; exact r3 (by omega))).1 (by decide) (by decide) k) ?_
      show own_G _ _ _ _ (T17.setTop (mkF m 150 #[.val (.int i1), .val (.long j1), .second, .val (.int i2), .val (.int i3), .val (.ref b), .val (.int S), .val (.int E), .val (.int r)] []))
      exact kk (()) trivial
  · obtain ⟨q0, rfl⟩ : ∃ z, z = q := ⟨_, rfl⟩
    show own_G _ _ _ _ (T17.setTop (mkF m 150 #[.val (.int i1), .val (.long j1), .second, .val (.int i2), .val (.int i3), .val (.ref b), .val (.int S), .val (.int E), .val (.int r)] []))
    refine own_via (fun _ k => XS.aload X17.here hx rfl (hb hby at_150) rfl rfl k) ?_
    show own_G _ _ _ _ (T17.setTop (mkF m 152 #[.val (.int i1), .val (.long j1), .second, .val (.int i2), .val (.int i3), .val (.ref b), .val (.int S), .val (.int E), .val (.int r)] [(.ref b)]))
    refine own_via (fun _ k => XS.iconst X17.here hx rfl (hb hby at_152) k) ?_
    show own_G _ _ _ _ (T17.setTop (mkF m 153 #[.val (.int i1), .val (.long j1), .second, .val (.int i2), .val (.int i3), .val (.ref b), .val (.int S), .val (.int E), .val (.int r)] [(.int (0 : Int32)), (.ref b)]))
    refine own_via (fun _ k => XS.iload X17.here hx rfl (hb hby at_153) rfl k) ?_
    show own_G _ _ _ _ (T17.setTop (mkF m 155 #[.val (.int i1), .val (.long j1), .second, .val (.int i2), .val (.int i3), .val (.ref b), .val (.int S), .val (.int E), .val (.int r)] [(.int r), (.int (0 : Int32)), (.ref b)]))
    refine own_via (fun _ k => XS.iload X17.here hx rfl (hb hby at_155) rfl k) ?_
    show own_G _ _ _ _ (T17.setTop (mkF m 157 #[.val (.int i1), .val (.long j1), .second, .val (.int i2), .val (.int i3), .val (.ref b), .val (.int S), .val (.int E), .val (.int r)] [(.int E), (.int r), (.int (0 : Int32)), (.ref b)]))
    obtain ⟨_, _, ⟨T19, L19, k19, n19⟩, -, X19, ⟨Lc19, hQ19, l19, y19, z19⟩, st19⟩ := Jvm.LawKit.callS X17 hx (y := (⟨"com/example/librobots/librobots/PathPatternLastRunStartPinLaw", "starAfter", "([BIII)Z"⟩ : MethodName)) hown (mvT hZ (hw _ (List.mem_of_getElem? (i := 10) rfl))) (mvT hZ (hw _ (List.mem_of_getElem? (i := 11) rfl))) (mvT hZ (hw _ (List.mem_of_getElem? (i := 3) rfl))) (mvT hZ (hw _ (List.mem_of_getElem? (i := 12) rfl))) (by decide) (backOf (W := 0) (rm3 l Z a0 hw [] b (0 : Int32) r E f k_b (List.set ([(.int (nar .byte z0)), (.int (nar .byte z1)), (.int (nar .byte z2)), (.int (nar .byte z3)), (.int (nar .byte z4)), (.int (nar .byte z5))] : List Value) S.toNatClampNeg (.int (nar .byte (42 : Int32)))) h16 n0 Z0 V_b hf (by decide) (by decide) (fun u1 u2 => r4 0 u1 u2)) hZ (hw _ (List.mem_of_getElem? (i := 12) rfl)) (hw _ (List.mem_of_getElem? (i := 3) rfl)) (by decide) (by decide)) (g := (mkF m 157 #[.val (.int i1), .val (.long j1), .second, .val (.int i2), .val (.int i3), .val (.ref b), .val (.int S), .val (.int E), .val (.int r)] [(.int E), (.int r), (.int (0 : Int32)), (.ref b)])) rfl (by rw [hml]; rfl) (argsL := [(.ref b), (.int (0 : Int32)), (.int r), (.int E)]) (rest := []) (lenOf pd_2 rfl) rfl (by show 2 * 0 + _ ≤ _; exact Nat.le_of_eq rfl) (hb hby at_157) (fun _ _ => ⟨rfl, e17, Nat.le_of_ble_eq_true rfl, Nat.le_of_ble_eq_true rfl⟩)
    dsimp only [Pt.U, Pt.locs, Pt.cells, Pt.slots] at X19 l19 y19 z19 st19 hQ19
    subst l19 y19 z19
    obtain ⟨rfl, N19q, e19⟩ := hQ19
    have N19 := Fr.app N17 N19q
    refine own_via st19 ?_
    show own_G _ _ _ _ (T19.setTop (mkF m 160 #[.val (.int i1), .val (.long j1), .second, .val (.int i2), .val (.int i3), .val (.ref b), .val (.int S), .val (.int E), .val (.int r)] [(.int (0 : Int32))]))
    refine own_via (fun _ k => XS.ifNo X19.here hx rfl (hb hby at_160) rfl ((if0 _ _).trans (teq (by decide)).2) k) ?_
    show own_G _ _ _ _ (T19.setTop (mkF m 163 #[.val (.int i1), .val (.long j1), .second, .val (.int i2), .val (.int i3), .val (.ref b), .val (.int S), .val (.int E), .val (.int r)] []))
    refine own_via (fun _ k => XS.aload X19.here hx rfl (hb hby at_163) rfl rfl k) ?_
    show own_G _ _ _ _ (T19.setTop (mkF m 165 #[.val (.int i1), .val (.long j1), .second, .val (.int i2), .val (.int i3), .val (.ref b), .val (.int S), .val (.int E), .val (.int r)] [(.ref b)]))
    refine own_via (fun _ k => XS.iconst X19.here hx rfl (hb hby at_165) k) ?_
    show own_G _ _ _ _ (T19.setTop (mkF m 166 #[.val (.int i1), .val (.long j1), .second, .val (.int i2), .val (.int i3), .val (.ref b), .val (.int S), .val (.int E), .val (.int r)] [(.int (1 : Int32)), (.ref b)]))
    refine own_via (fun _ k => XS.iload X19.here hx rfl (hb hby at_166) rfl k) ?_
    show own_G _ _ _ _ (T19.setTop (mkF m 168 #[.val (.int i1), .val (.long j1), .second, .val (.int i2), .val (.int i3), .val (.ref b), .val (.int S), .val (.int E), .val (.int r)] [(.int r), (.int (1 : Int32)), (.ref b)]))
    refine own_via (fun _ k => XS.iload X19.here hx rfl (hb hby at_168) rfl k) ?_
    show own_G _ _ _ _ (T19.setTop (mkF m 170 #[.val (.int i1), .val (.long j1), .second, .val (.int i2), .val (.int i3), .val (.ref b), .val (.int S), .val (.int E), .val (.int r)] [(.int E), (.int r), (.int (1 : Int32)), (.ref b)]))
    obtain ⟨_, _, ⟨T20, L20, k20, n20⟩, -, X20, ⟨Lc20, hQ20, l20, y20, z20⟩, st20⟩ := Jvm.LawKit.callS X19 hx (y := (⟨"com/example/librobots/librobots/PathPatternLastRunStartPinLaw", "starAfter", "([BIII)Z"⟩ : MethodName)) hown (mvT hZ (hw _ (List.mem_of_getElem? (i := 10) rfl))) (mvT hZ (hw _ (List.mem_of_getElem? (i := 11) rfl))) (mvT hZ (hw _ (List.mem_of_getElem? (i := 3) rfl))) (mvT hZ (hw _ (List.mem_of_getElem? (i := 12) rfl))) (by decide) (backOf (W := 0) (rm3 l Z a0 hw [] b (1 : Int32) r E f k_b (List.set ([(.int (nar .byte z0)), (.int (nar .byte z1)), (.int (nar .byte z2)), (.int (nar .byte z3)), (.int (nar .byte z4)), (.int (nar .byte z5))] : List Value) S.toNatClampNeg (.int (nar .byte (42 : Int32)))) h16 n0 Z0 V_b hf (by decide) (by decide) (fun u1 u2 => r4 1 u1 u2)) hZ (hw _ (List.mem_of_getElem? (i := 12) rfl)) (hw _ (List.mem_of_getElem? (i := 3) rfl)) (by decide) (by decide)) (g := (mkF m 170 #[.val (.int i1), .val (.long j1), .second, .val (.int i2), .val (.int i3), .val (.ref b), .val (.int S), .val (.int E), .val (.int r)] [(.int E), (.int r), (.int (1 : Int32)), (.ref b)])) rfl (by rw [hml]; rfl) (argsL := [(.ref b), (.int (1 : Int32)), (.int r), (.int E)]) (rest := []) (lenOf pd_2 rfl) rfl (by show 2 * 0 + _ ≤ _; exact Nat.le_of_eq rfl) (hb hby at_170) (fun _ _ => ⟨rfl, e19, Nat.le_of_ble_eq_true rfl, Nat.le_of_ble_eq_true rfl⟩)
    dsimp only [Pt.U, Pt.locs, Pt.cells, Pt.slots] at X20 l20 y20 z20 st20 hQ20
    subst l20 y20 z20
    obtain ⟨rfl, N20q, e20⟩ := hQ20
    have N20 := Fr.app N19 N20q
    refine own_via st20 ?_
    show own_G _ _ _ _ (T20.setTop (mkF m 173 #[.val (.int i1), .val (.long j1), .second, .val (.int i2), .val (.int i3), .val (.ref b), .val (.int S), .val (.int E), .val (.int r)] [(.int (0 : Int32))]))
    refine own_via (fun _ k => XS.ifNo X20.here hx rfl (hb hby at_173) rfl ((if0 _ _).trans (teq (by decide)).2) k) ?_
    show own_G _ _ _ _ (T20.setTop (mkF m 176 #[.val (.int i1), .val (.long j1), .second, .val (.int i2), .val (.int i3), .val (.ref b), .val (.int S), .val (.int E), .val (.int r)] []))
    refine own_via (fun _ k => XS.aload X20.here hx rfl (hb hby at_176) rfl rfl k) ?_
    show own_G _ _ _ _ (T20.setTop (mkF m 178 #[.val (.int i1), .val (.long j1), .second, .val (.int i2), .val (.int i3), .val (.ref b), .val (.int S), .val (.int E), .val (.int r)] [(.ref b)]))
    refine own_via (fun _ k => XS.iconst X20.here hx rfl (hb hby at_178) k) ?_
    show own_G _ _ _ _ (T20.setTop (mkF m 179 #[.val (.int i1), .val (.long j1), .second, .val (.int i2), .val (.int i3), .val (.ref b), .val (.int S), .val (.int E), .val (.int r)] [(.int (2 : Int32)), (.ref b)]))
    refine own_via (fun _ k => XS.iload X20.here hx rfl (hb hby at_179) rfl k) ?_
    show own_G _ _ _ _ (T20.setTop (mkF m 181 #[.val (.int i1), .val (.long j1), .second, .val (.int i2), .val (.int i3), .val (.ref b), .val (.int S), .val (.int E), .val (.int r)] [(.int r), (.int (2 : Int32)), (.ref b)]))
    refine own_via (fun _ k => XS.iload X20.here hx rfl (hb hby at_181) rfl k) ?_
    show own_G _ _ _ _ (T20.setTop (mkF m 183 #[.val (.int i1), .val (.long j1), .second, .val (.int i2), .val (.int i3), .val (.ref b), .val (.int S), .val (.int E), .val (.int r)] [(.int E), (.int r), (.int (2 : Int32)), (.ref b)]))
    obtain ⟨_, _, ⟨T21, L21, k21, n21⟩, -, X21, ⟨Lc21, hQ21, l21, y21, z21⟩, st21⟩ := Jvm.LawKit.callS X20 hx (y := (⟨"com/example/librobots/librobots/PathPatternLastRunStartPinLaw", "starAfter", "([BIII)Z"⟩ : MethodName)) hown (mvT hZ (hw _ (List.mem_of_getElem? (i := 10) rfl))) (mvT hZ (hw _ (List.mem_of_getElem? (i := 11) rfl))) (mvT hZ (hw _ (List.mem_of_getElem? (i := 3) rfl))) (mvT hZ (hw _ (List.mem_of_getElem? (i := 12) rfl))) (by decide) (backOf (W := 0) (rm3 l Z a0 hw [] b (2 : Int32) r E f k_b (List.set ([(.int (nar .byte z0)), (.int (nar .byte z1)), (.int (nar .byte z2)), (.int (nar .byte z3)), (.int (nar .byte z4)), (.int (nar .byte z5))] : List Value) S.toNatClampNeg (.int (nar .byte (42 : Int32)))) h16 n0 Z0 V_b hf (by decide) (by decide) (fun u1 u2 => r4 2 u1 u2)) hZ (hw _ (List.mem_of_getElem? (i := 12) rfl)) (hw _ (List.mem_of_getElem? (i := 3) rfl)) (by decide) (by decide)) (g := (mkF m 183 #[.val (.int i1), .val (.long j1), .second, .val (.int i2), .val (.int i3), .val (.ref b), .val (.int S), .val (.int E), .val (.int r)] [(.int E), (.int r), (.int (2 : Int32)), (.ref b)])) rfl (by rw [hml]; rfl) (argsL := [(.ref b), (.int (2 : Int32)), (.int r), (.int E)]) (rest := []) (lenOf pd_2 rfl) rfl (by show 2 * 0 + _ ≤ _; exact Nat.le_of_eq rfl) (hb hby at_183) (fun _ _ => ⟨rfl, e20, Nat.le_of_ble_eq_true rfl, Nat.le_of_ble_eq_true rfl⟩)
    dsimp only [Pt.U, Pt.locs, Pt.cells, Pt.slots] at X21 l21 y21 z21 st21 hQ21
    subst l21 y21 z21
    obtain ⟨rfl, N21q, e21⟩ := hQ21
    have N21 := Fr.app N20 N21q
    refine own_via st21 ?_
    show own_G _ _ _ _ (T21.setTop (mkF m 186 #[.val (.int i1), .val (.long j1), .second, .val (.int i2), .val (.int i3), .val (.ref b), .val (.int S), .val (.int E), .val (.int r)] [(.int (0 : Int32))]))
    refine own_via (fun _ k => XS.ifNo X21.here hx rfl (hb hby at_186) rfl ((if0 _ _).trans (teq (by decide)).2) k) ?_
    show own_G _ _ _ _ (T21.setTop (mkF m 189 #[.val (.int i1), .val (.long j1), .second, .val (.int i2), .val (.int i3), .val (.ref b), .val (.int S), .val (.int E), .val (.int r)] []))
    refine own_via (fun _ k => XS.aload X21.here hx rfl (hb hby at_189) rfl rfl k) ?_
    show own_G _ _ _ _ (T21.setTop (mkF m 191 #[.val (.int i1), .val (.long j1), .second, .val (.int i2), .val (.int i3), .val (.ref b), .val (.int S), .val (.int E), .val (.int r)] [(.ref b)]))
    refine own_via (fun _ k => XS.iconst X21.here hx rfl (hb hby at_191) k) ?_
    show own_G _ _ _ _ (T21.setTop (mkF m 192 #[.val (.int i1), .val (.long j1), .second, .val (.int i2), .val (.int i3), .val (.ref b), .val (.int S), .val (.int E), .val (.int r)] [(.int (3 : Int32)), (.ref b)]))
    refine own_via (fun _ k => XS.iload X21.here hx rfl (hb hby at_192) rfl k) ?_
    show own_G _ _ _ _ (T21.setTop (mkF m 194 #[.val (.int i1), .val (.long j1), .second, .val (.int i2), .val (.int i3), .val (.ref b), .val (.int S), .val (.int E), .val (.int r)] [(.int r), (.int (3 : Int32)), (.ref b)]))
    refine own_via (fun _ k => XS.iload X21.here hx rfl (hb hby at_194) rfl k) ?_
    show own_G _ _ _ _ (T21.setTop (mkF m 196 #[.val (.int i1), .val (.long j1), .second, .val (.int i2), .val (.int i3), .val (.ref b), .val (.int S), .val (.int E), .val (.int r)] [(.int E), (.int r), (.int (3 : Int32)), (.ref b)]))
    obtain ⟨_, _, ⟨T22, L22, k22, n22⟩, -, X22, ⟨Lc22, hQ22, l22, y22, z22⟩, st22⟩ := Jvm.LawKit.callS X21 hx (y := (⟨"com/example/librobots/librobots/PathPatternLastRunStartPinLaw", "starAfter", "([BIII)Z"⟩ : MethodName)) hown (mvT hZ (hw _ (List.mem_of_getElem? (i := 10) rfl))) (mvT hZ (hw _ (List.mem_of_getElem? (i := 11) rfl))) (mvT hZ (hw _ (List.mem_of_getElem? (i := 3) rfl))) (mvT hZ (hw _ (List.mem_of_getElem? (i := 12) rfl))) (by decide) (backOf (W := 0) (rm3 l Z a0 hw [] b (3 : Int32) r E f k_b (List.set ([(.int (nar .byte z0)), (.int (nar .byte z1)), (.int (nar .byte z2)), (.int (nar .byte z3)), (.int (nar .byte z4)), (.int (nar .byte z5))] : List Value) S.toNatClampNeg (.int (nar .byte (42 : Int32)))) h16 n0 Z0 V_b hf (by decide) (by decide) (fun u1 u2 => r4 3 u1 u2)) hZ (hw _ (List.mem_of_getElem? (i := 12) rfl)) (hw _ (List.mem_of_getElem? (i := 3) rfl)) (by decide) (by decide)) (g := (mkF m 196 #[.val (.int i1), .val (.long j1), .second, .val (.int i2), .val (.int i3), .val (.ref b), .val (.int S), .val (.int E), .val (.int r)] [(.int E), (.int r), (.int (3 : Int32)), (.ref b)])) rfl (by rw [hml]; rfl) (argsL := [(.ref b), (.int (3 : Int32)), (.int r), (.int E)]) (rest := []) (lenOf pd_2 rfl) rfl (by show 2 * 0 + _ ≤ _; exact Nat.le_of_eq rfl) (hb hby at_196) (fun _ _ => ⟨rfl, e21, Nat.le_of_ble_eq_true rfl, Nat.le_of_ble_eq_true rfl⟩)
    dsimp only [Pt.U, Pt.locs, Pt.cells, Pt.slots] at X22 l22 y22 z22 st22 hQ22
    subst l22 y22 z22
    obtain ⟨rfl, N22q, e22⟩ := hQ22
    have N22 := Fr.app N21 N22q
    refine own_via st22 ?_
    show own_G _ _ _ _ (T22.setTop (mkF m 199 #[.val (.int i1), .val (.long j1), .second, .val (.int i2), .val (.int i3), .val (.ref b), .val (.int S), .val (.int E), .val (.int r)] [(.int (0 : Int32))]))
    refine own_via (fun _ k => XS.ifNo X22.here hx rfl (hb hby at_199) rfl ((if0 _ _).trans (teq (by decide)).2) k) ?_
    show own_G _ _ _ _ (T22.setTop (mkF m 202 #[.val (.int i1), .val (.long j1), .second, .val (.int i2), .val (.int i3), .val (.ref b), .val (.int S), .val (.int E), .val (.int r)] []))
    refine own_via (fun _ k => XS.aload X22.here hx rfl (hb hby at_202) rfl rfl k) ?_
    show own_G _ _ _ _ (T22.setTop (mkF m 204 #[.val (.int i1), .val (.long j1), .second, .val (.int i2), .val (.int i3), .val (.ref b), .val (.int S), .val (.int E), .val (.int r)] [(.ref b)]))
    refine own_via (fun _ k => XS.iconst X22.here hx rfl (hb hby at_204) k) ?_
    show own_G _ _ _ _ (T22.setTop (mkF m 205 #[.val (.int i1), .val (.long j1), .second, .val (.int i2), .val (.int i3), .val (.ref b), .val (.int S), .val (.int E), .val (.int r)] [(.int (4 : Int32)), (.ref b)]))
    refine own_via (fun _ k => XS.iload X22.here hx rfl (hb hby at_205) rfl k) ?_
    show own_G _ _ _ _ (T22.setTop (mkF m 207 #[.val (.int i1), .val (.long j1), .second, .val (.int i2), .val (.int i3), .val (.ref b), .val (.int S), .val (.int E), .val (.int r)] [(.int r), (.int (4 : Int32)), (.ref b)]))
    refine own_via (fun _ k => XS.iload X22.here hx rfl (hb hby at_207) rfl k) ?_
    show own_G _ _ _ _ (T22.setTop (mkF m 209 #[.val (.int i1), .val (.long j1), .second, .val (.int i2), .val (.int i3), .val (.ref b), .val (.int S), .val (.int E), .val (.int r)] [(.int E), (.int r), (.int (4 : Int32)), (.ref b)]))
    obtain ⟨_, _, ⟨T23, L23, k23, n23⟩, -, X23, ⟨Lc23, hQ23, l23, y23, z23⟩, st23⟩ := Jvm.LawKit.callS X22 hx (y := (⟨"com/example/librobots/librobots/PathPatternLastRunStartPinLaw", "starAfter", "([BIII)Z"⟩ : MethodName)) hown (mvT hZ (hw _ (List.mem_of_getElem? (i := 10) rfl))) (mvT hZ (hw _ (List.mem_of_getElem? (i := 11) rfl))) (mvT hZ (hw _ (List.mem_of_getElem? (i := 3) rfl))) (mvT hZ (hw _ (List.mem_of_getElem? (i := 12) rfl))) (by decide) (backOf (W := 0) (rm3 l Z a0 hw [] b (4 : Int32) r E f k_b (List.set ([(.int (nar .byte z0)), (.int (nar .byte z1)), (.int (nar .byte z2)), (.int (nar .byte z3)), (.int (nar .byte z4)), (.int (nar .byte z5))] : List Value) S.toNatClampNeg (.int (nar .byte (42 : Int32)))) h16 n0 Z0 V_b hf (by decide) (by decide) (fun u1 u2 => r4 4 u1 u2)) hZ (hw _ (List.mem_of_getElem? (i := 12) rfl)) (hw _ (List.mem_of_getElem? (i := 3) rfl)) (by decide) (by decide)) (g := (mkF m 209 #[.val (.int i1), .val (.long j1), .second, .val (.int i2), .val (.int i3), .val (.ref b), .val (.int S), .val (.int E), .val (.int r)] [(.int E), (.int r), (.int (4 : Int32)), (.ref b)])) rfl (by rw [hml]; rfl) (argsL := [(.ref b), (.int (4 : Int32)), (.int r), (.int E)]) (rest := []) (lenOf pd_2 rfl) rfl (by show 2 * 0 + _ ≤ _; exact Nat.le_of_eq rfl) (hb hby at_209) (fun _ _ => ⟨rfl, e22, Nat.le_of_ble_eq_true rfl, Nat.le_of_ble_eq_true rfl⟩)
    dsimp only [Pt.U, Pt.locs, Pt.cells, Pt.slots] at X23 l23 y23 z23 st23 hQ23
    subst l23 y23 z23
    obtain ⟨rfl, N23q, e23⟩ := hQ23
    have N23 := Fr.app N22 N23q
    refine own_via st23 ?_
    show own_G _ _ _ _ (T23.setTop (mkF m 212 #[.val (.int i1), .val (.long j1), .second, .val (.int i2), .val (.int i3), .val (.ref b), .val (.int S), .val (.int E), .val (.int r)] [(.int (0 : Int32))]))
    refine own_via (fun _ k => XS.ifNo X23.here hx rfl (hb hby at_212) rfl ((if0 _ _).trans (teq (by decide)).2) k) ?_
    show own_G _ _ _ _ (T23.setTop (mkF m 215 #[.val (.int i1), .val (.long j1), .second, .val (.int i2), .val (.int i3), .val (.ref b), .val (.int S), .val (.int E), .val (.int r)] []))
    refine own_via (fun _ k => XS.aload X23.here hx rfl (hb hby at_215) rfl rfl k) ?_
    show own_G _ _ _ _ (T23.setTop (mkF m 217 #[.val (.int i1), .val (.long j1), .second, .val (.int i2), .val (.int i3), .val (.ref b), .val (.int S), .val (.int E), .val (.int r)] [(.ref b)]))
    refine own_via (fun _ k => XS.iconst X23.here hx rfl (hb hby at_217) k) ?_
    show own_G _ _ _ _ (T23.setTop (mkF m 218 #[.val (.int i1), .val (.long j1), .second, .val (.int i2), .val (.int i3), .val (.ref b), .val (.int S), .val (.int E), .val (.int r)] [(.int (5 : Int32)), (.ref b)]))
    refine own_via (fun _ k => XS.iload X23.here hx rfl (hb hby at_218) rfl k) ?_
    show own_G _ _ _ _ (T23.setTop (mkF m 220 #[.val (.int i1), .val (.long j1), .second, .val (.int i2), .val (.int i3), .val (.ref b), .val (.int S), .val (.int E), .val (.int r)] [(.int r), (.int (5 : Int32)), (.ref b)]))
    refine own_via (fun _ k => XS.iload X23.here hx rfl (hb hby at_220) rfl k) ?_
    show own_G _ _ _ _ (T23.setTop (mkF m 222 #[.val (.int i1), .val (.long j1), .second, .val (.int i2), .val (.int i3), .val (.ref b), .val (.int S), .val (.int E), .val (.int r)] [(.int E), (.int r), (.int (5 : Int32)), (.ref b)]))
    obtain ⟨_, _, ⟨T24, L24, k24, n24⟩, -, X24, ⟨Lc24, hQ24, l24, y24, z24⟩, st24⟩ := Jvm.LawKit.callS X23 hx (y := (⟨"com/example/librobots/librobots/PathPatternLastRunStartPinLaw", "starAfter", "([BIII)Z"⟩ : MethodName)) hown (mvT hZ (hw _ (List.mem_of_getElem? (i := 10) rfl))) (mvT hZ (hw _ (List.mem_of_getElem? (i := 11) rfl))) (mvT hZ (hw _ (List.mem_of_getElem? (i := 3) rfl))) (mvT hZ (hw _ (List.mem_of_getElem? (i := 12) rfl))) (by decide) (backOf (W := 0) (rm3 l Z a0 hw [] b (5 : Int32) r E f k_b (List.set ([(.int (nar .byte z0)), (.int (nar .byte z1)), (.int (nar .byte z2)), (.int (nar .byte z3)), (.int (nar .byte z4)), (.int (nar .byte z5))] : List Value) S.toNatClampNeg (.int (nar .byte (42 : Int32)))) h16 n0 Z0 V_b hf (by decide) (by decide) (fun u1 u2 => r4 5 u1 u2)) hZ (hw _ (List.mem_of_getElem? (i := 12) rfl)) (hw _ (List.mem_of_getElem? (i := 3) rfl)) (by decide) (by decide)) (g := (mkF m 222 #[.val (.int i1), .val (.long j1), .second, .val (.int i2), .val (.int i3), .val (.ref b), .val (.int S), .val (.int E), .val (.int r)] [(.int E), (.int r), (.int (5 : Int32)), (.ref b)])) rfl (by rw [hml]; rfl) (argsL := [(.ref b), (.int (5 : Int32)), (.int r), (.int E)]) (rest := []) (lenOf pd_2 rfl) rfl (by show 2 * 0 + _ ≤ _; exact Nat.le_of_eq rfl) (hb hby at_222) (fun _ _ => ⟨rfl, e23, Nat.le_of_ble_eq_true rfl, Nat.le_of_ble_eq_true rfl⟩)
    dsimp only [Pt.U, Pt.locs, Pt.cells, Pt.slots] at X24 l24 y24 z24 st24 hQ24
    subst l24 y24 z24
    obtain ⟨rfl, N24q, e24⟩ := hQ24
    have N24 := Fr.app N23 N24q
    refine own_via st24 ?_
    show own_G _ _ _ _ (T24.setTop (mkF m 225 #[.val (.int i1), .val (.long j1), .second, .val (.int i2), .val (.int i3), .val (.ref b), .val (.int S), .val (.int E), .val (.int r)] [(.int (0 : Int32))]))
    refine own_via (fun _ k => XS.ifYes X24.here hx rfl (pc0 := 225) (pc' := 230) rfl (hb hby at_225) rfl ((if0 _ _).trans (teq (by decide)).1) (by decide) (by decide) k) ?_
    show own_G _ _ _ _ (T24.setTop (mkF m 230 #[.val (.int i1), .val (.long j1), .second, .val (.int i2), .val (.int i3), .val (.ref b), .val (.int S), .val (.int E), .val (.int r)] []))
    refine own_via (fun _ k => XS.iconst X24.here hx rfl (hb hby at_230) k) ?_
    show own_G _ _ _ _ (T24.setTop (mkF m 231 #[.val (.int i1), .val (.long j1), .second, .val (.int i2), .val (.int i3), .val (.ref b), .val (.int S), .val (.int E), .val (.int r)] [(.int (1 : Int32))]))
    obtain ⟨fs, hr, hrun, hended, hW, hsame⟩ := X24.leave (v := some (.int (1 : Int32))) (fun h => by rw [Bd.returns] at h; cases h)
    exact ⟨_, _, retN X24 hx (t := .boolean) Bd.returns (by simp) (hb hby at_231) hr, hrun, hended, _, _, rfl, ⟨rfl, N24⟩, ⟨_, rfl⟩, hW, hsame.mono (by decide) (by decide)⟩
set_option maxRecDepth 65536 in
set_option maxHeartbeats 40000000 in
theorem comes_1 {Post : Tables → Env → Array Value → State → Outcome → State → Prop} (hpost : ∀ tb e args s v u, (limb_1_1.after args s (.returned v) u = true ∧ limb_1_2.after args s (.returned v) u = true ∧ True) → FrameEnd s (.returned v) u (Jvm.fieldLocs frame_1_writes args s ++ Jvm.arrayLocs frame_1_arrays args s ++ Jvm.staticLocs frame_1_statics s) 16 128 → Post tb e args s (.returned v) u) :
    ArmFor flags0 classFile x code maxLocals ret World_1 tables_1 room_1 Calls_1 rest_1 Pre_1 Post := by
  intro l hfl _ _ p e ha hc hk s m args below hf hA hF happ hP
  obtain ⟨hcalls, hrest, hpre⟩ := hP
  obtain ⟨-, -, -, hnamed, -, -, -, hat⟩ := (Spec.applies_iff hf).mp happ
  have hall := flat_of_before _ (show (Jvm.Cond.and given_1 narrow_1).before args s = true from hpre)
  have hKK : own_Kinds [.int, .long, .int, .int] args := by
    refine own_Kinds_of (s := s) ?_ fun q hq => hall q ?_
    · have := hall (.count 4) (by simp [flatC, given_1])
      simpa [Cond.before, Cond.holds, Cond.value] using this
    · have hf : flatC (Jvm.Cond.and given_1 narrow_1) = .count 4 :: (Jvm.Sym.sorts 0 [.int, .long, .int, .int] ++ flatC narrow_1) := rfl
      rw [hf]; exact List.mem_cons_of_mem _ (List.mem_append_left _ hq)
  obtain ⟨v0, v1, v2, v3, rfl, q0, q1, q2, q3⟩ := own_k4 hKK
  obtain ⟨i1, rfl⟩ := own_int q0
  obtain ⟨j1, rfl⟩ := own_long q1
  obtain ⟨i2, rfl⟩ := own_int q2
  obtain ⟨i3, rfl⟩ := own_int q3
  have hw := fun d (hd : d ∈ tables_1) => atoms_spec (ws := Jvm.Cond.code x code maxLocals ret :: tables_1) hat d (List.mem_cons_of_mem _ hd)
  obtain ⟨n, o, h1, h2, h3, _, L, rfl, ⟨rfl, N⟩, hq⟩ := rm0 l s _ hw tables_1 i1 j1 i2 i3 s.heap s.heap.size (Nat.le_refl _)  p e ha hc hk s m _ below hf ((Spec.applies_iff_loose hf).mp happ).1 ⟨rfl, State.Warmed39.refl s, rfl⟩ trivial
  refine ⟨n, _, h1, h2, h3, hpost _ _ _ _ _ _ ⟨Cond.after_iff.mpr rfl, Cond.after_iff.mpr (eq_i res_at (Term.int_eval (1)) rfl), trivial⟩ ⟨hq.1, hq.2.1, (hq.2.2.sift fun y hy => Or.inr (N y hy)).mono (by decide) (by decide)⟩⟩
theorem main_1_1 : Claimed_1_1 := comes_1 fun _ _ _ _ _ _ h hF => ⟨h.1, hF⟩
theorem main_1_2 : Claimed_1_2 := comes_1 fun _ _ _ _ _ _ h hF => ⟨h.2.1, hF⟩
end Jvm.Pilot.@@N@@
namespace Jvm.Pilot.@@N@@
open Jvm Jvm.ClassFile Sem Op Lib Jvm.Free Jvm.Stand Jvm.Pilot.@@N@@.Jvm.D
/-! MADE BY PROGRAM (witnessworld.py) out of the Statement's table words and the real class files: 9 classes; the members and pool entries that the words name. The judged class is class 1, her method 3. -/
namespace start1
open Jvm.ClassFile
def u (s : String) : CpInfo := .utf8 (stringToUtf16 s)
/-- a pool by its gaps: so many unusable entries, then the entry; so many at the end -/
def gap : Nat → List CpInfo → List CpInfo
  | 0, r => r
  | n + 1, r => .unusable :: gap n r
def poolList (es : List (Nat × CpInfo)) (last : Nat) : List CpInfo := es.foldr (fun e r => gap e.1 (e.2 :: r)) (gap last [])
def pool (es : List (Nat × CpInfo)) (last : Nat) : Array CpInfo := ⟨poolList es last⟩
def fileOf (pool : Array CpInfo) (this : Nat) (attrs : Array Attribute := #[]) (ms : Array MethodInfo := #[]) (fl : Nat := 33) (sup : Nat := 0) (ifs : Array Nat := #[]) (fds : Array FieldInfo := #[]) : ClassFile where
  minorVersion := 0
  majorVersion := 65
  constantPool := pool
  accessFlags := fl
  thisClass := this
  superClass := sup
  interfaces := ifs
  fields := fds
  methods := ms
  attributes := attrs
def plain (name : String) (sup : Option ClassId) : Class where
  name := name
  kind := .ordinary
  loader := none
  accessFlags := 33
  super := sup
  interfaces := #[]
  cf := none
  fields := #[]
  methods := #[]
  instanceTypes := #[]
  staticTypes := #[]
  resolved := #[]
  callSites := []
  init := .initialized
  statics := none
  mirror := none

def pool0 : Array CpInfo := pool [(5, u "<init>"), (0, u "()V"), (1, .class_ 10), (1, u "java/lang/Object")] 113

def k0m0 : Method := { name := "<init>", desc := "()V", sig := { parameters := [], returnType := none }, accessFlags := 1, code := none }
/-- java/lang/Object -/
def k0 : Class := { plain "java/lang/Object" none with
  accessFlags := 33
  interfaces := #[]
  cf := some (fileOf pool0 8 #[] #[{ accessFlags := 1, nameIndex := 5, descriptorIndex := 6, attributes := #[] }] 33 0 #[] #[])
  fields := #[]
  methods := #[k0m0]
  instanceTypes := #[]
  staticTypes := #[]
  resolved := Array.replicate 124 none
  statics := none }

def pool1 : Array CpInfo := pool [(2, .class_ 4), (1, u "java/lang/Object"), (0, u "<init>"), (0, u "()V"), (0, .methodref 8 9), (0, .class_ 10), (0, .nameAndType 11 12), (0, u "com/example/librobots/librobots/PathPatternLastRunStartPinLaw"), (0, u "drawn"), (0, u "(IJI)B"), (0, .integer 2147483647), (0, .methodref 15 16), (0, .class_ 17), (0, .nameAndType 18 19), (0, u "com/example/librobots/librobots/PathPattern"), (0, u "lastRunStart"), (0, u "([BII)I"), (0, .methodref 8 21), (0, .nameAndType 22 23), (0, u "starAfter"), (0, u "([BIII)Z"), (3, u "law"), (0, u "(IJII)Z")] 4

def k1m0 : Method := { name := "<init>", desc := "()V", sig := { parameters := [], returnType := none }, accessFlags := 2, code := none }
def k1c1 : Code := { maxStack := 4, maxLocals := 4, code := method_2_code, exceptionTable := #[], attributes := #[] }
def k1m1 : Method := { name := "drawn", desc := "(IJI)B", sig := { parameters := [.int, .long, .int], returnType := some .byte }, accessFlags := 10, code := some k1c1 }
def k1c2 : Code := { maxStack := 2, maxLocals := 4, code := method_3_code, exceptionTable := #[], attributes := #[] }
def k1m2 : Method := { name := "starAfter", desc := "([BIII)Z", sig := { parameters := [(.array .byte), .int, .int, .int], returnType := some .boolean }, accessFlags := 10, code := some k1c2 }
def k1c3 : Code := { maxStack := 6, maxLocals := 9, code := code, exceptionTable := #[], attributes := #[] }
def k1m3 : Method := { name := "law", desc := "(IJII)Z", sig := { parameters := [.int, .long, .int, .int], returnType := some .boolean }, accessFlags := 9, code := some k1c3 }
/-- com/example/librobots/librobots/PathPatternLastRunStartPinLaw -/
def k1 : Class := { plain "com/example/librobots/librobots/PathPatternLastRunStartPinLaw" (some 0) with
  accessFlags := 49
  interfaces := #[]
  cf := some (fileOf pool1 8 #[] #[{ accessFlags := 2, nameIndex := 5, descriptorIndex := 6, attributes := #[] }, { accessFlags := 10, nameIndex := 11, descriptorIndex := 12, attributes := #[] }, { accessFlags := 10, nameIndex := 22, descriptorIndex := 23, attributes := #[] }, { accessFlags := 9, nameIndex := 27, descriptorIndex := 28, attributes := #[] }] 49 2 #[] #[])
  fields := #[]
  methods := #[k1m0, k1m1, k1m2, k1m3]
  instanceTypes := #[]
  staticTypes := #[]
  resolved := Array.replicate 33 none
  statics := none }

def pool2 : Array CpInfo := pool [(2, .class_ 4), (1, u "java/lang/Object"), (0, u "<init>"), (0, u "()V"), (1, .class_ 10), (1, u "com/example/librobots/librobots/PathPattern"), (13, .class_ 26), (1, u "com/example/librobots/librobots/PathPattern$Kind"), (18, u "([BII)I"), (39, u "INDEX_PAGE"), (0, u "Ljava/lang/String;"), (11, u "lastRunStart")] 20

def k2m0 : Method := { name := "<init>", desc := "()V", sig := { parameters := [], returnType := none }, accessFlags := 2, code := none }
def k2c1 : Code := { maxStack := 2, maxLocals := 4, code := prog_17_method_7_code, exceptionTable := #[], attributes := #[] }
def k2m1 : Method := { name := "lastRunStart", desc := "([BII)I", sig := { parameters := [(.array .byte), .int, .int], returnType := some .int }, accessFlags := 8, code := some k2c1 }
/-- com/example/librobots/librobots/PathPattern -/
def k2 : Class := { plain "com/example/librobots/librobots/PathPattern" (some 0) with
  accessFlags := 48
  interfaces := #[]
  cf := some (fileOf pool2 8 #[.nestMembers #[24]] #[{ accessFlags := 2, nameIndex := 5, descriptorIndex := 6, attributes := #[] }, { accessFlags := 8, nameIndex := 98, descriptorIndex := 45, attributes := #[] }] 48 2 #[] #[{ accessFlags := 26, nameIndex := 85, descriptorIndex := 86, attributes := #[] }])
  fields := #[{ name := "INDEX_PAGE", type := (.object "java/lang/String"), accessFlags := 26, slot := 0, constantValue := 0 }]
  methods := #[k2m0, k2m1]
  instanceTypes := #[]
  staticTypes := #[(.object "java/lang/String")]
  resolved := Array.replicate 119 none
  statics := none }

def pool3 : Array CpInfo := pool [(1, u "java/lang/Cloneable"), (0, .class_ 1), (0, u "java/lang/Object"), (0, .class_ 3)] 3

/-- java/lang/Cloneable -/
def k3 : Class := { plain "java/lang/Cloneable" (some 0) with
  accessFlags := 1537
  interfaces := #[]
  cf := some (fileOf pool3 2 #[] #[] 1537 4 #[] #[])
  fields := #[]
  methods := #[]
  instanceTypes := #[]
  staticTypes := #[]
  resolved := Array.replicate 8 none
  statics := none }

def pool4 : Array CpInfo := pool [(1, u "java/io/Serializable"), (0, .class_ 1), (0, u "java/lang/Object"), (0, .class_ 3)] 3

/-- java/io/Serializable -/
def k4 : Class := { plain "java/io/Serializable" (some 0) with
  accessFlags := 1537
  interfaces := #[]
  cf := some (fileOf pool4 2 #[] #[] 1537 4 #[] #[])
  fields := #[]
  methods := #[]
  instanceTypes := #[]
  staticTypes := #[]
  resolved := Array.replicate 8 none
  statics := none }

/-- the primitive byte -/
def k5 : Class := { plain "byte" none with kind := .primitive 'B', accessFlags := 0x411 }
/-- [B -/
def k6 : Class := { plain "[B" (some 0) with kind := .array 5 .byte, interfaces := #[3, 4], accessFlags := 1041 }

/-- the primitive int -/
def k7 : Class := { plain "int" none with kind := .primitive 'I', accessFlags := 0x411 }
/-- [I -/
def k8 : Class := { plain "[I" (some 0) with kind := .array 7 .int, interfaces := #[3, 4], accessFlags := 1041 }

def heap : Heap := #[]
def classes : Array Class := #[k0, k1, k2, k3, k4, k5, k6, k7, k8]
def interned : List (Array UInt16 × Addr) := []
def slotsUsed : Nat := 0
def theMethod : MethodId := ⟨1, 3⟩
def args0 : Array Value := #[.int 5, .long 300, .int 2, .int 3]
def aboutOver (below : List Frame) : State where
  vm := { classes := classes, interned := interned.toArray }
  heap := heap
  slotsUsed := slotsUsed
  threads := #[{ frames := .invoking theMethod args0 :: below }]
def below0 : List Frame := [.native { method := ⟨0, 0⟩, args := #[] }]
def about1 : State := aboutOver below0
def p0 : Program := .bare "" "" ""
def e0 : Env := launch0.env 0 0 0
theorem w_frames : about1.frames = Frame.invoking theMethod args0 :: below0 := rfl
set_option maxRecDepth 65536 in
theorem w_args : argsFit about1.vm theMethod args0 = true := by decide +kernel
set_option maxRecDepth 65536 in
theorem w_heap : heapFits about1 = true := by decide +kernel
set_option maxRecDepth 65536 in
theorem w_runnable : about1.curStatus? = some .runnable := by decide +kernel
set_option maxRecDepth 65536 in
theorem w_alone : about1.alone = true := by decide +kernel
set_option maxRecDepth 65536 in
theorem w_named : about1.methodNamed? x = some theMethod := by decide +kernel
set_option maxRecDepth 65536 in
theorem w_hears : about1.hears theMethod below0 = true := by decide +kernel
set_option maxRecDepth 65536 in
theorem w_ripe : about1.ripe theMethod args0 below0 = true := by decide +kernel
theorem w_running : about1.status = .running := rfl
set_option maxRecDepth 65536 in
theorem w_room : about1.hasRoom e0.platform room_1 = true :=
  launch0.hasRoom_least _ room_1 (by decide +kernel) (by decide +kernel) (by decide +kernel) (by decide +kernel) (by decide +kernel) (by decide +kernel)
theorem allAtoms_all (ts : List Jvm.Cond) (a : Array Jvm.Value) (st : Jvm.State) : (allAtoms ts).before a st = ts.all (fun c => c.before a st) := by
  induction ts with
  | nil => rfl
  | cons c t ih =>
    show (Jvm.Cond.and c (allAtoms t)).before a st = _
    rw [Jvm.Cond.before_and, ih, List.all_cons]
def words1 : List Jvm.Cond := Jvm.Cond.code x code maxLocals ret :: tables_1
/-- a 'code' word, met by the world's own term for the bytes: nothing is compared byte by byte -/
theorem code_word {y : MethodName} {bytes : ByteArray} {mx : Nat} {rt : Option FieldType} {a : Array Value} {s : State} {m : MethodId} {meth : Method} {c : Code} (h1 : s.methodNamed? y = some m) (h2 : s.vm.method? m = some meth) (h3 : meth.code = some c) (h4 : c.code = bytes)
    (h5 : (c.maxLocals == mx && c.exceptionTable.isEmpty && decide (c.maxStack ≤ mostOperands) && decide (meth.sig.returnType = rt) && !meth.locks && decide (parseMethodDescriptor y.desc = some meth.sig)) = true) : (Jvm.Cond.code y bytes mx rt).before a s = true := by
  simp only [Bool.and_eq_true, beq_iff_eq, Bool.not_eq_true', decide_eq_true_eq] at h5
  obtain ⟨⟨⟨⟨⟨g1, g2⟩, g3⟩, g4⟩, g5⟩, g6⟩ := h5
  simp [Cond.before, Cond.holds, Cond.value, h1, h2, h3, h4, g1, g2, g3, g4, g5, g6]
def isCode : Jvm.Cond → Bool
  | .code _ _ _ _ => true
  | _ => false
theorem all_split {L : List Jvm.Cond} {P : Jvm.Cond → Bool} (h1 : L.all (fun c => isCode c || P c) = true) (h2 : ∀ c ∈ L.filter isCode, P c = true) : L.all P = true := by
  refine List.all_eq_true.mpr fun c hc => ?_
  have h := List.all_eq_true.mp h1 c hc
  rcases Bool.eq_false_or_eq_true (isCode c) with hi | hi
  · exact h2 c (List.mem_filter.mpr ⟨hc, hi⟩)
  · simpa [hi] using h
set_option maxRecDepth 65536 in
theorem w_c0 : (Jvm.Cond.code x code maxLocals ret).before args0 about1 = true := code_word (m := ⟨1, 3⟩) (meth := k1m3) (c := k1c3) (by decide +kernel) rfl rfl rfl (by decide +kernel)
set_option maxRecDepth 65536 in
theorem w_c1 : (Jvm.Cond.code ({ cls := "com/example/librobots/librobots/PathPatternLastRunStartPinLaw", name := "drawn", desc := "(IJI)B" } : Jvm.MethodName) method_2_code (4 : Nat) (Option.some Jvm.ClassFile.FieldType.byte)).before args0 about1 = true := code_word (m := ⟨1, 1⟩) (meth := k1m1) (c := k1c1) (by decide +kernel) rfl rfl rfl (by decide +kernel)
set_option maxRecDepth 65536 in
theorem w_c2 : (Jvm.Cond.code ({ cls := "com/example/librobots/librobots/PathPattern", name := "lastRunStart", desc := "([BII)I" } : Jvm.MethodName) prog_17_method_7_code (4 : Nat) (Option.some Jvm.ClassFile.FieldType.int)).before args0 about1 = true := code_word (m := ⟨2, 1⟩) (meth := k2m1) (c := k2c1) (by decide +kernel) rfl rfl rfl (by decide +kernel)
set_option maxRecDepth 65536 in
theorem w_c3 : (Jvm.Cond.code ({ cls := "com/example/librobots/librobots/PathPatternLastRunStartPinLaw", name := "starAfter", desc := "([BIII)Z" } : Jvm.MethodName) method_3_code (4 : Nat) (Option.some Jvm.ClassFile.FieldType.boolean)).before args0 about1 = true := code_word (m := ⟨1, 2⟩) (meth := k1m2) (c := k1c2) (by decide +kernel) rfl rfl rfl (by decide +kernel)
def codes1 : List Jvm.Cond := [Jvm.Cond.code x code maxLocals ret, Jvm.Cond.code ({ cls := "com/example/librobots/librobots/PathPatternLastRunStartPinLaw", name := "drawn", desc := "(IJI)B" } : Jvm.MethodName) method_2_code (4 : Nat) (Option.some Jvm.ClassFile.FieldType.byte), Jvm.Cond.code ({ cls := "com/example/librobots/librobots/PathPattern", name := "lastRunStart", desc := "([BII)I" } : Jvm.MethodName) prog_17_method_7_code (4 : Nat) (Option.some Jvm.ClassFile.FieldType.int), Jvm.Cond.code ({ cls := "com/example/librobots/librobots/PathPatternLastRunStartPinLaw", name := "starAfter", desc := "([BIII)Z" } : Jvm.MethodName) method_3_code (4 : Nat) (Option.some Jvm.ClassFile.FieldType.boolean)]
set_option maxRecDepth 65536 in
theorem codes_eq : words1.filter isCode = codes1 := rfl
theorem w_codes : ∀ c ∈ words1.filter isCode, c.before args0 about1 = true := by
  rw [codes_eq]
  intro c hc
  simp only [codes1, List.mem_cons, List.not_mem_nil, or_false] at hc
  rcases hc with rfl | rfl | rfl | rfl
  · exact w_c0
  · exact w_c1
  · exact w_c2
  · exact w_c3
set_option maxRecDepth 65536 in
theorem w_t1 : words1.all (fun c => isCode c || c.before args0 about1) = true := by decide +kernel
theorem w_tables : (allAtoms (Jvm.Cond.code x code maxLocals ret :: tables_1)).before args0 about1 = true := by
  rw [allAtoms_all]
  show words1.all (fun c => c.before args0 about1) = true
  refine all_split ?_ w_codes
  rw [w_t1]
set_option maxRecDepth 65536 in
theorem w_case : (Jvm.Cond.and given_1 narrow_1).before args0 about1 = true := by decide +kernel
theorem w_applies : (headSpec (Jvm.Cond.code x code maxLocals ret :: tables_1) room_1).applies x e0.platform about1 = true :=
  (Spec.applies_iff w_frames).mpr ⟨w_running, w_runnable, w_alone, w_named, w_hears, w_ripe, w_room, w_tables⟩
theorem atStart : AtStart classFile x code maxLocals ret World_1 tables_1 room_1 Calls_1 rest_1 Pre_1 launch0 p0 e0 about1 theMethod args0 below0 :=
  ⟨lists_1, trivial, launch0.admits_env _ _ _, launch0.least_env, fairChoices_fair.cas, fairChoices_fair.clock, w_frames, w_args, w_heap, w_applies, trivial, trivial, w_case⟩
end start1
theorem witness_1 : WitnessClaimed_1 := ⟨start1.p0, start1.e0, start1.about1, start1.theMethod, start1.args0, start1.below0, start1.atStart⟩
end Jvm.Pilot.@@N@@
