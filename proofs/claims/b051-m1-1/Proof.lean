import JvmDerived
import JvmDerived.Pilot.@@N@@Statement
import JvmDerived.Pilot.@@N@@Code
set_option linter.unusedVariables false
set_option linter.unusedSimpArgs false
@@BLOCK:HandJ.lean.txt@@
@@BLOCK:HandW.lean.txt@@
@@BLOCK:HandBits.lean.txt@@
@@BLOCK:SymRun.lean.txt@@
@@BLOCK:RowBasics.lean.txt@@
@@BLOCK:Bridge.lean.txt@@
@@BLOCK:SymKit.lean.txt@@
@@BLOCK:SymWays.lean.txt@@
@@BLOCK:NumsL.lean.txt@@
@@BLOCK:Masks.lean.txt@@
namespace Jvm.Pilot.@@N@@
open Jvm Jvm.ClassFile Sem Op Jvm.Sym Jvm.Pilot.@@N@@.Jvm.D

/-! own 1: arguments by their kinds -/
def own_KL : List VKind → List Value → Prop
  | [], [] => True
  | k :: ks, v :: vs => k.ok v = true ∧ own_KL ks vs
  | _, _ => False
def own_Kinds (ks : List VKind) (A : Array Value) : Prop := own_KL ks A.toList
theorem own_KL_get : ∀ {ks : List VKind} {vs : List Value}, own_KL ks vs → ∀ {i : Nat} {k : VKind}, ks[i]? = some k → ∃ v, vs[i]? = some v ∧ k.ok v = true
  | [], [], _, i, k, h => by simp at h
  | k0 :: ks, v0 :: vs, hh, 0, k, h => by
    simp at h; subst h; exact ⟨v0, by simp, hh.1⟩
  | k0 :: ks, v0 :: vs, hh, i + 1, k, h => by
    simp at h; obtain ⟨v, h1, h2⟩ := own_KL_get hh.2 h; exact ⟨v, by simpa using h1, h2⟩
  | [], _ :: _, hh, _, _, _ => hh.elim
  | _ :: _, [], hh, _, _, _ => hh.elim
theorem own_KL_len : ∀ {ks : List VKind} {vs : List Value}, own_KL ks vs → vs.length = ks.length
  | [], [], _ => rfl
  | k0 :: ks, v0 :: vs, hh => by simp [own_KL_len hh.2]
  | [], _ :: _, hh => hh.elim
  | _ :: _, [], hh => hh.elim
theorem own_Kinds.get {ks : List VKind} {A : Array Value} (h : own_Kinds ks A) {i : Nat} {k : VKind} (hk : ks[i]? = some k) : ∃ v, A[i]? = some v ∧ k.ok v = true := by
  obtain ⟨v, h1, h2⟩ := own_KL_get h hk
  exact ⟨v, by rwa [Array.getElem?_toList] at h1, h2⟩
theorem own_Kinds.size {ks : List VKind} {A : Array Value} (h : own_Kinds ks A) : A.size = ks.length := by
  have := own_KL_len h
  simpa using this
theorem own_KL_sorts {A : Array Value} {s : State} : ∀ (ks : List VKind) (i : Nat) (vs : List Value), (∀ j, A[i + j]? = vs[j]?) → vs.length = ks.length → (∀ q ∈ Sym.sorts i ks, q.before A s = true) → own_KL ks vs
  | [], _, [], _, _, _ => trivial
  | [], _, _ :: _, _, h, _ => by simp at h
  | _ :: _, _, [], _, h, _ => by simp at h
  | k :: ks, i, v :: vs, hA, hl, hq => by
    have h0 := hq (isK k (.arg i)) (by simp [Sym.sorts])
    obtain ⟨w, e, ok⟩ := isK_spec h0
    have e0 := hA 0
    simp only [Nat.add_zero, List.getElem?_cons_zero] at e0
    have e1 : A[i]? = some w := e
    rw [e0] at e1
    cases e1
    refine ⟨ok, own_KL_sorts ks (i + 1) vs (fun j => ?_) (by simpa using hl) (fun q h => hq q (by simp [Sym.sorts]; exact Or.inr h))⟩
    have := hA (j + 1)
    rw [List.getElem?_cons_succ] at this
    rw [← this]; congr 1; omega
theorem own_Kinds_of {A : Array Value} {s : State} {ks : List VKind} (hn : A.size = ks.length) (hq : ∀ q ∈ Sym.sorts 0 ks, q.before A s = true) : own_Kinds ks A :=
  own_KL_sorts ks 0 A.toList (fun j => by simp) (by simpa using hn) hq
theorem own_Kinds.sorts {A : Array Value} {s : State} : ∀ {ks : List VKind} {vs : List Value} (i : Nat), (∀ j, A[i + j]? = vs[j]?) → own_KL ks vs → ∀ q ∈ Sym.sorts i ks, q.before A s = true
  | [], [], _, _, _, q, hq => by cases hq
  | [], _ :: _, _, _, hh, _, _ => hh.elim
  | _ :: _, [], _, _, hh, _, _ => hh.elim
  | k :: ks, v :: vs, i, hA, hh, q, hq => by
    have e0 := hA 0
    simp only [Nat.add_zero, List.getElem?_cons_zero] at e0
    rcases List.mem_cons.mp hq with rfl | hq
    · cases k <;> cases v <;> first | (have := hh.1; simp [VKind.ok] at this; done) | simp [isK, Cond.before, Cond.holds, Cond.value, Term.eval, e0]
    · refine own_Kinds.sorts (i + 1) (fun j => ?_) hh.2 q hq
      have := hA (j + 1)
      rw [List.getElem?_cons_succ] at this
      rw [← this]; congr 1; omega
theorem own_int {v : Value} (h : VKind.int.ok v = true) : ∃ a : Int32, v = .int a := by cases v <;> simp [VKind.ok] at h <;> exact ⟨_, rfl⟩
theorem own_long {v : Value} (h : VKind.long.ok v = true) : ∃ a : Int64, v = .long a := by cases v <;> simp [VKind.ok] at h <;> exact ⟨_, rfl⟩
theorem own_k1 {k0 : VKind} {A : Array Value} (h : own_Kinds [k0] A) : ∃ v0, A = #[v0] ∧ k0.ok v0 = true := by
  obtain ⟨L⟩ := A
  match L, h with
  | [v0], h => exact ⟨v0, rfl, h.1⟩
theorem own_k2 {k0 k1 : VKind} {A : Array Value} (h : own_Kinds [k0, k1] A) : ∃ v0 v1, A = #[v0, v1] ∧ k0.ok v0 = true ∧ k1.ok v1 = true := by
  obtain ⟨L⟩ := A
  match L, h with
  | [v0, v1], h => exact ⟨v0, v1, rfl, h.1, h.2.1⟩
theorem own_k3 {k0 k1 k2 : VKind} {A : Array Value} (h : own_Kinds [k0, k1, k2] A) : ∃ v0 v1 v2, A = #[v0, v1, v2] ∧ k0.ok v0 = true ∧ k1.ok v1 = true ∧ k2.ok v2 = true := by
  obtain ⟨L⟩ := A
  match L, h with
  | [v0, v1, v2], h => exact ⟨v0, v1, v2, rfl, h.1, h.2.1, h.2.2.1⟩
theorem own_k4 {k0 k1 k2 k3 : VKind} {A : Array Value} (h : own_Kinds [k0, k1, k2, k3] A) : ∃ v0 v1 v2 v3, A = #[v0, v1, v2, v3] ∧ k0.ok v0 = true ∧ k1.ok v1 = true ∧ k2.ok v2 = true ∧ k3.ok v3 = true := by
  obtain ⟨L⟩ := A
  match L, h with
  | [v0, v1, v2, v3], h => exact ⟨v0, v1, v2, v3, rfl, h.1, h.2.1, h.2.2.1, h.2.2.2.1⟩

theorem own_k5 {k0 k1 k2 k3 k4 : VKind} {A : Array Value} (h : own_Kinds [k0, k1, k2, k3, k4] A) : ∃ v0 v1 v2 v3 v4, A = #[v0, v1, v2, v3, v4] ∧ k0.ok v0 = true ∧ k1.ok v1 = true ∧ k2.ok v2 = true ∧ k3.ok v3 = true ∧ k4.ok v4 = true := by
  obtain ⟨L⟩ := A
  match L, h with
  | [v0, v1, v2, v3, v4], h => exact ⟨v0, v1, v2, v3, v4, rfl, h.1, h.2.1, h.2.2.1, h.2.2.2.1, h.2.2.2.2.1⟩
theorem own_k6 {k0 k1 k2 k3 k4 k5 : VKind} {A : Array Value} (h : own_Kinds [k0, k1, k2, k3, k4, k5] A) : ∃ v0 v1 v2 v3 v4 v5, A = #[v0, v1, v2, v3, v4, v5] ∧ k0.ok v0 = true ∧ k1.ok v1 = true ∧ k2.ok v2 = true ∧ k3.ok v3 = true ∧ k4.ok v4 = true ∧ k5.ok v5 = true := by
  obtain ⟨L⟩ := A
  match L, h with
  | [v0, v1, v2, v3, v4, v5], h => exact ⟨v0, v1, v2, v3, v4, v5, rfl, h.1, h.2.1, h.2.2.1, h.2.2.2.1, h.2.2.2.2.1, h.2.2.2.2.2.1⟩

/-! own 2: a term's kind, read off its shape -/
def own_ty2 : Binary → Option VKind → Option VKind → Option VKind
  | .iand, some .int, some .int => some .int
  | .ior, some .int, some .int => some .int
  | .ixor, some .int, some .int => some .int
  | .ishl, some .int, some .int => some .int
  | .ishr, some .int, some .int => some .int
  | .iushr, some .int, some .int => some .int
  | .ladd, some .long, some .long => some .long
  | .lsub, some .long, some .long => some .long
  | .lmul, some .long, some .long => some .long
  | .land, some .long, some .long => some .long
  | .lor, some .long, some .long => some .long
  | .lxor, some .long, some .long => some .long
  | .lcmp, some .long, some .long => some .int
  | .lshl, some .long, some .int => some .long
  | .lshr, some .long, some .int => some .long
  | .lushr, some .long, some .int => some .long
  | _, _, _ => none
def own_ty1 : Unary → Option VKind → Option VKind
  | .ineg, some .int => some .int
  | .i2b, some .int => some .int
  | .i2c, some .int => some .int
  | .i2s, some .int => some .int
  | .i2l, some .int => some .long
  | .l2i, some .long => some .int
  | .lneg, some .long => some .long
  | _, _ => none
def own_ii : Option VKind → Option VKind → Option VKind
  | some .int, some .int => some .int
  | _, _ => none
def own_ty (ks : List VKind) : Term → Option VKind
  | .arg i => ks[i]?
  | .int _ => some .int
  | .long _ => some .long
  | .add a b => own_ii (own_ty ks a) (own_ty ks b)
  | .sub a b => own_ii (own_ty ks a) (own_ty ks b)
  | .mul a b => own_ii (own_ty ks a) (own_ty ks b)
  | .op2 f a b => own_ty2 f (own_ty ks a) (own_ty ks b)
  | .op1 f a => own_ty1 f (own_ty ks a)
  | .old t => own_ty ks t
  | _ => none
theorem own_ty2_sound {f : Binary} {a b : Option VKind} {k : VKind} (h : own_ty2 f a b = some k) : ∃ ka kb, a = some ka ∧ b = some kb ∧ ∀ x y, ka.ok x = true → kb.ok y = true → ∃ z, f.apply x y = some z ∧ k.ok z = true := by
  unfold own_ty2 at h
  split at h <;> first
    | (cases h; refine ⟨_, _, rfl, rfl, fun x y hx hy => ?_⟩; cases x <;> simp [VKind.ok] at hx <;> cases y <;> simp [VKind.ok] at hy <;> exact ⟨_, rfl, rfl⟩)
    | cases h
theorem own_ty1_sound {f : Unary} {a : Option VKind} {k : VKind} (h : own_ty1 f a = some k) : ∃ ka, a = some ka ∧ ∀ x, ka.ok x = true → ∃ z, f.apply x = some z ∧ k.ok z = true := by
  unfold own_ty1 at h
  split at h <;> first
    | (cases h; refine ⟨_, rfl, fun x hx => ?_⟩; cases x <;> simp [VKind.ok] at hx <;> exact ⟨_, rfl, rfl⟩)
    | cases h
theorem own_ii_sound {a b : Option VKind} {k : VKind} (h : own_ii a b = some k) : k = .int ∧ a = some .int ∧ b = some .int := by
  unfold own_ii at h
  split at h
  · cases h; exact ⟨rfl, rfl, rfl⟩
  · cases h
theorem own_ty_sound {ks : List VKind} {A : Array Value} {s : State} (hA : own_Kinds ks A) : ∀ (t : Term) {k : VKind}, own_ty ks t = some k → ∃ v, t.eval A s none [] s = some v ∧ k.ok v = true
  | .arg i, k, h => hA.get h
  | .int v, k, h => by cases h; exact ⟨_, rfl, rfl⟩
  | .long v, k, h => by cases h; exact ⟨_, rfl, rfl⟩
  | .add a b, k, h => by
    obtain ⟨rfl, ha, hb⟩ := own_ii_sound h
    obtain ⟨x, ex, hx⟩ := own_ty_sound (s := s) hA a ha
    obtain ⟨y, ey, hy⟩ := own_ty_sound (s := s) hA b hb
    obtain ⟨x, rfl⟩ := own_int hx
    obtain ⟨y, rfl⟩ := own_int hy
    exact ⟨.int (x + y), by simp [Term.eval, ex, ey], rfl⟩
  | .sub a b, k, h => by
    obtain ⟨rfl, ha, hb⟩ := own_ii_sound h
    obtain ⟨x, ex, hx⟩ := own_ty_sound (s := s) hA a ha
    obtain ⟨y, ey, hy⟩ := own_ty_sound (s := s) hA b hb
    obtain ⟨x, rfl⟩ := own_int hx
    obtain ⟨y, rfl⟩ := own_int hy
    exact ⟨.int (x - y), by simp [Term.eval, ex, ey], rfl⟩
  | .mul a b, k, h => by
    obtain ⟨rfl, ha, hb⟩ := own_ii_sound h
    obtain ⟨x, ex, hx⟩ := own_ty_sound (s := s) hA a ha
    obtain ⟨y, ey, hy⟩ := own_ty_sound (s := s) hA b hb
    obtain ⟨x, rfl⟩ := own_int hx
    obtain ⟨y, rfl⟩ := own_int hy
    exact ⟨.int (x * y), by simp [Term.eval, ex, ey], rfl⟩
  | .op2 f a b, k, h => by
    obtain ⟨ka, kb, ha, hb, hf⟩ := own_ty2_sound (show own_ty2 f (own_ty ks a) (own_ty ks b) = some k from h)
    obtain ⟨x, ex, hx⟩ := own_ty_sound (s := s) hA a ha
    obtain ⟨y, ey, hy⟩ := own_ty_sound (s := s) hA b hb
    obtain ⟨z, ez, hz⟩ := hf x y hx hy
    exact ⟨z, by simp [Term.eval, ex, ey, ez], hz⟩
  | .op1 f a, k, h => by
    obtain ⟨ka, ha, hf⟩ := own_ty1_sound (show own_ty1 f (own_ty ks a) = some k from h)
    obtain ⟨x, ex, hx⟩ := own_ty_sound (s := s) hA a ha
    obtain ⟨z, ez, hz⟩ := hf x hx
    exact ⟨z, by simp [Term.eval, ex, ez], hz⟩
  | .old t, k, h => by
    obtain ⟨x, ex, hx⟩ := own_ty_sound (s := s) hA t (show own_ty ks t = some k from h)
    exact ⟨x, by simpa [Term.eval] using ex, hx⟩
  | .null, _, h => by cases h
  | .index _, _, h => by cases h
  | .field _ _ _ _, _, h => by cases h
  | .static _ _ _, _, h => by cases h
  | .string _ _, _, h => by cases h
  | .mirror _, _, h => by cases h
  | .length _, _, h => by cases h
  | .elem _ _, _, h => by cases h
  | .div _ _, _, h => by cases h
  | .rem _ _, _, h => by cases h
  | .sum _, _, h => by cases h
  | .result, _, h => by cases h
  | .thrown, _, h => by cases h

/-! own 3: the needs of a walk, paid by one check: each stands under guards that are worth something whatever way they go -/
def own_num (ks : List VKind) (a b : Term) : Bool := (own_ty ks a == some .int && own_ty ks b == some .int) || (own_ty ks a == some .long && own_ty ks b == some .long)
def own_dfn (ks : List VKind) (D : List Cond) : Cond → Bool
  | .not c => own_dfn ks D c
  | .eq a b => D.contains (.eq a b) || own_num ks a b
  | .lt a b => D.contains (.lt a b) || own_num ks a b
  | .le a b => D.contains (.le a b) || own_num ks a b
  | .and a b => own_dfn ks D a && own_dfn ks D b
  | .or a b => own_dfn ks D a && own_dfn ks D b
  | .tt => true
  | _ => false
def own_chk (ks : List VKind) (T D : List Cond) : Cond → Bool
  | .tt => true
  | .and a b => T.contains (.and a b) || (own_chk ks T D a && own_chk ks T D b)
  | .or a b => T.contains (.or a b) || (own_dfn ks D a && own_chk ks T D b)
  | .isInt t => T.contains (.isInt t) || own_ty ks t == some .int
  | .isLong t => T.contains (.isLong t) || own_ty ks t == some .long
  | c => T.contains c
theorem own_num_sound {ks : List VKind} {A : Array Value} {s : State} (hA : own_Kinds ks A) {a b : Term} (h : own_num ks a b = true) :
    (∃ x y : Int32, a.eval A s none [] s = some (.int x) ∧ b.eval A s none [] s = some (.int y)) ∨ (∃ x y : Int64, a.eval A s none [] s = some (.long x) ∧ b.eval A s none [] s = some (.long y)) := by
  simp only [own_num, Bool.or_eq_true, Bool.and_eq_true, beq_iff_eq] at h
  rcases h with ⟨ha, hb⟩ | ⟨ha, hb⟩
  · obtain ⟨v, ev, hv⟩ := own_ty_sound (s := s) hA a ha
    obtain ⟨w, ew, hw⟩ := own_ty_sound (s := s) hA b hb
    obtain ⟨x, rfl⟩ := own_int hv
    obtain ⟨y, rfl⟩ := own_int hw
    exact Or.inl ⟨x, y, ev, ew⟩
  · obtain ⟨v, ev, hv⟩ := own_ty_sound (s := s) hA a ha
    obtain ⟨w, ew, hw⟩ := own_ty_sound (s := s) hA b hb
    obtain ⟨x, rfl⟩ := own_long hv
    obtain ⟨y, rfl⟩ := own_long hw
    exact Or.inr ⟨x, y, ev, ew⟩
theorem own_dfn_sound {ks : List VKind} {D : List Cond} {A : Array Value} {s : State} (hA : own_Kinds ks A) (hD : ∀ c ∈ D, ∃ b, c.value A s none s [] = some b) : ∀ (c : Cond), own_dfn ks D c = true → ∃ b, c.value A s none s [] = some b := by
  intro c
  induction c with
  | tt => intro _; exact ⟨true, rfl⟩
  | not c ih => intro h; obtain ⟨b, e⟩ := ih h; exact ⟨!b, by simp [Cond.value, e]⟩
  | and a b iha ihb =>
    intro h
    simp only [own_dfn, Bool.and_eq_true] at h
    obtain ⟨x, ex⟩ := iha h.1
    obtain ⟨y, ey⟩ := ihb h.2
    cases x
    · exact ⟨false, by simp [Cond.value, ex]⟩
    · exact ⟨y, by simp [Cond.value, ex, ey]⟩
  | or a b iha ihb =>
    intro h
    simp only [own_dfn, Bool.and_eq_true] at h
    obtain ⟨x, ex⟩ := iha h.1
    obtain ⟨y, ey⟩ := ihb h.2
    cases x
    · exact ⟨y, by simp [Cond.value, ex, ey]⟩
    · exact ⟨true, by simp [Cond.value, ex]⟩
  | eq a b =>
    intro h
    simp only [own_dfn, Bool.or_eq_true] at h
    rcases h with h | h
    · exact hD _ (List.contains_iff_mem.mp h)
    · rcases own_num_sound (s := s) hA h with ⟨x, y, e1, e2⟩ | ⟨x, y, e1, e2⟩ <;> simp only [Cond.value, e1, e2] <;> exact ⟨_, rfl⟩
  | lt a b =>
    intro h
    simp only [own_dfn, Bool.or_eq_true] at h
    rcases h with h | h
    · exact hD _ (List.contains_iff_mem.mp h)
    · rcases own_num_sound (s := s) hA h with ⟨x, y, e1, e2⟩ | ⟨x, y, e1, e2⟩ <;> simp only [Cond.value, e1, e2] <;> exact ⟨_, rfl⟩
  | le a b =>
    intro h
    simp only [own_dfn, Bool.or_eq_true] at h
    rcases h with h | h
    · exact hD _ (List.contains_iff_mem.mp h)
    · rcases own_num_sound (s := s) hA h with ⟨x, y, e1, e2⟩ | ⟨x, y, e1, e2⟩ <;> simp only [Cond.value, e1, e2] <;> exact ⟨_, rfl⟩
  | _ => intro h; simp [own_dfn] at h
theorem own_chk_sound {ks : List VKind} {T D : List Cond} {A : Array Value} {s : State} (hA : own_Kinds ks A) (hT : ∀ c ∈ T, c.value A s none s [] = some true) (hD : ∀ c ∈ D, ∃ b, c.value A s none s [] = some b) :
    ∀ (c : Cond), own_chk ks T D c = true → c.value A s none s [] = some true := by
  intro c
  induction c with
  | tt => intro _; rfl
  | and a b iha ihb =>
    intro h
    simp only [own_chk, Bool.or_eq_true, Bool.and_eq_true] at h
    rcases h with h | h
    · exact hT _ (List.contains_iff_mem.mp h)
    · simp [Cond.value, iha h.1, ihb h.2]
  | or a b iha ihb =>
    intro h
    simp only [own_chk, Bool.or_eq_true, Bool.and_eq_true] at h
    rcases h with h | h
    · exact hT _ (List.contains_iff_mem.mp h)
    · obtain ⟨x, ex⟩ := own_dfn_sound (s := s) hA hD a h.1
      cases x
      · simp [Cond.value, ex, ihb h.2]
      · simp [Cond.value, ex]
  | isInt t =>
    intro h
    simp only [own_chk, Bool.or_eq_true, beq_iff_eq] at h
    rcases h with h | h
    · exact hT _ (List.contains_iff_mem.mp h)
    · obtain ⟨v, ev, hv⟩ := own_ty_sound (s := s) hA t h
      obtain ⟨x, rfl⟩ := own_int hv
      simp [Cond.value, ev]
  | isLong t =>
    intro h
    simp only [own_chk, Bool.or_eq_true, beq_iff_eq] at h
    rcases h with h | h
    · exact hT _ (List.contains_iff_mem.mp h)
    · obtain ⟨v, ev, hv⟩ := own_ty_sound (s := s) hA t h
      obtain ⟨x, rfl⟩ := own_long hv
      simp [Cond.value, ev]
  | _ =>
    intro h
    simp only [own_chk] at h
    exact hT _ (List.contains_iff_mem.mp h)

/-! own 4: what a guard is worth, as a proposition on plain integers; a tree followed by it -/
def own_Is (A : Array Value) (s : State) (G : Cond) (P : Prop) : Prop := (P → G.value A s none s [] = some true) ∧ (¬ P → G.value A s none s [] = some false)
section
variable {A : Array Value} {s : State} {G : Cond} {P : Prop} {ta tb : Term} {a b : STree} {w : Value} {X Y : Int}
theorem own_Is.dfn (h : own_Is A s G P) : ∃ b, G.value A s none s [] = some b := by
  by_cases p : P
  · exact ⟨_, h.1 p⟩
  · exact ⟨_, h.2 p⟩
theorem own_fork (h : own_Is A s G P) (ha : P → Kit.valueOf A s a = some w) (hb : ¬ P → Kit.valueOf A s b = some w) : Kit.valueOf A s (.fork G a b) = some w := by
  by_cases p : P
  · simp only [Kit.valueOf, h.1 p]; exact ha p
  · simp only [Kit.valueOf, h.2 p]; exact hb p
theorem own_not (h : own_Is A s G P) : own_Is A s (.not G) (¬ P) :=
  ⟨fun p => by simp [Cond.value, h.2 p], fun p => by simp [Cond.value, h.1 (Classical.not_not.mp p)]⟩
theorem own_of_decide {Q : Prop} [Decidable Q] (h : G.value A s none s [] = some (decide Q)) (hq : Q ↔ P) : own_Is A s G P :=
  ⟨fun p => by rw [h, decide_eq_true (hq.mpr p)], fun p => by rw [h, decide_eq_false (fun q => p (hq.mp q))]⟩
theorem own_lt_i {x y : Int32} (ha : ta.eval A s none [] s = some (.int x)) (hb : tb.eval A s none [] s = some (.int y)) (hX : x.toInt = X) (hY : y.toInt = Y) : own_Is A s (.lt ta tb) (X < Y) :=
  own_of_decide (Q := x < y) (by simp only [Cond.value, ha, hb]) (by rw [Int32.lt_iff_toInt_lt, hX, hY])
theorem own_le_i {x y : Int32} (ha : ta.eval A s none [] s = some (.int x)) (hb : tb.eval A s none [] s = some (.int y)) (hX : x.toInt = X) (hY : y.toInt = Y) : own_Is A s (.le ta tb) (X ≤ Y) :=
  own_of_decide (Q := x ≤ y) (by simp only [Cond.value, ha, hb]) (by rw [Int32.le_iff_toInt_le, hX, hY])
theorem own_eq_i {x y : Int32} (ha : ta.eval A s none [] s = some (.int x)) (hb : tb.eval A s none [] s = some (.int y)) (hX : x.toInt = X) (hY : y.toInt = Y) : own_Is A s (.eq ta tb) (X = Y) :=
  own_of_decide (Q := x = y) (by simp only [Cond.value, ha, hb]) (by rw [← Int32.toInt_inj, hX, hY])
theorem own_lcmp_eval {x y : Int64} (ha : ta.eval A s none [] s = some (.long x)) (hb : tb.eval A s none [] s = some (.long y)) : (Term.old (.op2 .lcmp ta tb)).eval A s none [] s = some (.int (if x > y then 1 else if x == y then 0 else -1)) := by
  simp only [Term.eval, ha, hb]; rfl
theorem own_lcmp_cases (x y : Int64) : (y.toInt < x.toInt ∧ (if x > y then (1 : Int32) else if x == y then 0 else -1) = 1) ∨ (x.toInt = y.toInt ∧ (if x > y then (1 : Int32) else if x == y then 0 else -1) = 0) ∨ (x.toInt < y.toInt ∧ (if x > y then (1 : Int32) else if x == y then 0 else -1) = -1) := by
  by_cases h : y < x
  · exact Or.inl ⟨Int64.lt_iff_toInt_lt.mp h, by simp [h]⟩
  · by_cases h2 : x = y
    · exact Or.inr (Or.inl ⟨by rw [h2], by subst h2; simp [Int64.lt_irrefl]⟩)
    · refine Or.inr (Or.inr ⟨?_, by simp [h, h2]⟩)
      rw [Int64.lt_iff_toInt_lt] at h
      rw [← Int64.toInt_inj] at h2
      omega
theorem own_lcmp_lt {x y : Int64} (ha : ta.eval A s none [] s = some (.long x)) (hb : tb.eval A s none [] s = some (.long y)) (hX : x.toInt = X) (hY : y.toInt = Y) : own_Is A s (.lt (.old (.op2 .lcmp ta tb)) (.int 0)) (X < Y) :=
  own_of_decide (Cond.lt_ints (own_lcmp_eval ha hb) rfl) (by subst hX hY; rcases own_lcmp_cases x y with ⟨h, e⟩ | ⟨h, e⟩ | ⟨h, e⟩ <;> rw [e] <;> simp <;> omega)
theorem own_lcmp_gt {x y : Int64} (ha : ta.eval A s none [] s = some (.long x)) (hb : tb.eval A s none [] s = some (.long y)) (hX : x.toInt = X) (hY : y.toInt = Y) : own_Is A s (.lt (.int 0) (.old (.op2 .lcmp ta tb))) (Y < X) :=
  own_of_decide (Cond.lt_ints rfl (own_lcmp_eval ha hb)) (by subst hX hY; rcases own_lcmp_cases x y with ⟨h, e⟩ | ⟨h, e⟩ | ⟨h, e⟩ <;> rw [e] <;> simp <;> omega)
theorem own_lcmp_le {x y : Int64} (ha : ta.eval A s none [] s = some (.long x)) (hb : tb.eval A s none [] s = some (.long y)) (hX : x.toInt = X) (hY : y.toInt = Y) : own_Is A s (.le (.old (.op2 .lcmp ta tb)) (.int 0)) (X ≤ Y) :=
  own_of_decide (Cond.le_ints (own_lcmp_eval ha hb) rfl) (by subst hX hY; rcases own_lcmp_cases x y with ⟨h, e⟩ | ⟨h, e⟩ | ⟨h, e⟩ <;> rw [e] <;> simp <;> omega)
theorem own_lcmp_ge {x y : Int64} (ha : ta.eval A s none [] s = some (.long x)) (hb : tb.eval A s none [] s = some (.long y)) (hX : x.toInt = X) (hY : y.toInt = Y) : own_Is A s (.le (.int 0) (.old (.op2 .lcmp ta tb))) (Y ≤ X) :=
  own_of_decide (Cond.le_ints rfl (own_lcmp_eval ha hb)) (by subst hX hY; rcases own_lcmp_cases x y with ⟨h, e⟩ | ⟨h, e⟩ | ⟨h, e⟩ <;> rw [e] <;> simp <;> omega)
theorem own_lcmp_eq {x y : Int64} (ha : ta.eval A s none [] s = some (.long x)) (hb : tb.eval A s none [] s = some (.long y)) (hX : x.toInt = X) (hY : y.toInt = Y) : own_Is A s (.eq (.old (.op2 .lcmp ta tb)) (.int 0)) (X = Y) :=
  own_of_decide (Cond.eq_ints (own_lcmp_eval ha hb) rfl) (by subst hX hY; rcases own_lcmp_cases x y with ⟨h, e⟩ | ⟨h, e⟩ | ⟨h, e⟩ <;> rw [e] <;> simp <;> omega)
end

theorem own_walk_eq {α β γ : Type} {w : Option (α × β × γ)} (h : w.isSome = true) {t : α} (e : (w.get h).1 = t) : w = some (t, (w.get h).2.1, (w.get h).2.2) := by
  subst e; exact (Option.some_get h).symm
/-! own 5: a callee's contract with a promise of one's own; the law's -/
def own_says (T : Term) : Cond := .and .returned (.eq .result (.old T))
theorem own_says_after {T : Term} {A : Array Value} {s E : State} {w : Value} (hc : T.closed = true) (hw : T.eval A s none [] s = some w) (hk : VKind.int.ok w = true ∨ VKind.long.ok w = true) : (own_says T).after A s (.returned (some w)) E = true := by
  have h1 : (Term.old T).eval A s (some (.returned (some w))) [] E = some w := by
    show T.eval A s (some (.returned (some w))) [] s = some w
    rw [Term.eval_closed (some (.returned (some w))) [] T s hc]; exact hw
  have h2 : Term.result.eval A s (some (.returned (some w))) [] E = some w := rfl
  rcases hk with hk | hk
  · obtain ⟨x, rfl⟩ := own_int hk
    simp [own_says, Cond.after, Cond.holds, Cond.value, h1, h2]
  · obtain ⟨x, rfl⟩ := own_long hk
    simp [own_says, Cond.after, Cond.holds, Cond.value, h1, h2]
theorem own_callee {l : Launch} {y : MethodName} {code : ByteArray} {maxL : Nat} {ret : Option FieldType} {ks : List VKind} {I : Info} {n : Nat} {t : STree} {tabs needs extra : List Cond} {post : Cond}
    (hx : plainName y.cls = true) (hown : I.own = y.cls) (hr : I.ret = ret)
    (hw : walkTo I code [] n true (entry ks maxL) = some (t, tabs, needs)) (hcalls : CallsOk l I maxL I.room)
    (hn : (needs.all (own_chk ks (.code y code maxL ret :: (tabs ++ extra)) [])) = true) (hp : Kit.pureVal t = true)
    (hv : ∀ A s, own_Kinds ks A → ∃ w, Kit.valueOf A s t = some w ∧ ∀ E, post.after A s (.returned (some w)) E = true) :
    MeetsLoose l y (specOf y code maxL ret ks post (tabs ++ extra) [] I.room) := by
  refine loops_meets (I := I) (ks0 := ks) (cuts := []) hx hown hr rfl rfl rfl (fun args s h => ?_) hw (fun _ => none) (fun _ _ _ _ _ => False) (fun _ _ _ => 0) (fun args s h => ?_) (fun args s _ h ks hks => by cases hks) hcalls
  · exact conj_before h _ List.mem_cons_self
  · have hall := conj_before h
    have hsz : args.size = ks.length := by
      have := hall (.count ks.length) (by simp)
      simpa [Cond.before, Cond.holds, Cond.value] using this
    have hq : ∀ q ∈ Sym.sorts 0 ks, q.before args s = true := fun q hq => hall q (by simp [hq])
    have hK := own_Kinds_of hsz hq
    have hT : ∀ c ∈ (Cond.code y code maxL ret :: (tabs ++ extra)), c.value args s none s [] = some true := fun c hc => by
      have : c.before args s = true := hall c (by
        rcases List.mem_cons.mp hc with rfl | hc
        · exact List.mem_cons_self
        · rcases List.mem_append.mp hc with hc | hc <;> simp [hc])
      simpa [Cond.before, Cond.holds] using this
    obtain ⟨w, hw1, hw2⟩ := hv args s hK
    refine ⟨hsz, hq, fun q h => hall q (by simp [h]), fun q hq => ?_, Kit.vc_of_value (w₀ := w) (fun E => hw2 E) t hp hw1⟩
    have := own_chk_sound (s := s) hK hT (fun c hc => by cases hc) q (List.all_eq_true.mp hn q hq)
    simpa [Cond.before, Cond.holds] using this
/-! own 6: a boolean as a term of ints -/
def own_TB (A : Array Value) (s : State) (T : Term) (P : Prop) : Prop := (P → T.eval A s none [] s = some (.int 1)) ∧ (¬ P → T.eval A s none [] s = some (.int 0))
def own_tltL (a b : Term) : Term := .op2 .iushr (.op2 .lcmp a b) (.int 31)
def own_tlt (a b : Term) : Term := own_tltL (.op1 .i2l a) (.op1 .i2l b)
def own_tnot (a : Term) : Term := .sub (.int 1) a
def own_tand (a b : Term) : Term := .op2 .iand a b
def own_tor (a b : Term) : Term := .op2 .ior a b
section
variable {A : Array Value} {s : State} {P Q : Prop} {ta tb T U : Term} {X Y : Int}
theorem own_tb_ltL {x y : Int64} (ha : ta.eval A s none [] s = some (.long x)) (hb : tb.eval A s none [] s = some (.long y)) (hX : x.toInt = X) (hY : y.toInt = Y) : own_TB A s (own_tltL ta tb) (X < Y) := by
  have h : (own_tltL ta tb).eval A s none [] s = some (.int (((if x > y then (1 : Int32) else if x == y then 0 else -1).toUInt32 >>> ((31 : Int32) &&& 31).toUInt32).toInt32)) := by
    simp only [own_tltL, Term.eval, ha, hb]; rfl
  subst hX hY
  rcases own_lcmp_cases x y with ⟨h1, e⟩ | ⟨h1, e⟩ | ⟨h1, e⟩ <;> rw [e] at h <;> refine ⟨fun p => ?_, fun p => ?_⟩ <;> first | omega | exact h
theorem own_tb_lt {x y : Int32} (ha : ta.eval A s none [] s = some (.int x)) (hb : tb.eval A s none [] s = some (.int y)) (hX : x.toInt = X) (hY : y.toInt = Y) : own_TB A s (own_tlt ta tb) (X < Y) :=
  own_tb_ltL (x := x.toInt64) (y := y.toInt64) (by simp only [Term.eval, ha]; rfl) (by simp only [Term.eval, hb]; rfl) ((Int32.toInt_toInt64 x).trans hX) ((Int32.toInt_toInt64 y).trans hY)
theorem own_tb_not (h : own_TB A s T P) : own_TB A s (own_tnot T) (¬ P) :=
  ⟨fun p => by simp only [own_tnot, Term.eval, h.2 p]; rfl, fun p => by simp only [own_tnot, Term.eval, h.1 (Classical.not_not.mp p)]; rfl⟩
theorem own_tb_and (h : own_TB A s T P) (k : own_TB A s U Q) : own_TB A s (own_tand T U) (P ∧ Q) := by
  by_cases p : P <;> by_cases q : Q
  · exact ⟨fun _ => by simp only [own_tand, Term.eval, h.1 p, k.1 q]; rfl, fun z => absurd ⟨p, q⟩ z⟩
  · exact ⟨fun z => absurd z.2 q, fun _ => by simp only [own_tand, Term.eval, h.1 p, k.2 q]; rfl⟩
  · exact ⟨fun z => absurd z.1 p, fun _ => by simp only [own_tand, Term.eval, h.2 p, k.1 q]; rfl⟩
  · exact ⟨fun z => absurd z.1 p, fun _ => by simp only [own_tand, Term.eval, h.2 p, k.2 q]; rfl⟩
theorem own_tb_or (h : own_TB A s T P) (k : own_TB A s U Q) : own_TB A s (own_tor T U) (P ∨ Q) := by
  by_cases p : P <;> by_cases q : Q
  · exact ⟨fun _ => by simp only [own_tor, Term.eval, h.1 p, k.1 q]; rfl, fun z => absurd (Or.inl p) z⟩
  · exact ⟨fun _ => by simp only [own_tor, Term.eval, h.1 p, k.2 q]; rfl, fun z => absurd (Or.inl p) z⟩
  · exact ⟨fun _ => by simp only [own_tor, Term.eval, h.2 p, k.1 q]; rfl, fun z => absurd (Or.inr q) z⟩
  · exact ⟨fun z => (z.elim (absurd · p) (absurd · q)), fun _ => by simp only [own_tor, Term.eval, h.2 p, k.2 q]; rfl⟩
theorem own_tb_iff (h : own_TB A s T P) (e : P ↔ Q) : own_TB A s T Q := ⟨fun q => h.1 (e.mpr q), fun q => h.2 (fun p => q (e.mp p))⟩
theorem own_tb_some (h : own_TB A s T P) : ∃ x : Int32, T.eval A s none [] s = some (.int x) := by
  by_cases p : P
  · exact ⟨1, h.1 p⟩
  · exact ⟨0, h.2 p⟩
theorem own_eq_tb1 (h : own_TB A s T P) (hb : tb.eval A s none [] s = some (.int 1)) : own_Is A s (.eq (.old T) tb) P :=
  ⟨fun p => by rw [Cond.eq_ints (show (Term.old T).eval A s none [] s = _ from h.1 p) hb]; rfl, fun p => by rw [Cond.eq_ints (show (Term.old T).eval A s none [] s = _ from h.2 p) hb]; rfl⟩
theorem own_eq_tb0 (h : own_TB A s T P) (hb : tb.eval A s none [] s = some (.int 0)) : own_Is A s (.eq (.old T) tb) (¬ P) :=
  ⟨fun p => by rw [Cond.eq_ints (show (Term.old T).eval A s none [] s = _ from h.2 p) hb]; rfl, fun p => by rw [Cond.eq_ints (show (Term.old T).eval A s none [] s = _ from h.1 (Classical.not_not.mp p)) hb]; rfl⟩
theorem own_eq_self (h : own_TB A s T P) : own_Is A s (.eq (.old T) (.old T)) True := by
  obtain ⟨x, e⟩ := own_tb_some h
  exact ⟨fun _ => by rw [Cond.eq_ints (show (Term.old T).eval A s none [] s = _ from e) (show (Term.old T).eval A s none [] s = _ from e)]; simp, fun p => absurd trivial p⟩
/-- a callee that answers P by 1 or 0, its promise the term T -/
theorem own_bool {t : STree} (h : own_TB A s T P) (hc : T.closed = true) (h1 : P → Kit.valueOf A s t = some (.int 1)) (h0 : ¬ P → Kit.valueOf A s t = some (.int 0)) : ∃ w, Kit.valueOf A s t = some w ∧ ∀ E, (own_says T).after A s (.returned (some w)) E = true := by
  by_cases p : P
  · exact ⟨_, h1 p, fun E => own_says_after hc (h.1 p) (Or.inl rfl)⟩
  · exact ⟨_, h0 p, fun E => own_says_after hc (h.2 p) (Or.inl rfl)⟩
end
end Jvm.Pilot.@@N@@
namespace Jvm.Pilot.@@N@@
open Jvm Jvm.ClassFile Sem Op Jvm.Sym Jvm.Pilot.@@N@@.Jvm.D
end Jvm.Pilot.@@N@@
namespace Jvm.Pilot.@@N@@
open Jvm Jvm.ClassFile Sem Op Lib Jvm.Free Jvm.Stand Jvm.LawKit Jvm.RoadKit Bundle Jvm.Pilot.@@N@@.Jvm.D
/-! own 8: the goal at a frame, one step -/
abbrev own_G (tb : Tables) (e : Env) (below : List Frame) (F : State → Outcome → Prop) (U : State) : Prop := ∃ s₂ o, Steps tb e below U s₂ ∧ F s₂ o
theorem own_via {tb : Tables} {e : Env} {below : List Frame} {F : State → Outcome → Prop} {U U' : State} (h : ∀ t, Steps tb e below U' t → Steps tb e below U t) (k : own_G tb e below F U') : own_G tb e below F U := by
  obtain ⟨s₂, o, h1, h2⟩ := k
  exact ⟨s₂, o, h s₂ h1, h2⟩
/-! own 9: a contract of the walk by evaluation, spent in a walk by hand -/
theorem own_conj {args : Array Value} {s : State} : ∀ (L : List Jvm.Cond), (∀ c ∈ L, c.before args s = true) → (Jvm.Sym.conj L).before args s = true
  | [], _ => rfl
  | c :: L, h => by
    show (Jvm.Cond.and c (Jvm.Sym.conj L)).before args s = true
    rw [Cond.before_and, h c List.mem_cons_self, own_conj L fun d hd => h d (List.mem_cons_of_mem _ hd)]; rfl
theorem own_tabs (T : List Jvm.Cond) {a0 : Array Value} {Z : State} (hw : ∀ d ∈ tables_1, d.before a0 Z = true) (h : (T.all fun d => tables_1.contains d) = true) : ∀ d ∈ T, d.before a0 Z = true :=
  fun d hd => hw d (List.contains_iff_mem.mp (List.all_eq_true.mp h d hd))
theorem own_free {l : Launch} {y : MethodName} {bytes : ByteArray} {maxL : Nat} {ret : Option FieldType} {ks : List Jvm.Sym.VKind} {post : Jvm.Cond} {TT : List Jvm.Cond} {room : Room} (hM : MeetsLoose l y (Jvm.Sym.specOf y bytes maxL ret ks post TT [] room))
    {Z : State} {a0 : Array Value} (hT : ∀ d ∈ TT, d.before a0 Z = true) (hTo : (TT.all fun d => d.onTables && d.keepsFace) = true) (hrc : room.cells = 0) (hrs : room.slots = 0) {as' : Array Value} (hK : own_Kinds ks as') {h : Heap} {Qv : Option Value → Prop}
    (hQ : ∀ U o U', post.after as' U o U' = true → ∃ v, o = .returned v ∧ Qv v) :
    MetFree l y (head1 [Jvm.Cond.code y bytes maxL ret] room) (fun a U => a = as' ∧ Z.Warmed39 U.vm ∧ U.heap = h) (fun _ _ _ _ _ => True) (fun _ U o U' => ∃ v L, o = .returned v ∧ (Qv v ∧ L = [] ∧ U'.heap = h) ∧ FrameEnd U o U' L room.cells room.slots) := by
  intro p e ha hc hk s m args below hf happ hP _
  obtain ⟨rfl, hZ, hh⟩ := hP
  obtain ⟨a1, a2, a3, a4, a5, a6, a7, a8⟩ := (Spec.appliesLoose_iff hf).mp happ
  have hcode : (Jvm.Cond.code y bytes maxL ret).before args s = true := by
    have : (Jvm.Cond.and (Jvm.Cond.code y bytes maxL ret) .tt).before args s = true := a8
    rw [Cond.before_and, Bool.and_eq_true] at this; exact this.1
  have hpre : (Jvm.Sym.specOf y bytes maxL ret ks post TT [] room).pre.before args s = true := by
    refine own_conj _ fun c hc => ?_
    rcases List.mem_cons.mp hc with rfl | hc
    · exact hcode
    · rcases List.mem_cons.mp hc with rfl | hc
      · have := hK.size
        simp [Cond.before, Cond.holds, Cond.value, this]
      · simp only [List.append_nil, List.mem_append] at hc
        rcases hc with hc | hc
        · exact own_Kinds.sorts 0 (fun j => by simp) hK c hc
        · exact mv hZ (hT c hc) (List.all_eq_true.mp hTo c hc)
  obtain ⟨n, o, h1, h2, h3, h4⟩ := hM p e ha hc hk s m args below hf ((Spec.appliesLoose_iff hf).mpr ⟨a1, a2, a3, a4, a5, a6, a7, hpre⟩)
  obtain ⟨hpo, hfr⟩ := h4
  obtain ⟨v, hv, hq⟩ := hQ _ _ _ hpo
  have hfr' : s.WarmedH (stepsAlone p.tables e n s).vm ∧ s.sameBut ({ stepsAlone p.tables e n s with vm := s.vm } : State) [] := by
    simpa [Spec.frees, fieldLocs, arrayLocs, staticLocs, Jvm.Sym.specOf] using hfr
  have hFE : FrameEnd s o (stepsAlone p.tables e n s) [] 0 0 := ⟨⟨v, hv⟩, hfr'.1, hfr'.2.sameButNew 0 0⟩
  refine ⟨n, o, h1, h2, h3, v, [], hv, ⟨hq, rfl, (heap_of_end hFE).trans hh⟩, ?_⟩
  rw [hrc, hrs]; exact hFE
section
variable {p : Program} {l : Launch} {e : Env} {R : Room} {s : State} {m : MethodId} {args : Array Value} {below : List Frame} {meth : Method} {c : Code} {T : State} {locs : List Loc} {cells slots : Nat} {Z : State} {a0 : Array Value} {h : Heap}
theorem own_pure {W : Nat} (X : Stand p l e R s m args below meth c T locs cells slots) (hx : p.tables.exec = Jvm.exec) (hZ : Z.Warmed39 s.vm) {own : String} {index : Nat} {y : MethodName} {bytes : ByteArray} {maxL : Nat} {ret : Option FieldType} {ks : List Jvm.Sym.VKind} {post : Jvm.Cond} {TT : List Jvm.Cond} {room : Room}
    (hown : s.vm.findClass own = some m.cls) (w1 : (Jvm.Cond.methodLink own index y).before a0 Z = true) (w2 : (Jvm.Cond.static y).before a0 Z = true) (w3 : (Jvm.Cond.initialized y.cls).before a0 Z = true) (w4 : (Jvm.Cond.code y bytes maxL ret).before a0 Z = true) (hy : y.cls ≠ "java/lang/invoke/MethodHandle" ∧ y.cls ≠ "java/lang/invoke/VarHandle")
    (hM : MeetsLoose l y (Jvm.Sym.specOf y bytes maxL ret ks post TT [] room)) (hT : ∀ d ∈ TT, d.before a0 Z = true) (hTo : (TT.all fun d => d.onTables && d.keepsFace) = true) (hrc : room.cells = 0) (hrs : room.slots = 0) (eT : T.heap = h)
    {g : JFrame} (hg : g.method = m) (hsize : g.locals.size = c.maxLocals) {argsL rest : List Value} (hlen : ∀ sig, parseMethodDescriptor y.desc = some sig → argsL.length = sig.parameters.length)
    (hstack : g.stack = argsL.reverse ++ rest) (hW : 2 * g.monitorRoom + (rest.map fun v => v.category).sum ≤ W) (hd : decode c.code g.pc = .ok (.invokestatic index, 3)) (hK : own_Kinds ks argsL.toArray) {Qv : Option Value → Prop}
    (hQ : ∀ U o U', post.after argsL.toArray U o U' = true → ∃ v, o = .returned v ∧ Qv v) (hf : room.frames + 1 ≤ R.frames) (hl : W + (maxL + 11) + room.locals ≤ R.locals) (hc : cells ≤ R.cells) (hs : slots ≤ R.slots) :
    ∃ (v : Option Value) (T' : State), Stand p l e R s m args below meth c T' locs cells slots ∧ T'.heap = h ∧ Qv v ∧
      ∀ target, Steps p.tables e below (T'.setTop { g with pc := g.pc + 3, stack := v.toList ++ rest }) target → Steps p.tables e below (T.setTop g) target := by
  obtain ⟨v, _, ⟨T4, L4, k4, n4⟩, -, X4, ⟨Lc4, hQ4, l4, y4, z4⟩, st4⟩ := Jvm.LawKit.callS X hx (y := y) hown (mvT hZ w1) (mvT hZ w2) (mvT hZ w3) (mvT hZ w4) hy
    (backOf (W := W) (Q := fun v h' L => Qv v ∧ L = [] ∧ h' = h) (own_free hM hT hTo hrc hrs hK (h := h) hQ) hZ w4 w3 hf hl) (g := g) hg hsize (argsL := argsL) (rest := rest) hlen hstack hW hd (fun _ _ => ⟨rfl, eT, by rw [hrc]; exact hc, by rw [hrs]; exact hs⟩)
  dsimp only [Pt.U, Pt.locs, Pt.cells, Pt.slots] at X4 l4 y4 z4 st4 hQ4
  obtain ⟨hq, rfl, hh⟩ := hQ4
  rw [hrc] at y4
  rw [hrs] at z4
  simp only [List.append_nil, Nat.add_zero] at l4 y4 z4
  subst l4 y4 z4
  exact ⟨v, T4, X4, hh, hq, st4⟩
end
/-! own 10: what a contract's promise says of the value that comes back; joins -/
theorem own_ints (zs : List Int32) (i : Nat) : ∃ z : Int32, (zs.map Value.int).getD i (.int (0 : Int32)) = .int z := by
  induction zs generalizing i with
  | nil => exact ⟨0, rfl⟩
  | cons a zs ih =>
    cases i with
    | zero => exact ⟨a, rfl⟩
    | succ i => exact ih i
theorem own_inb {j z : Int32} (n : Int) (hz : z.toInt = n) (h0 : 0 ≤ j.toInt) (h1 : j.toInt < n) : ¬ j < 0 ∧ j < z := by
  rw [Int32.lt_iff_toInt_lt, Int32.lt_iff_toInt_lt, hz, show (0 : Int32).toInt = 0 from rfl]; omega
theorem own_says_get {T : Term} {A : Array Value} {U U' : State} {o : Outcome} (hc : T.closed = true) (h : (own_says T).after A U o U' = true) : ∃ w, o = .returned (some w) ∧ T.eval A U none [] U = some w := by
  simp only [own_says, Cond.after_and, Bool.and_eq_true] at h
  obtain ⟨y, e1, e2⟩ := Cond.eq_one (show (Jvm.Cond.eq .result (.old T)).holds A U (some o) U' [] = true from h.2)
  cases o with
  | threw a => simp [Term.eval] at e1
  | returned v =>
    have : v = some y := by simpa [Term.eval] using e1
    subst this
    refine ⟨y, rfl, ?_⟩
    have e3 : T.eval A U (some (.returned (some y))) [] U = some y := e2
    rw [Term.eval_closed (some (.returned (some y))) [] T U hc] at e3
    exact e3
theorem own_says_int {n : Int32} {A : Array Value} {U U' : State} {o : Outcome} (h : (own_says (.int n)).after A U o U' = true) : ∃ v, o = .returned v ∧ v = some (.int n) := by
  obtain ⟨w, h1, h2⟩ := own_says_get (T := .int n) rfl h
  cases h2
  exact ⟨_, h1, rfl⟩
theorem own_says_bool {T : Term} {A : Array Value} {P : Prop} [Decidable P] {U U' : State} {o : Outcome} (hc : T.closed = true) (hT : own_TB A U T P) (h : (own_says T).after A U o U' = true) : ∃ v, o = .returned v ∧ v = some (.int (if P then 1 else 0)) := by
  obtain ⟨w, h1, h2⟩ := own_says_get hc h
  refine ⟨_, h1, ?_⟩
  by_cases p : P
  · rw [hT.1 p] at h2; cases h2; simp [p]
  · rw [hT.2 p] at h2; cases h2; simp [p]
theorem own_join {α : Type} {tb : Tables} {e : Env} {below : List Frame} {F : State → Outcome → Prop} {U0 : State} (P : α → Prop) (U : α → State) (h : ∀ F', (∀ a, P a → own_G tb e below F' (U a)) → own_G tb e below F' U0) (k : ∀ a, P a → own_G tb e below F (U a)) : own_G tb e below F U0 := h F k
end Jvm.Pilot.@@N@@
namespace Jvm.Pilot.@@N@@
open Jvm Jvm.ClassFile Sem Op Lib Jvm.Free Jvm.Stand Jvm.LawKit Jvm.RoadKit Bundle Jvm.Pilot.@@N@@.Jvm.D
end Jvm.Pilot.@@N@@
namespace Jvm.RoadKit
open Sem ClassFile Op Lib Jvm.Stand Jvm.Free Jvm.LawKit
section New
variable {p : Program} {l : Launch} {e : Env} {R : Room} {s : State} {m : MethodId} {args : Array Value} {below : List Frame} {meth : Method} {c : Code} {T : State} {locs : List Loc} {cells slots : Nat}
theorem retI (X : Stand p l e R s m args below meth c T locs cells slots) (hx : p.tables.exec = Jvm.exec) {pc : Nat} {Ls : Array Slot} {z : Int32} {rest : List Value} (hret : meth.sig.returnType = some .int) (hd : decode c.code pc = .ok (.ireturn, 1)) {fs : List Frame}
    (hl : ∀ (f : JFrame) (acts : List Action), f.method = m → f.locked = none → f.entered = [] → (doReturn e (T.setTop f) acts (some (.int z))).1 = T.setFrames fs) : Steps p.tables e below (T.setTop (mkF m pc Ls (.int z :: rest))) (T.setFrames fs) := by
  have hm' : T.vm.method? m = some meth := X.method'
  have hn : narrow .int (.int z) = .int z := rfl
  show Steps p.tables e below (T.setTop { method := m, pc := pc, locals := Ls, stack := _ :: rest, locked := none }) _
  jvm_step X.here [X.here.top, hx, hd, hm', hret, hn]
  first | (intro acts; rw [hl _ acts rfl rfl rfl]) | rw [hl _ _ rfl rfl rfl]
  exact Steps.refl _
end New
end Jvm.RoadKit
namespace Jvm.Pilot.@@N@@
open Jvm Jvm.ClassFile Sem Op Lib Jvm.Free Jvm.Stand Jvm.LawKit Jvm.RoadKit Bundle Jvm.Pilot.@@N@@.Jvm.D
theorem pd_0 : parseMethodDescriptor "([I)I" = some ⟨[(.array .int)], some .int⟩ := by decide +kernel
theorem dh0_0 : decode prog_16_method_11_code 0 = .ok (.iconst 0, 1) := by decide +kernel
theorem dh0_1 : decode prog_16_method_11_code 1 = .ok (.istore_n 1, 1) := by decide +kernel
theorem dh0_2 : decode prog_16_method_11_code 2 = .ok (.aload_n 0, 1) := by decide +kernel
theorem dh0_3 : decode prog_16_method_11_code 3 = .ok (.astore_n 2, 1) := by decide +kernel
theorem dh0_4 : decode prog_16_method_11_code 4 = .ok (.aload_n 2, 1) := by decide +kernel
theorem dh0_5 : decode prog_16_method_11_code 5 = .ok (.arraylength, 1) := by decide +kernel
theorem dh0_6 : decode prog_16_method_11_code 6 = .ok (.istore_n 3, 1) := by decide +kernel
theorem dh0_7 : decode prog_16_method_11_code 7 = .ok (.iconst 0, 1) := by decide +kernel
theorem dh0_8 : decode prog_16_method_11_code 8 = .ok (.istore 4, 2) := by decide +kernel
theorem dh0_10 : decode prog_16_method_11_code 10 = .ok (.iload 4, 2) := by decide +kernel
theorem dh0_12 : decode prog_16_method_11_code 12 = .ok (.iload_n 3, 1) := by decide +kernel
theorem dh0_13 : decode prog_16_method_11_code 13 = .ok (.if_icmp .ge 20, 3) := by decide +kernel
theorem dh0_16 : decode prog_16_method_11_code 16 = .ok (.aload_n 2, 1) := by decide +kernel
theorem dh0_17 : decode prog_16_method_11_code 17 = .ok (.iload 4, 2) := by decide +kernel
theorem dh0_19 : decode prog_16_method_11_code 19 = .ok (.iaload, 1) := by decide +kernel
theorem dh0_20 : decode prog_16_method_11_code 20 = .ok (.istore 5, 2) := by decide +kernel
theorem dh0_22 : decode prog_16_method_11_code 22 = .ok (.iload_n 1, 1) := by decide +kernel
theorem dh0_23 : decode prog_16_method_11_code 23 = .ok (.iload 5, 2) := by decide +kernel
theorem dh0_25 : decode prog_16_method_11_code 25 = .ok (.iadd, 1) := by decide +kernel
theorem dh0_26 : decode prog_16_method_11_code 26 = .ok (.istore_n 1, 1) := by decide +kernel
theorem dh0_27 : decode prog_16_method_11_code 27 = .ok (.iinc 4 1, 3) := by decide +kernel
theorem dh0_30 : decode prog_16_method_11_code 30 = .ok (.goto (-20), 3) := by decide +kernel
theorem dh0_33 : decode prog_16_method_11_code 33 = .ok (.iload_n 1, 1) := by decide +kernel
theorem dh0_34 : decode prog_16_method_11_code 34 = .ok (.ireturn, 1) := by decide +kernel
theorem pn_h0 : plainName "com/example/vanon/vanon/lattice/Lattice" = true := by first | (simp [plainName, overriddenIn]; done) | decide +kernel
theorem ef_h0 (m : MethodId) (a : Addr) : entryFrame m #[(.ref a)] 6 = (mkF m 0 #[.val (.ref a), .unset, .unset, .unset, .unset, .unset] []) := by first | (simp [entryFrame, mkF, argsToLocals, Value.category]; done) | rfl
def Qh0 (Z : State) (a : Addr) (kk0 : ClassId) (h0 : Heap) (n0 : Nat) (v : Option Value) (h : Heap) (L : List Loc) : Prop := v = some (.int (0 : Int32)) ∧ Fr n0 L ∧ h = h0
set_option maxRecDepth 65536 in
set_option maxHeartbeats 40000000 in
theorem rmh0 (l : Launch) (Z : State) (a0 : Array Value) (hw : ∀ d ∈ tables_1, d.before a0 Z = true) (ws : List Jvm.Cond) (a : Addr) (kk0 : ClassId) (h0 : Heap) (n0 : Nat) (Z0 : n0 ≤ h0.size) (V_a : Arv Z h0 a kk0 .int (0 : Int32) ([] : List Value) (.int (0 : Int32))) :
    MetFree l (⟨"com/example/vanon/vanon/lattice/Lattice", "height", "([I)I"⟩ : MethodName) (head1 (Jvm.Cond.code (⟨"com/example/vanon/vanon/lattice/Lattice", "height", "([I)I"⟩ : MethodName) prog_16_method_11_code 6 (some .int) :: ws) ({ frames := 0, cells := 0, slots := 0, locals := 0 } : Room)) (fun as' U => as' = #[(.ref a)] ∧ Z.Warmed39 U.vm ∧ U.heap = h0) (fun _ _ _ _ _ => True) (fun _ U o U' => ∃ v L, o = .returned v ∧ Qh0 Z a kk0 h0 n0 v U'.heap L ∧ FrameEnd U o U' L ({ frames := 0, cells := 0, slots := 0, locals := 0 } : Room).cells ({ frames := 0, cells := 0, slots := 0, locals := 0 } : Room).slots) := by
  refine MetFree.of_bodySF (plainFor_of_name pn_h0) hisR ?_
  intro p e s m args below meth c s₁ Bd hml0 hP hK
  obtain ⟨rfl, hZ, hh⟩ := hP
  have hx := Bd.exec
  have hby := Bd.bytes
  have hml : c.maxLocals = 6 := hml0
  have hown : s.vm.findClass "com/example/vanon/vanon/lattice/Lattice" = some m.cls := findClass_of_methodNamed Bd.named
  have hnm := (name_of_methodNamed Bd.named Bd.method).1
  have X0 : Stand p l e ({ frames := 0, cells := 0, slots := 0, locals := 0 } : Room) s m #[(.ref a)] below meth c s₁ [] 0 0 := Stand.of_body Bd
  have e0 : s₁.heap = h0 := by rw [← hh, Bd.state]; rfl
  have N0 := Fr.nil n0
  refine own_via (fun t k => castTop (ef_h0 m a) k) ?_
  show own_G _ _ _ _ (s₁.setTop (mkF m 0 #[.val (.ref a), .unset, .unset, .unset, .unset, .unset] []))
  refine own_via (fun _ k => XS.iconst X0.here hx rfl (hb hby dh0_0) k) ?_
  show own_G _ _ _ _ (s₁.setTop (mkF m 1 #[.val (.ref a), .unset, .unset, .unset, .unset, .unset] [(.int (0 : Int32))]))
  refine own_via (fun _ k => XS.istoreN X0.here hx rfl (hb hby dh0_1) rfl (l' := #[.val (.ref a), .val (.int (0 : Int32)), .unset, .unset, .unset, .unset]) rfl k) ?_
  show own_G _ _ _ _ (s₁.setTop (mkF m 2 #[.val (.ref a), .val (.int (0 : Int32)), .unset, .unset, .unset, .unset] []))
  refine own_via (fun _ k => XS.aloadN X0.here hx rfl (hb hby dh0_2) rfl rfl k) ?_
  show own_G _ _ _ _ (s₁.setTop (mkF m 3 #[.val (.ref a), .val (.int (0 : Int32)), .unset, .unset, .unset, .unset] [(.ref a)]))
  refine own_via (fun _ k => XS.astoreN X0.here hx rfl (hb hby dh0_3) rfl rfl (l' := #[.val (.ref a), .val (.int (0 : Int32)), .val (.ref a), .unset, .unset, .unset]) rfl k) ?_
  show own_G _ _ _ _ (s₁.setTop (mkF m 4 #[.val (.ref a), .val (.int (0 : Int32)), .val (.ref a), .unset, .unset, .unset] []))
  refine own_via (fun _ k => XS.aloadN X0.here hx rfl (hb hby dh0_4) rfl rfl k) ?_
  show own_G _ _ _ _ (s₁.setTop (mkF m 5 #[.val (.ref a), .val (.int (0 : Int32)), .val (.ref a), .unset, .unset, .unset] [(.ref a)]))
  obtain ⟨cl1, Ar1, -, Sz1, Nn1, -, -⟩ := id V_a
  refine own_via (fun _ k => X0.arraylength hx (by rw [e0]; exact Ar1.1) (State.isArrayOf_alike hZ.alike Ar1.2.1) (g := (mkF m 5 #[.val (.ref a), .val (.int (0 : Int32)), .val (.ref a), .unset, .unset, .unset] [(.ref a)])) rfl rfl (hb hby dh0_5) _ k) ?_
  rw [len_of Sz1 Nn1]
  show own_G _ _ _ _ (s₁.setTop (mkF m 6 #[.val (.ref a), .val (.int (0 : Int32)), .val (.ref a), .unset, .unset, .unset] [(.int (0 : Int32))]))
  refine own_via (fun _ k => XS.istoreN X0.here hx rfl (hb hby dh0_6) rfl (l' := #[.val (.ref a), .val (.int (0 : Int32)), .val (.ref a), .val (.int (0 : Int32)), .unset, .unset]) rfl k) ?_
  show own_G _ _ _ _ (s₁.setTop (mkF m 7 #[.val (.ref a), .val (.int (0 : Int32)), .val (.ref a), .val (.int (0 : Int32)), .unset, .unset] []))
  refine own_via (fun _ k => XS.iconst X0.here hx rfl (hb hby dh0_7) k) ?_
  show own_G _ _ _ _ (s₁.setTop (mkF m 8 #[.val (.ref a), .val (.int (0 : Int32)), .val (.ref a), .val (.int (0 : Int32)), .unset, .unset] [(.int (0 : Int32))]))
  refine own_via (fun _ k => XS.istore X0.here hx rfl (hb hby dh0_8) rfl (l' := #[.val (.ref a), .val (.int (0 : Int32)), .val (.ref a), .val (.int (0 : Int32)), .val (.int (0 : Int32)), .unset]) rfl k) ?_
  show own_G _ _ _ _ (s₁.setTop (mkF m 10 #[.val (.ref a), .val (.int (0 : Int32)), .val (.ref a), .val (.int (0 : Int32)), .val (.int (0 : Int32)), .unset] []))
  refine own_via (fun _ k => XS.iload X0.here hx rfl (hb hby dh0_10) rfl k) ?_
  show own_G _ _ _ _ (s₁.setTop (mkF m 12 #[.val (.ref a), .val (.int (0 : Int32)), .val (.ref a), .val (.int (0 : Int32)), .val (.int (0 : Int32)), .unset] [(.int (0 : Int32))]))
  refine own_via (fun _ k => XS.iloadN X0.here hx rfl (hb hby dh0_12) rfl k) ?_
  show own_G _ _ _ _ (s₁.setTop (mkF m 13 #[.val (.ref a), .val (.int (0 : Int32)), .val (.ref a), .val (.int (0 : Int32)), .val (.int (0 : Int32)), .unset] [(.int (0 : Int32)), (.int (0 : Int32))]))
  refine own_via (fun _ k => XS.icmpYes X0.here hx rfl (pc0 := 13) (pc' := 33) rfl (hb hby dh0_13) rfl (flt (by decide)).2.1 (by decide) (by decide) k) ?_
  show own_G _ _ _ _ (s₁.setTop (mkF m 33 #[.val (.ref a), .val (.int (0 : Int32)), .val (.ref a), .val (.int (0 : Int32)), .val (.int (0 : Int32)), .unset] []))
  refine own_via (fun _ k => XS.iloadN X0.here hx rfl (hb hby dh0_33) rfl k) ?_
  show own_G _ _ _ _ (s₁.setTop (mkF m 34 #[.val (.ref a), .val (.int (0 : Int32)), .val (.ref a), .val (.int (0 : Int32)), .val (.int (0 : Int32)), .unset] [(.int (0 : Int32))]))
  obtain ⟨fs, hr, hrun, hended, hW, hsame⟩ := X0.leave (v := some (.int (0 : Int32))) (fun h => by rw [Bd.returns] at h; cases h)
  refine ⟨_, _, ?_, hrun, hended, _, _, rfl, ?_, ⟨_, rfl⟩, hW, hsame.mono (by decide) (by decide)⟩
  · exact retI X0 hx Bd.returns (hb hby dh0_34) hr
  · show Qh0 Z a kk0 h0 n0 _ s₁.heap _
    rw [e0]
    exact ⟨rfl, N0, rfl⟩
theorem pn_h1 : plainName "com/example/vanon/vanon/lattice/Lattice" = true := by first | (simp [plainName, overriddenIn]; done) | decide +kernel
theorem ef_h1 (m : MethodId) (a : Addr) : entryFrame m #[(.ref a)] 6 = (mkF m 0 #[.val (.ref a), .unset, .unset, .unset, .unset, .unset] []) := by first | (simp [entryFrame, mkF, argsToLocals, Value.category]; done) | rfl
def Qh1 (Z : State) (a : Addr) (kk0 : ClassId) (z0 : Int32) (h0 : Heap) (n0 : Nat) (v : Option Value) (h : Heap) (L : List Loc) : Prop := v = some (.int ((0 : Int32) + z0)) ∧ Fr n0 L ∧ h = h0
set_option maxRecDepth 65536 in
set_option maxHeartbeats 40000000 in
theorem rmh1 (l : Launch) (Z : State) (a0 : Array Value) (hw : ∀ d ∈ tables_1, d.before a0 Z = true) (ws : List Jvm.Cond) (a : Addr) (kk0 : ClassId) (z0 : Int32) (h0 : Heap) (n0 : Nat) (Z0 : n0 ≤ h0.size) (V_a : Arv Z h0 a kk0 .int (1 : Int32) [(.int z0)] (.int (0 : Int32))) :
    MetFree l (⟨"com/example/vanon/vanon/lattice/Lattice", "height", "([I)I"⟩ : MethodName) (head1 (Jvm.Cond.code (⟨"com/example/vanon/vanon/lattice/Lattice", "height", "([I)I"⟩ : MethodName) prog_16_method_11_code 6 (some .int) :: ws) ({ frames := 0, cells := 0, slots := 0, locals := 0 } : Room)) (fun as' U => as' = #[(.ref a)] ∧ Z.Warmed39 U.vm ∧ U.heap = h0) (fun _ _ _ _ _ => True) (fun _ U o U' => ∃ v L, o = .returned v ∧ Qh1 Z a kk0 z0 h0 n0 v U'.heap L ∧ FrameEnd U o U' L ({ frames := 0, cells := 0, slots := 0, locals := 0 } : Room).cells ({ frames := 0, cells := 0, slots := 0, locals := 0 } : Room).slots) := by
  refine MetFree.of_bodySF (plainFor_of_name pn_h1) hisR ?_
  intro p e s m args below meth c s₁ Bd hml0 hP hK
  obtain ⟨rfl, hZ, hh⟩ := hP
  have hx := Bd.exec
  have hby := Bd.bytes
  have hml : c.maxLocals = 6 := hml0
  have hown : s.vm.findClass "com/example/vanon/vanon/lattice/Lattice" = some m.cls := findClass_of_methodNamed Bd.named
  have hnm := (name_of_methodNamed Bd.named Bd.method).1
  have X0 : Stand p l e ({ frames := 0, cells := 0, slots := 0, locals := 0 } : Room) s m #[(.ref a)] below meth c s₁ [] 0 0 := Stand.of_body Bd
  have e0 : s₁.heap = h0 := by rw [← hh, Bd.state]; rfl
  have N0 := Fr.nil n0
  refine own_via (fun t k => castTop (ef_h1 m a) k) ?_
  show own_G _ _ _ _ (s₁.setTop (mkF m 0 #[.val (.ref a), .unset, .unset, .unset, .unset, .unset] []))
  refine own_via (fun _ k => XS.iconst X0.here hx rfl (hb hby dh0_0) k) ?_
  show own_G _ _ _ _ (s₁.setTop (mkF m 1 #[.val (.ref a), .unset, .unset, .unset, .unset, .unset] [(.int (0 : Int32))]))
  refine own_via (fun _ k => XS.istoreN X0.here hx rfl (hb hby dh0_1) rfl (l' := #[.val (.ref a), .val (.int (0 : Int32)), .unset, .unset, .unset, .unset]) rfl k) ?_
  show own_G _ _ _ _ (s₁.setTop (mkF m 2 #[.val (.ref a), .val (.int (0 : Int32)), .unset, .unset, .unset, .unset] []))
  refine own_via (fun _ k => XS.aloadN X0.here hx rfl (hb hby dh0_2) rfl rfl k) ?_
  show own_G _ _ _ _ (s₁.setTop (mkF m 3 #[.val (.ref a), .val (.int (0 : Int32)), .unset, .unset, .unset, .unset] [(.ref a)]))
  refine own_via (fun _ k => XS.astoreN X0.here hx rfl (hb hby dh0_3) rfl rfl (l' := #[.val (.ref a), .val (.int (0 : Int32)), .val (.ref a), .unset, .unset, .unset]) rfl k) ?_
  show own_G _ _ _ _ (s₁.setTop (mkF m 4 #[.val (.ref a), .val (.int (0 : Int32)), .val (.ref a), .unset, .unset, .unset] []))
  refine own_via (fun _ k => XS.aloadN X0.here hx rfl (hb hby dh0_4) rfl rfl k) ?_
  show own_G _ _ _ _ (s₁.setTop (mkF m 5 #[.val (.ref a), .val (.int (0 : Int32)), .val (.ref a), .unset, .unset, .unset] [(.ref a)]))
  obtain ⟨cl2, Ar2, -, Sz2, Nn2, -, -⟩ := id V_a
  refine own_via (fun _ k => X0.arraylength hx (by rw [e0]; exact Ar2.1) (State.isArrayOf_alike hZ.alike Ar2.2.1) (g := (mkF m 5 #[.val (.ref a), .val (.int (0 : Int32)), .val (.ref a), .unset, .unset, .unset] [(.ref a)])) rfl rfl (hb hby dh0_5) _ k) ?_
  rw [len_of Sz2 Nn2]
  show own_G _ _ _ _ (s₁.setTop (mkF m 6 #[.val (.ref a), .val (.int (0 : Int32)), .val (.ref a), .unset, .unset, .unset] [(.int (1 : Int32))]))
  refine own_via (fun _ k => XS.istoreN X0.here hx rfl (hb hby dh0_6) rfl (l' := #[.val (.ref a), .val (.int (0 : Int32)), .val (.ref a), .val (.int (1 : Int32)), .unset, .unset]) rfl k) ?_
  show own_G _ _ _ _ (s₁.setTop (mkF m 7 #[.val (.ref a), .val (.int (0 : Int32)), .val (.ref a), .val (.int (1 : Int32)), .unset, .unset] []))
  refine own_via (fun _ k => XS.iconst X0.here hx rfl (hb hby dh0_7) k) ?_
  show own_G _ _ _ _ (s₁.setTop (mkF m 8 #[.val (.ref a), .val (.int (0 : Int32)), .val (.ref a), .val (.int (1 : Int32)), .unset, .unset] [(.int (0 : Int32))]))
  refine own_via (fun _ k => XS.istore X0.here hx rfl (hb hby dh0_8) rfl (l' := #[.val (.ref a), .val (.int (0 : Int32)), .val (.ref a), .val (.int (1 : Int32)), .val (.int (0 : Int32)), .unset]) rfl k) ?_
  show own_G _ _ _ _ (s₁.setTop (mkF m 10 #[.val (.ref a), .val (.int (0 : Int32)), .val (.ref a), .val (.int (1 : Int32)), .val (.int (0 : Int32)), .unset] []))
  refine own_via (fun _ k => XS.iload X0.here hx rfl (hb hby dh0_10) rfl k) ?_
  show own_G _ _ _ _ (s₁.setTop (mkF m 12 #[.val (.ref a), .val (.int (0 : Int32)), .val (.ref a), .val (.int (1 : Int32)), .val (.int (0 : Int32)), .unset] [(.int (0 : Int32))]))
  refine own_via (fun _ k => XS.iloadN X0.here hx rfl (hb hby dh0_12) rfl k) ?_
  show own_G _ _ _ _ (s₁.setTop (mkF m 13 #[.val (.ref a), .val (.int (0 : Int32)), .val (.ref a), .val (.int (1 : Int32)), .val (.int (0 : Int32)), .unset] [(.int (1 : Int32)), (.int (0 : Int32))]))
  refine own_via (fun _ k => XS.icmpNo X0.here hx rfl (hb hby dh0_13) rfl (tlt (by decide)).2.1 k) ?_
  show own_G _ _ _ _ (s₁.setTop (mkF m 16 #[.val (.ref a), .val (.int (0 : Int32)), .val (.ref a), .val (.int (1 : Int32)), .val (.int (0 : Int32)), .unset] []))
  refine own_via (fun _ k => XS.aloadN X0.here hx rfl (hb hby dh0_16) rfl rfl k) ?_
  show own_G _ _ _ _ (s₁.setTop (mkF m 17 #[.val (.ref a), .val (.int (0 : Int32)), .val (.ref a), .val (.int (1 : Int32)), .val (.int (0 : Int32)), .unset] [(.ref a)]))
  refine own_via (fun _ k => XS.iload X0.here hx rfl (hb hby dh0_17) rfl k) ?_
  show own_G _ _ _ _ (s₁.setTop (mkF m 19 #[.val (.ref a), .val (.int (0 : Int32)), .val (.ref a), .val (.int (1 : Int32)), .val (.int (0 : Int32)), .unset] [(.int (0 : Int32)), (.ref a)]))
  obtain ⟨cl3, Ar3, -, Sz3, Nn3, Hh3, -⟩ := id V_a
  have hin3 : ¬ ((0 : Int32) < 0 ∨ cl3.slots.size ≤ ((0 : Int32)).toNatClampNeg) := inb_of Sz3 ⟨by decide, by decide⟩
  have hat3 : cl3.slots[((0 : Int32)).toNatClampNeg]? = some (.int z0) := Has.at Hh3 hin3 rfl
  refine own_via (fun _ k => X0.iaload hx (j := (0 : Int32)) (v := (.int z0)) (by rw [e0]; exact Ar3.1) (State.isArrayOf_alike hZ.alike Ar3.2.1) Ar3.2.2 hin3 hat3 (g := (mkF m 19 #[.val (.ref a), .val (.int (0 : Int32)), .val (.ref a), .val (.int (1 : Int32)), .val (.int (0 : Int32)), .unset] [(.int (0 : Int32)), (.ref a)])) rfl rfl (hb hby dh0_19) _ k) ?_
  show own_G _ _ _ _ (s₁.setTop (mkF m 20 #[.val (.ref a), .val (.int (0 : Int32)), .val (.ref a), .val (.int (1 : Int32)), .val (.int (0 : Int32)), .unset] [(.int z0)]))
  refine own_via (fun _ k => XS.istore X0.here hx rfl (hb hby dh0_20) rfl (l' := #[.val (.ref a), .val (.int (0 : Int32)), .val (.ref a), .val (.int (1 : Int32)), .val (.int (0 : Int32)), .val (.int z0)]) rfl k) ?_
  show own_G _ _ _ _ (s₁.setTop (mkF m 22 #[.val (.ref a), .val (.int (0 : Int32)), .val (.ref a), .val (.int (1 : Int32)), .val (.int (0 : Int32)), .val (.int z0)] []))
  refine own_via (fun _ k => XS.iloadN X0.here hx rfl (hb hby dh0_22) rfl k) ?_
  show own_G _ _ _ _ (s₁.setTop (mkF m 23 #[.val (.ref a), .val (.int (0 : Int32)), .val (.ref a), .val (.int (1 : Int32)), .val (.int (0 : Int32)), .val (.int z0)] [(.int (0 : Int32))]))
  refine own_via (fun _ k => XS.iload X0.here hx rfl (hb hby dh0_23) rfl k) ?_
  show own_G _ _ _ _ (s₁.setTop (mkF m 25 #[.val (.ref a), .val (.int (0 : Int32)), .val (.ref a), .val (.int (1 : Int32)), .val (.int (0 : Int32)), .val (.int z0)] [(.int z0), (.int (0 : Int32))]))
  refine own_via (fun _ k => XS.iadd X0.here hx rfl (hb hby dh0_25) rfl k) ?_
  show own_G _ _ _ _ (s₁.setTop (mkF m 26 #[.val (.ref a), .val (.int (0 : Int32)), .val (.ref a), .val (.int (1 : Int32)), .val (.int (0 : Int32)), .val (.int z0)] [(.int ((0 : Int32) + z0))]))
  refine own_via (fun _ k => XS.istoreN X0.here hx rfl (hb hby dh0_26) rfl (l' := #[.val (.ref a), .val (.int ((0 : Int32) + z0)), .val (.ref a), .val (.int (1 : Int32)), .val (.int (0 : Int32)), .val (.int z0)]) rfl k) ?_
  show own_G _ _ _ _ (s₁.setTop (mkF m 27 #[.val (.ref a), .val (.int ((0 : Int32) + z0)), .val (.ref a), .val (.int (1 : Int32)), .val (.int (0 : Int32)), .val (.int z0)] []))
  refine own_via (fun _ k => XS.iinc X0.here hx rfl (hb hby dh0_27) rfl (l' := #[.val (.ref a), .val (.int ((0 : Int32) + z0)), .val (.ref a), .val (.int (1 : Int32)), .val (.int ((0 : Int32) + (1 : Int32))), .val (.int z0)]) rfl k) ?_
  show own_G _ _ _ _ (s₁.setTop (mkF m 30 #[.val (.ref a), .val (.int ((0 : Int32) + z0)), .val (.ref a), .val (.int (1 : Int32)), .val (.int ((0 : Int32) + (1 : Int32))), .val (.int z0)] []))
  refine own_via (fun _ k => XS.goto X0.here hx rfl (pc0 := 30) (pc' := 10) rfl (hb hby dh0_30) (by decide) (by decide) k) ?_
  show own_G _ _ _ _ (s₁.setTop (mkF m 10 #[.val (.ref a), .val (.int ((0 : Int32) + z0)), .val (.ref a), .val (.int (1 : Int32)), .val (.int ((0 : Int32) + (1 : Int32))), .val (.int z0)] []))
  refine own_via (fun _ k => XS.iload X0.here hx rfl (hb hby dh0_10) rfl k) ?_
  show own_G _ _ _ _ (s₁.setTop (mkF m 12 #[.val (.ref a), .val (.int ((0 : Int32) + z0)), .val (.ref a), .val (.int (1 : Int32)), .val (.int ((0 : Int32) + (1 : Int32))), .val (.int z0)] [(.int ((0 : Int32) + (1 : Int32)))]))
  refine own_via (fun _ k => XS.iloadN X0.here hx rfl (hb hby dh0_12) rfl k) ?_
  show own_G _ _ _ _ (s₁.setTop (mkF m 13 #[.val (.ref a), .val (.int ((0 : Int32) + z0)), .val (.ref a), .val (.int (1 : Int32)), .val (.int ((0 : Int32) + (1 : Int32))), .val (.int z0)] [(.int (1 : Int32)), (.int ((0 : Int32) + (1 : Int32)))]))
  refine own_via (fun _ k => XS.icmpYes X0.here hx rfl (pc0 := 13) (pc' := 33) rfl (hb hby dh0_13) rfl (flt (by decide)).2.1 (by decide) (by decide) k) ?_
  show own_G _ _ _ _ (s₁.setTop (mkF m 33 #[.val (.ref a), .val (.int ((0 : Int32) + z0)), .val (.ref a), .val (.int (1 : Int32)), .val (.int ((0 : Int32) + (1 : Int32))), .val (.int z0)] []))
  refine own_via (fun _ k => XS.iloadN X0.here hx rfl (hb hby dh0_33) rfl k) ?_
  show own_G _ _ _ _ (s₁.setTop (mkF m 34 #[.val (.ref a), .val (.int ((0 : Int32) + z0)), .val (.ref a), .val (.int (1 : Int32)), .val (.int ((0 : Int32) + (1 : Int32))), .val (.int z0)] [(.int ((0 : Int32) + z0))]))
  obtain ⟨fs, hr, hrun, hended, hW, hsame⟩ := X0.leave (v := some (.int ((0 : Int32) + z0))) (fun h => by rw [Bd.returns] at h; cases h)
  refine ⟨_, _, ?_, hrun, hended, _, _, rfl, ?_, ⟨_, rfl⟩, hW, hsame.mono (by decide) (by decide)⟩
  · exact retI X0 hx Bd.returns (hb hby dh0_34) hr
  · show Qh1 Z a kk0 z0 h0 n0 _ s₁.heap _
    rw [e0]
    exact ⟨rfl, N0, rfl⟩
theorem pn_h2 : plainName "com/example/vanon/vanon/lattice/Lattice" = true := by first | (simp [plainName, overriddenIn]; done) | decide +kernel
theorem ef_h2 (m : MethodId) (a : Addr) : entryFrame m #[(.ref a)] 6 = (mkF m 0 #[.val (.ref a), .unset, .unset, .unset, .unset, .unset] []) := by first | (simp [entryFrame, mkF, argsToLocals, Value.category]; done) | rfl
def Qh2 (Z : State) (a : Addr) (kk0 : ClassId) (z0 : Int32) (z1 : Int32) (h0 : Heap) (n0 : Nat) (v : Option Value) (h : Heap) (L : List Loc) : Prop := v = some (.int (((0 : Int32) + z0) + z1)) ∧ Fr n0 L ∧ h = h0
set_option maxRecDepth 65536 in
set_option maxHeartbeats 40000000 in
theorem rmh2 (l : Launch) (Z : State) (a0 : Array Value) (hw : ∀ d ∈ tables_1, d.before a0 Z = true) (ws : List Jvm.Cond) (a : Addr) (kk0 : ClassId) (z0 : Int32) (z1 : Int32) (h0 : Heap) (n0 : Nat) (Z0 : n0 ≤ h0.size) (V_a : Arv Z h0 a kk0 .int (2 : Int32) [(.int z0), (.int z1)] (.int (0 : Int32))) :
    MetFree l (⟨"com/example/vanon/vanon/lattice/Lattice", "height", "([I)I"⟩ : MethodName) (head1 (Jvm.Cond.code (⟨"com/example/vanon/vanon/lattice/Lattice", "height", "([I)I"⟩ : MethodName) prog_16_method_11_code 6 (some .int) :: ws) ({ frames := 0, cells := 0, slots := 0, locals := 0 } : Room)) (fun as' U => as' = #[(.ref a)] ∧ Z.Warmed39 U.vm ∧ U.heap = h0) (fun _ _ _ _ _ => True) (fun _ U o U' => ∃ v L, o = .returned v ∧ Qh2 Z a kk0 z0 z1 h0 n0 v U'.heap L ∧ FrameEnd U o U' L ({ frames := 0, cells := 0, slots := 0, locals := 0 } : Room).cells ({ frames := 0, cells := 0, slots := 0, locals := 0 } : Room).slots) := by
  refine MetFree.of_bodySF (plainFor_of_name pn_h2) hisR ?_
  intro p e s m args below meth c s₁ Bd hml0 hP hK
  obtain ⟨rfl, hZ, hh⟩ := hP
  have hx := Bd.exec
  have hby := Bd.bytes
  have hml : c.maxLocals = 6 := hml0
  have hown : s.vm.findClass "com/example/vanon/vanon/lattice/Lattice" = some m.cls := findClass_of_methodNamed Bd.named
  have hnm := (name_of_methodNamed Bd.named Bd.method).1
  have X0 : Stand p l e ({ frames := 0, cells := 0, slots := 0, locals := 0 } : Room) s m #[(.ref a)] below meth c s₁ [] 0 0 := Stand.of_body Bd
  have e0 : s₁.heap = h0 := by rw [← hh, Bd.state]; rfl
  have N0 := Fr.nil n0
  refine own_via (fun t k => castTop (ef_h2 m a) k) ?_
  show own_G _ _ _ _ (s₁.setTop (mkF m 0 #[.val (.ref a), .unset, .unset, .unset, .unset, .unset] []))
  refine own_via (fun _ k => XS.iconst X0.here hx rfl (hb hby dh0_0) k) ?_
  show own_G _ _ _ _ (s₁.setTop (mkF m 1 #[.val (.ref a), .unset, .unset, .unset, .unset, .unset] [(.int (0 : Int32))]))
  refine own_via (fun _ k => XS.istoreN X0.here hx rfl (hb hby dh0_1) rfl (l' := #[.val (.ref a), .val (.int (0 : Int32)), .unset, .unset, .unset, .unset]) rfl k) ?_
  show own_G _ _ _ _ (s₁.setTop (mkF m 2 #[.val (.ref a), .val (.int (0 : Int32)), .unset, .unset, .unset, .unset] []))
  refine own_via (fun _ k => XS.aloadN X0.here hx rfl (hb hby dh0_2) rfl rfl k) ?_
  show own_G _ _ _ _ (s₁.setTop (mkF m 3 #[.val (.ref a), .val (.int (0 : Int32)), .unset, .unset, .unset, .unset] [(.ref a)]))
  refine own_via (fun _ k => XS.astoreN X0.here hx rfl (hb hby dh0_3) rfl rfl (l' := #[.val (.ref a), .val (.int (0 : Int32)), .val (.ref a), .unset, .unset, .unset]) rfl k) ?_
  show own_G _ _ _ _ (s₁.setTop (mkF m 4 #[.val (.ref a), .val (.int (0 : Int32)), .val (.ref a), .unset, .unset, .unset] []))
  refine own_via (fun _ k => XS.aloadN X0.here hx rfl (hb hby dh0_4) rfl rfl k) ?_
  show own_G _ _ _ _ (s₁.setTop (mkF m 5 #[.val (.ref a), .val (.int (0 : Int32)), .val (.ref a), .unset, .unset, .unset] [(.ref a)]))
  obtain ⟨cl4, Ar4, -, Sz4, Nn4, -, -⟩ := id V_a
  refine own_via (fun _ k => X0.arraylength hx (by rw [e0]; exact Ar4.1) (State.isArrayOf_alike hZ.alike Ar4.2.1) (g := (mkF m 5 #[.val (.ref a), .val (.int (0 : Int32)), .val (.ref a), .unset, .unset, .unset] [(.ref a)])) rfl rfl (hb hby dh0_5) _ k) ?_
  rw [len_of Sz4 Nn4]
  show own_G _ _ _ _ (s₁.setTop (mkF m 6 #[.val (.ref a), .val (.int (0 : Int32)), .val (.ref a), .unset, .unset, .unset] [(.int (2 : Int32))]))
  refine own_via (fun _ k => XS.istoreN X0.here hx rfl (hb hby dh0_6) rfl (l' := #[.val (.ref a), .val (.int (0 : Int32)), .val (.ref a), .val (.int (2 : Int32)), .unset, .unset]) rfl k) ?_
  show own_G _ _ _ _ (s₁.setTop (mkF m 7 #[.val (.ref a), .val (.int (0 : Int32)), .val (.ref a), .val (.int (2 : Int32)), .unset, .unset] []))
  refine own_via (fun _ k => XS.iconst X0.here hx rfl (hb hby dh0_7) k) ?_
  show own_G _ _ _ _ (s₁.setTop (mkF m 8 #[.val (.ref a), .val (.int (0 : Int32)), .val (.ref a), .val (.int (2 : Int32)), .unset, .unset] [(.int (0 : Int32))]))
  refine own_via (fun _ k => XS.istore X0.here hx rfl (hb hby dh0_8) rfl (l' := #[.val (.ref a), .val (.int (0 : Int32)), .val (.ref a), .val (.int (2 : Int32)), .val (.int (0 : Int32)), .unset]) rfl k) ?_
  show own_G _ _ _ _ (s₁.setTop (mkF m 10 #[.val (.ref a), .val (.int (0 : Int32)), .val (.ref a), .val (.int (2 : Int32)), .val (.int (0 : Int32)), .unset] []))
  refine own_via (fun _ k => XS.iload X0.here hx rfl (hb hby dh0_10) rfl k) ?_
  show own_G _ _ _ _ (s₁.setTop (mkF m 12 #[.val (.ref a), .val (.int (0 : Int32)), .val (.ref a), .val (.int (2 : Int32)), .val (.int (0 : Int32)), .unset] [(.int (0 : Int32))]))
  refine own_via (fun _ k => XS.iloadN X0.here hx rfl (hb hby dh0_12) rfl k) ?_
  show own_G _ _ _ _ (s₁.setTop (mkF m 13 #[.val (.ref a), .val (.int (0 : Int32)), .val (.ref a), .val (.int (2 : Int32)), .val (.int (0 : Int32)), .unset] [(.int (2 : Int32)), (.int (0 : Int32))]))
  refine own_via (fun _ k => XS.icmpNo X0.here hx rfl (hb hby dh0_13) rfl (tlt (by decide)).2.1 k) ?_
  show own_G _ _ _ _ (s₁.setTop (mkF m 16 #[.val (.ref a), .val (.int (0 : Int32)), .val (.ref a), .val (.int (2 : Int32)), .val (.int (0 : Int32)), .unset] []))
  refine own_via (fun _ k => XS.aloadN X0.here hx rfl (hb hby dh0_16) rfl rfl k) ?_
  show own_G _ _ _ _ (s₁.setTop (mkF m 17 #[.val (.ref a), .val (.int (0 : Int32)), .val (.ref a), .val (.int (2 : Int32)), .val (.int (0 : Int32)), .unset] [(.ref a)]))
  refine own_via (fun _ k => XS.iload X0.here hx rfl (hb hby dh0_17) rfl k) ?_
  show own_G _ _ _ _ (s₁.setTop (mkF m 19 #[.val (.ref a), .val (.int (0 : Int32)), .val (.ref a), .val (.int (2 : Int32)), .val (.int (0 : Int32)), .unset] [(.int (0 : Int32)), (.ref a)]))
  obtain ⟨cl5, Ar5, -, Sz5, Nn5, Hh5, -⟩ := id V_a
  have hin5 : ¬ ((0 : Int32) < 0 ∨ cl5.slots.size ≤ ((0 : Int32)).toNatClampNeg) := inb_of Sz5 ⟨by decide, by decide⟩
  have hat5 : cl5.slots[((0 : Int32)).toNatClampNeg]? = some (.int z0) := Has.at Hh5 hin5 rfl
  refine own_via (fun _ k => X0.iaload hx (j := (0 : Int32)) (v := (.int z0)) (by rw [e0]; exact Ar5.1) (State.isArrayOf_alike hZ.alike Ar5.2.1) Ar5.2.2 hin5 hat5 (g := (mkF m 19 #[.val (.ref a), .val (.int (0 : Int32)), .val (.ref a), .val (.int (2 : Int32)), .val (.int (0 : Int32)), .unset] [(.int (0 : Int32)), (.ref a)])) rfl rfl (hb hby dh0_19) _ k) ?_
  show own_G _ _ _ _ (s₁.setTop (mkF m 20 #[.val (.ref a), .val (.int (0 : Int32)), .val (.ref a), .val (.int (2 : Int32)), .val (.int (0 : Int32)), .unset] [(.int z0)]))
  refine own_via (fun _ k => XS.istore X0.here hx rfl (hb hby dh0_20) rfl (l' := #[.val (.ref a), .val (.int (0 : Int32)), .val (.ref a), .val (.int (2 : Int32)), .val (.int (0 : Int32)), .val (.int z0)]) rfl k) ?_
  show own_G _ _ _ _ (s₁.setTop (mkF m 22 #[.val (.ref a), .val (.int (0 : Int32)), .val (.ref a), .val (.int (2 : Int32)), .val (.int (0 : Int32)), .val (.int z0)] []))
  refine own_via (fun _ k => XS.iloadN X0.here hx rfl (hb hby dh0_22) rfl k) ?_
  show own_G _ _ _ _ (s₁.setTop (mkF m 23 #[.val (.ref a), .val (.int (0 : Int32)), .val (.ref a), .val (.int (2 : Int32)), .val (.int (0 : Int32)), .val (.int z0)] [(.int (0 : Int32))]))
  refine own_via (fun _ k => XS.iload X0.here hx rfl (hb hby dh0_23) rfl k) ?_
  show own_G _ _ _ _ (s₁.setTop (mkF m 25 #[.val (.ref a), .val (.int (0 : Int32)), .val (.ref a), .val (.int (2 : Int32)), .val (.int (0 : Int32)), .val (.int z0)] [(.int z0), (.int (0 : Int32))]))
  refine own_via (fun _ k => XS.iadd X0.here hx rfl (hb hby dh0_25) rfl k) ?_
  show own_G _ _ _ _ (s₁.setTop (mkF m 26 #[.val (.ref a), .val (.int (0 : Int32)), .val (.ref a), .val (.int (2 : Int32)), .val (.int (0 : Int32)), .val (.int z0)] [(.int ((0 : Int32) + z0))]))
  refine own_via (fun _ k => XS.istoreN X0.here hx rfl (hb hby dh0_26) rfl (l' := #[.val (.ref a), .val (.int ((0 : Int32) + z0)), .val (.ref a), .val (.int (2 : Int32)), .val (.int (0 : Int32)), .val (.int z0)]) rfl k) ?_
  show own_G _ _ _ _ (s₁.setTop (mkF m 27 #[.val (.ref a), .val (.int ((0 : Int32) + z0)), .val (.ref a), .val (.int (2 : Int32)), .val (.int (0 : Int32)), .val (.int z0)] []))
  refine own_via (fun _ k => XS.iinc X0.here hx rfl (hb hby dh0_27) rfl (l' := #[.val (.ref a), .val (.int ((0 : Int32) + z0)), .val (.ref a), .val (.int (2 : Int32)), .val (.int ((0 : Int32) + (1 : Int32))), .val (.int z0)]) rfl k) ?_
  show own_G _ _ _ _ (s₁.setTop (mkF m 30 #[.val (.ref a), .val (.int ((0 : Int32) + z0)), .val (.ref a), .val (.int (2 : Int32)), .val (.int ((0 : Int32) + (1 : Int32))), .val (.int z0)] []))
  refine own_via (fun _ k => XS.goto X0.here hx rfl (pc0 := 30) (pc' := 10) rfl (hb hby dh0_30) (by decide) (by decide) k) ?_
  show own_G _ _ _ _ (s₁.setTop (mkF m 10 #[.val (.ref a), .val (.int ((0 : Int32) + z0)), .val (.ref a), .val (.int (2 : Int32)), .val (.int ((0 : Int32) + (1 : Int32))), .val (.int z0)] []))
  refine own_via (fun _ k => XS.iload X0.here hx rfl (hb hby dh0_10) rfl k) ?_
  show own_G _ _ _ _ (s₁.setTop (mkF m 12 #[.val (.ref a), .val (.int ((0 : Int32) + z0)), .val (.ref a), .val (.int (2 : Int32)), .val (.int ((0 : Int32) + (1 : Int32))), .val (.int z0)] [(.int ((0 : Int32) + (1 : Int32)))]))
  refine own_via (fun _ k => XS.iloadN X0.here hx rfl (hb hby dh0_12) rfl k) ?_
  show own_G _ _ _ _ (s₁.setTop (mkF m 13 #[.val (.ref a), .val (.int ((0 : Int32) + z0)), .val (.ref a), .val (.int (2 : Int32)), .val (.int ((0 : Int32) + (1 : Int32))), .val (.int z0)] [(.int (2 : Int32)), (.int ((0 : Int32) + (1 : Int32)))]))
  refine own_via (fun _ k => XS.icmpNo X0.here hx rfl (hb hby dh0_13) rfl (tlt (by decide)).2.1 k) ?_
  show own_G _ _ _ _ (s₁.setTop (mkF m 16 #[.val (.ref a), .val (.int ((0 : Int32) + z0)), .val (.ref a), .val (.int (2 : Int32)), .val (.int ((0 : Int32) + (1 : Int32))), .val (.int z0)] []))
  refine own_via (fun _ k => XS.aloadN X0.here hx rfl (hb hby dh0_16) rfl rfl k) ?_
  show own_G _ _ _ _ (s₁.setTop (mkF m 17 #[.val (.ref a), .val (.int ((0 : Int32) + z0)), .val (.ref a), .val (.int (2 : Int32)), .val (.int ((0 : Int32) + (1 : Int32))), .val (.int z0)] [(.ref a)]))
  refine own_via (fun _ k => XS.iload X0.here hx rfl (hb hby dh0_17) rfl k) ?_
  show own_G _ _ _ _ (s₁.setTop (mkF m 19 #[.val (.ref a), .val (.int ((0 : Int32) + z0)), .val (.ref a), .val (.int (2 : Int32)), .val (.int ((0 : Int32) + (1 : Int32))), .val (.int z0)] [(.int ((0 : Int32) + (1 : Int32))), (.ref a)]))
  obtain ⟨cl6, Ar6, -, Sz6, Nn6, Hh6, -⟩ := id V_a
  have hin6 : ¬ (((0 : Int32) + (1 : Int32)) < 0 ∨ cl6.slots.size ≤ (((0 : Int32) + (1 : Int32))).toNatClampNeg) := inb_of Sz6 ⟨by decide, by decide⟩
  have hat6 : cl6.slots[(((0 : Int32) + (1 : Int32))).toNatClampNeg]? = some (.int z1) := Has.at Hh6 hin6 rfl
  refine own_via (fun _ k => X0.iaload hx (j := ((0 : Int32) + (1 : Int32))) (v := (.int z1)) (by rw [e0]; exact Ar6.1) (State.isArrayOf_alike hZ.alike Ar6.2.1) Ar6.2.2 hin6 hat6 (g := (mkF m 19 #[.val (.ref a), .val (.int ((0 : Int32) + z0)), .val (.ref a), .val (.int (2 : Int32)), .val (.int ((0 : Int32) + (1 : Int32))), .val (.int z0)] [(.int ((0 : Int32) + (1 : Int32))), (.ref a)])) rfl rfl (hb hby dh0_19) _ k) ?_
  show own_G _ _ _ _ (s₁.setTop (mkF m 20 #[.val (.ref a), .val (.int ((0 : Int32) + z0)), .val (.ref a), .val (.int (2 : Int32)), .val (.int ((0 : Int32) + (1 : Int32))), .val (.int z0)] [(.int z1)]))
  refine own_via (fun _ k => XS.istore X0.here hx rfl (hb hby dh0_20) rfl (l' := #[.val (.ref a), .val (.int ((0 : Int32) + z0)), .val (.ref a), .val (.int (2 : Int32)), .val (.int ((0 : Int32) + (1 : Int32))), .val (.int z1)]) rfl k) ?_
  show own_G _ _ _ _ (s₁.setTop (mkF m 22 #[.val (.ref a), .val (.int ((0 : Int32) + z0)), .val (.ref a), .val (.int (2 : Int32)), .val (.int ((0 : Int32) + (1 : Int32))), .val (.int z1)] []))
  refine own_via (fun _ k => XS.iloadN X0.here hx rfl (hb hby dh0_22) rfl k) ?_
  show own_G _ _ _ _ (s₁.setTop (mkF m 23 #[.val (.ref a), .val (.int ((0 : Int32) + z0)), .val (.ref a), .val (.int (2 : Int32)), .val (.int ((0 : Int32) + (1 : Int32))), .val (.int z1)] [(.int ((0 : Int32) + z0))]))
  refine own_via (fun _ k => XS.iload X0.here hx rfl (hb hby dh0_23) rfl k) ?_
  show own_G _ _ _ _ (s₁.setTop (mkF m 25 #[.val (.ref a), .val (.int ((0 : Int32) + z0)), .val (.ref a), .val (.int (2 : Int32)), .val (.int ((0 : Int32) + (1 : Int32))), .val (.int z1)] [(.int z1), (.int ((0 : Int32) + z0))]))
  refine own_via (fun _ k => XS.iadd X0.here hx rfl (hb hby dh0_25) rfl k) ?_
  show own_G _ _ _ _ (s₁.setTop (mkF m 26 #[.val (.ref a), .val (.int ((0 : Int32) + z0)), .val (.ref a), .val (.int (2 : Int32)), .val (.int ((0 : Int32) + (1 : Int32))), .val (.int z1)] [(.int (((0 : Int32) + z0) + z1))]))
  refine own_via (fun _ k => XS.istoreN X0.here hx rfl (hb hby dh0_26) rfl (l' := #[.val (.ref a), .val (.int (((0 : Int32) + z0) + z1)), .val (.ref a), .val (.int (2 : Int32)), .val (.int ((0 : Int32) + (1 : Int32))), .val (.int z1)]) rfl k) ?_
  show own_G _ _ _ _ (s₁.setTop (mkF m 27 #[.val (.ref a), .val (.int (((0 : Int32) + z0) + z1)), .val (.ref a), .val (.int (2 : Int32)), .val (.int ((0 : Int32) + (1 : Int32))), .val (.int z1)] []))
  refine own_via (fun _ k => XS.iinc X0.here hx rfl (hb hby dh0_27) rfl (l' := #[.val (.ref a), .val (.int (((0 : Int32) + z0) + z1)), .val (.ref a), .val (.int (2 : Int32)), .val (.int (((0 : Int32) + (1 : Int32)) + (1 : Int32))), .val (.int z1)]) rfl k) ?_
  show own_G _ _ _ _ (s₁.setTop (mkF m 30 #[.val (.ref a), .val (.int (((0 : Int32) + z0) + z1)), .val (.ref a), .val (.int (2 : Int32)), .val (.int (((0 : Int32) + (1 : Int32)) + (1 : Int32))), .val (.int z1)] []))
  refine own_via (fun _ k => XS.goto X0.here hx rfl (pc0 := 30) (pc' := 10) rfl (hb hby dh0_30) (by decide) (by decide) k) ?_
  show own_G _ _ _ _ (s₁.setTop (mkF m 10 #[.val (.ref a), .val (.int (((0 : Int32) + z0) + z1)), .val (.ref a), .val (.int (2 : Int32)), .val (.int (((0 : Int32) + (1 : Int32)) + (1 : Int32))), .val (.int z1)] []))
  refine own_via (fun _ k => XS.iload X0.here hx rfl (hb hby dh0_10) rfl k) ?_
  show own_G _ _ _ _ (s₁.setTop (mkF m 12 #[.val (.ref a), .val (.int (((0 : Int32) + z0) + z1)), .val (.ref a), .val (.int (2 : Int32)), .val (.int (((0 : Int32) + (1 : Int32)) + (1 : Int32))), .val (.int z1)] [(.int (((0 : Int32) + (1 : Int32)) + (1 : Int32)))]))
  refine own_via (fun _ k => XS.iloadN X0.here hx rfl (hb hby dh0_12) rfl k) ?_
  show own_G _ _ _ _ (s₁.setTop (mkF m 13 #[.val (.ref a), .val (.int (((0 : Int32) + z0) + z1)), .val (.ref a), .val (.int (2 : Int32)), .val (.int (((0 : Int32) + (1 : Int32)) + (1 : Int32))), .val (.int z1)] [(.int (2 : Int32)), (.int (((0 : Int32) + (1 : Int32)) + (1 : Int32)))]))
  refine own_via (fun _ k => XS.icmpYes X0.here hx rfl (pc0 := 13) (pc' := 33) rfl (hb hby dh0_13) rfl (flt (by decide)).2.1 (by decide) (by decide) k) ?_
  show own_G _ _ _ _ (s₁.setTop (mkF m 33 #[.val (.ref a), .val (.int (((0 : Int32) + z0) + z1)), .val (.ref a), .val (.int (2 : Int32)), .val (.int (((0 : Int32) + (1 : Int32)) + (1 : Int32))), .val (.int z1)] []))
  refine own_via (fun _ k => XS.iloadN X0.here hx rfl (hb hby dh0_33) rfl k) ?_
  show own_G _ _ _ _ (s₁.setTop (mkF m 34 #[.val (.ref a), .val (.int (((0 : Int32) + z0) + z1)), .val (.ref a), .val (.int (2 : Int32)), .val (.int (((0 : Int32) + (1 : Int32)) + (1 : Int32))), .val (.int z1)] [(.int (((0 : Int32) + z0) + z1))]))
  obtain ⟨fs, hr, hrun, hended, hW, hsame⟩ := X0.leave (v := some (.int (((0 : Int32) + z0) + z1))) (fun h => by rw [Bd.returns] at h; cases h)
  refine ⟨_, _, ?_, hrun, hended, _, _, rfl, ?_, ⟨_, rfl⟩, hW, hsame.mono (by decide) (by decide)⟩
  · exact retI X0 hx Bd.returns (hb hby dh0_34) hr
  · show Qh2 Z a kk0 z0 z1 h0 n0 _ s₁.heap _
    rw [e0]
    exact ⟨rfl, N0, rfl⟩
theorem pn_h3 : plainName "com/example/vanon/vanon/lattice/Lattice" = true := by first | (simp [plainName, overriddenIn]; done) | decide +kernel
theorem ef_h3 (m : MethodId) (a : Addr) : entryFrame m #[(.ref a)] 6 = (mkF m 0 #[.val (.ref a), .unset, .unset, .unset, .unset, .unset] []) := by first | (simp [entryFrame, mkF, argsToLocals, Value.category]; done) | rfl
def Qh3 (Z : State) (a : Addr) (kk0 : ClassId) (z0 : Int32) (z1 : Int32) (z2 : Int32) (h0 : Heap) (n0 : Nat) (v : Option Value) (h : Heap) (L : List Loc) : Prop := v = some (.int ((((0 : Int32) + z0) + z1) + z2)) ∧ Fr n0 L ∧ h = h0
set_option maxRecDepth 65536 in
set_option maxHeartbeats 40000000 in
theorem rmh3 (l : Launch) (Z : State) (a0 : Array Value) (hw : ∀ d ∈ tables_1, d.before a0 Z = true) (ws : List Jvm.Cond) (a : Addr) (kk0 : ClassId) (z0 : Int32) (z1 : Int32) (z2 : Int32) (h0 : Heap) (n0 : Nat) (Z0 : n0 ≤ h0.size) (V_a : Arv Z h0 a kk0 .int (3 : Int32) [(.int z0), (.int z1), (.int z2)] (.int (0 : Int32))) :
    MetFree l (⟨"com/example/vanon/vanon/lattice/Lattice", "height", "([I)I"⟩ : MethodName) (head1 (Jvm.Cond.code (⟨"com/example/vanon/vanon/lattice/Lattice", "height", "([I)I"⟩ : MethodName) prog_16_method_11_code 6 (some .int) :: ws) ({ frames := 0, cells := 0, slots := 0, locals := 0 } : Room)) (fun as' U => as' = #[(.ref a)] ∧ Z.Warmed39 U.vm ∧ U.heap = h0) (fun _ _ _ _ _ => True) (fun _ U o U' => ∃ v L, o = .returned v ∧ Qh3 Z a kk0 z0 z1 z2 h0 n0 v U'.heap L ∧ FrameEnd U o U' L ({ frames := 0, cells := 0, slots := 0, locals := 0 } : Room).cells ({ frames := 0, cells := 0, slots := 0, locals := 0 } : Room).slots) := by
  refine MetFree.of_bodySF (plainFor_of_name pn_h3) hisR ?_
  intro p e s m args below meth c s₁ Bd hml0 hP hK
  obtain ⟨rfl, hZ, hh⟩ := hP
  have hx := Bd.exec
  have hby := Bd.bytes
  have hml : c.maxLocals = 6 := hml0
  have hown : s.vm.findClass "com/example/vanon/vanon/lattice/Lattice" = some m.cls := findClass_of_methodNamed Bd.named
  have hnm := (name_of_methodNamed Bd.named Bd.method).1
  have X0 : Stand p l e ({ frames := 0, cells := 0, slots := 0, locals := 0 } : Room) s m #[(.ref a)] below meth c s₁ [] 0 0 := Stand.of_body Bd
  have e0 : s₁.heap = h0 := by rw [← hh, Bd.state]; rfl
  have N0 := Fr.nil n0
  refine own_via (fun t k => castTop (ef_h3 m a) k) ?_
  show own_G _ _ _ _ (s₁.setTop (mkF m 0 #[.val (.ref a), .unset, .unset, .unset, .unset, .unset] []))
  refine own_via (fun _ k => XS.iconst X0.here hx rfl (hb hby dh0_0) k) ?_
  show own_G _ _ _ _ (s₁.setTop (mkF m 1 #[.val (.ref a), .unset, .unset, .unset, .unset, .unset] [(.int (0 : Int32))]))
  refine own_via (fun _ k => XS.istoreN X0.here hx rfl (hb hby dh0_1) rfl (l' := #[.val (.ref a), .val (.int (0 : Int32)), .unset, .unset, .unset, .unset]) rfl k) ?_
  show own_G _ _ _ _ (s₁.setTop (mkF m 2 #[.val (.ref a), .val (.int (0 : Int32)), .unset, .unset, .unset, .unset] []))
  refine own_via (fun _ k => XS.aloadN X0.here hx rfl (hb hby dh0_2) rfl rfl k) ?_
  show own_G _ _ _ _ (s₁.setTop (mkF m 3 #[.val (.ref a), .val (.int (0 : Int32)), .unset, .unset, .unset, .unset] [(.ref a)]))
  refine own_via (fun _ k => XS.astoreN X0.here hx rfl (hb hby dh0_3) rfl rfl (l' := #[.val (.ref a), .val (.int (0 : Int32)), .val (.ref a), .unset, .unset, .unset]) rfl k) ?_
  show own_G _ _ _ _ (s₁.setTop (mkF m 4 #[.val (.ref a), .val (.int (0 : Int32)), .val (.ref a), .unset, .unset, .unset] []))
  refine own_via (fun _ k => XS.aloadN X0.here hx rfl (hb hby dh0_4) rfl rfl k) ?_
  show own_G _ _ _ _ (s₁.setTop (mkF m 5 #[.val (.ref a), .val (.int (0 : Int32)), .val (.ref a), .unset, .unset, .unset] [(.ref a)]))
  obtain ⟨cl7, Ar7, -, Sz7, Nn7, -, -⟩ := id V_a
  refine own_via (fun _ k => X0.arraylength hx (by rw [e0]; exact Ar7.1) (State.isArrayOf_alike hZ.alike Ar7.2.1) (g := (mkF m 5 #[.val (.ref a), .val (.int (0 : Int32)), .val (.ref a), .unset, .unset, .unset] [(.ref a)])) rfl rfl (hb hby dh0_5) _ k) ?_
  rw [len_of Sz7 Nn7]
  show own_G _ _ _ _ (s₁.setTop (mkF m 6 #[.val (.ref a), .val (.int (0 : Int32)), .val (.ref a), .unset, .unset, .unset] [(.int (3 : Int32))]))
  refine own_via (fun _ k => XS.istoreN X0.here hx rfl (hb hby dh0_6) rfl (l' := #[.val (.ref a), .val (.int (0 : Int32)), .val (.ref a), .val (.int (3 : Int32)), .unset, .unset]) rfl k) ?_
  show own_G _ _ _ _ (s₁.setTop (mkF m 7 #[.val (.ref a), .val (.int (0 : Int32)), .val (.ref a), .val (.int (3 : Int32)), .unset, .unset] []))
  refine own_via (fun _ k => XS.iconst X0.here hx rfl (hb hby dh0_7) k) ?_
  show own_G _ _ _ _ (s₁.setTop (mkF m 8 #[.val (.ref a), .val (.int (0 : Int32)), .val (.ref a), .val (.int (3 : Int32)), .unset, .unset] [(.int (0 : Int32))]))
  refine own_via (fun _ k => XS.istore X0.here hx rfl (hb hby dh0_8) rfl (l' := #[.val (.ref a), .val (.int (0 : Int32)), .val (.ref a), .val (.int (3 : Int32)), .val (.int (0 : Int32)), .unset]) rfl k) ?_
  show own_G _ _ _ _ (s₁.setTop (mkF m 10 #[.val (.ref a), .val (.int (0 : Int32)), .val (.ref a), .val (.int (3 : Int32)), .val (.int (0 : Int32)), .unset] []))
  refine own_via (fun _ k => XS.iload X0.here hx rfl (hb hby dh0_10) rfl k) ?_
  show own_G _ _ _ _ (s₁.setTop (mkF m 12 #[.val (.ref a), .val (.int (0 : Int32)), .val (.ref a), .val (.int (3 : Int32)), .val (.int (0 : Int32)), .unset] [(.int (0 : Int32))]))
  refine own_via (fun _ k => XS.iloadN X0.here hx rfl (hb hby dh0_12) rfl k) ?_
  show own_G _ _ _ _ (s₁.setTop (mkF m 13 #[.val (.ref a), .val (.int (0 : Int32)), .val (.ref a), .val (.int (3 : Int32)), .val (.int (0 : Int32)), .unset] [(.int (3 : Int32)), (.int (0 : Int32))]))
  refine own_via (fun _ k => XS.icmpNo X0.here hx rfl (hb hby dh0_13) rfl (tlt (by decide)).2.1 k) ?_
  show own_G _ _ _ _ (s₁.setTop (mkF m 16 #[.val (.ref a), .val (.int (0 : Int32)), .val (.ref a), .val (.int (3 : Int32)), .val (.int (0 : Int32)), .unset] []))
  refine own_via (fun _ k => XS.aloadN X0.here hx rfl (hb hby dh0_16) rfl rfl k) ?_
  show own_G _ _ _ _ (s₁.setTop (mkF m 17 #[.val (.ref a), .val (.int (0 : Int32)), .val (.ref a), .val (.int (3 : Int32)), .val (.int (0 : Int32)), .unset] [(.ref a)]))
  refine own_via (fun _ k => XS.iload X0.here hx rfl (hb hby dh0_17) rfl k) ?_
  show own_G _ _ _ _ (s₁.setTop (mkF m 19 #[.val (.ref a), .val (.int (0 : Int32)), .val (.ref a), .val (.int (3 : Int32)), .val (.int (0 : Int32)), .unset] [(.int (0 : Int32)), (.ref a)]))
  obtain ⟨cl8, Ar8, -, Sz8, Nn8, Hh8, -⟩ := id V_a
  have hin8 : ¬ ((0 : Int32) < 0 ∨ cl8.slots.size ≤ ((0 : Int32)).toNatClampNeg) := inb_of Sz8 ⟨by decide, by decide⟩
  have hat8 : cl8.slots[((0 : Int32)).toNatClampNeg]? = some (.int z0) := Has.at Hh8 hin8 rfl
  refine own_via (fun _ k => X0.iaload hx (j := (0 : Int32)) (v := (.int z0)) (by rw [e0]; exact Ar8.1) (State.isArrayOf_alike hZ.alike Ar8.2.1) Ar8.2.2 hin8 hat8 (g := (mkF m 19 #[.val (.ref a), .val (.int (0 : Int32)), .val (.ref a), .val (.int (3 : Int32)), .val (.int (0 : Int32)), .unset] [(.int (0 : Int32)), (.ref a)])) rfl rfl (hb hby dh0_19) _ k) ?_
  show own_G _ _ _ _ (s₁.setTop (mkF m 20 #[.val (.ref a), .val (.int (0 : Int32)), .val (.ref a), .val (.int (3 : Int32)), .val (.int (0 : Int32)), .unset] [(.int z0)]))
  refine own_via (fun _ k => XS.istore X0.here hx rfl (hb hby dh0_20) rfl (l' := #[.val (.ref a), .val (.int (0 : Int32)), .val (.ref a), .val (.int (3 : Int32)), .val (.int (0 : Int32)), .val (.int z0)]) rfl k) ?_
  show own_G _ _ _ _ (s₁.setTop (mkF m 22 #[.val (.ref a), .val (.int (0 : Int32)), .val (.ref a), .val (.int (3 : Int32)), .val (.int (0 : Int32)), .val (.int z0)] []))
  refine own_via (fun _ k => XS.iloadN X0.here hx rfl (hb hby dh0_22) rfl k) ?_
  show own_G _ _ _ _ (s₁.setTop (mkF m 23 #[.val (.ref a), .val (.int (0 : Int32)), .val (.ref a), .val (.int (3 : Int32)), .val (.int (0 : Int32)), .val (.int z0)] [(.int (0 : Int32))]))
  refine own_via (fun _ k => XS.iload X0.here hx rfl (hb hby dh0_23) rfl k) ?_
  show own_G _ _ _ _ (s₁.setTop (mkF m 25 #[.val (.ref a), .val (.int (0 : Int32)), .val (.ref a), .val (.int (3 : Int32)), .val (.int (0 : Int32)), .val (.int z0)] [(.int z0), (.int (0 : Int32))]))
  refine own_via (fun _ k => XS.iadd X0.here hx rfl (hb hby dh0_25) rfl k) ?_
  show own_G _ _ _ _ (s₁.setTop (mkF m 26 #[.val (.ref a), .val (.int (0 : Int32)), .val (.ref a), .val (.int (3 : Int32)), .val (.int (0 : Int32)), .val (.int z0)] [(.int ((0 : Int32) + z0))]))
  refine own_via (fun _ k => XS.istoreN X0.here hx rfl (hb hby dh0_26) rfl (l' := #[.val (.ref a), .val (.int ((0 : Int32) + z0)), .val (.ref a), .val (.int (3 : Int32)), .val (.int (0 : Int32)), .val (.int z0)]) rfl k) ?_
  show own_G _ _ _ _ (s₁.setTop (mkF m 27 #[.val (.ref a), .val (.int ((0 : Int32) + z0)), .val (.ref a), .val (.int (3 : Int32)), .val (.int (0 : Int32)), .val (.int z0)] []))
  refine own_via (fun _ k => XS.iinc X0.here hx rfl (hb hby dh0_27) rfl (l' := #[.val (.ref a), .val (.int ((0 : Int32) + z0)), .val (.ref a), .val (.int (3 : Int32)), .val (.int ((0 : Int32) + (1 : Int32))), .val (.int z0)]) rfl k) ?_
  show own_G _ _ _ _ (s₁.setTop (mkF m 30 #[.val (.ref a), .val (.int ((0 : Int32) + z0)), .val (.ref a), .val (.int (3 : Int32)), .val (.int ((0 : Int32) + (1 : Int32))), .val (.int z0)] []))
  refine own_via (fun _ k => XS.goto X0.here hx rfl (pc0 := 30) (pc' := 10) rfl (hb hby dh0_30) (by decide) (by decide) k) ?_
  show own_G _ _ _ _ (s₁.setTop (mkF m 10 #[.val (.ref a), .val (.int ((0 : Int32) + z0)), .val (.ref a), .val (.int (3 : Int32)), .val (.int ((0 : Int32) + (1 : Int32))), .val (.int z0)] []))
  refine own_via (fun _ k => XS.iload X0.here hx rfl (hb hby dh0_10) rfl k) ?_
  show own_G _ _ _ _ (s₁.setTop (mkF m 12 #[.val (.ref a), .val (.int ((0 : Int32) + z0)), .val (.ref a), .val (.int (3 : Int32)), .val (.int ((0 : Int32) + (1 : Int32))), .val (.int z0)] [(.int ((0 : Int32) + (1 : Int32)))]))
  refine own_via (fun _ k => XS.iloadN X0.here hx rfl (hb hby dh0_12) rfl k) ?_
  show own_G _ _ _ _ (s₁.setTop (mkF m 13 #[.val (.ref a), .val (.int ((0 : Int32) + z0)), .val (.ref a), .val (.int (3 : Int32)), .val (.int ((0 : Int32) + (1 : Int32))), .val (.int z0)] [(.int (3 : Int32)), (.int ((0 : Int32) + (1 : Int32)))]))
  refine own_via (fun _ k => XS.icmpNo X0.here hx rfl (hb hby dh0_13) rfl (tlt (by decide)).2.1 k) ?_
  show own_G _ _ _ _ (s₁.setTop (mkF m 16 #[.val (.ref a), .val (.int ((0 : Int32) + z0)), .val (.ref a), .val (.int (3 : Int32)), .val (.int ((0 : Int32) + (1 : Int32))), .val (.int z0)] []))
  refine own_via (fun _ k => XS.aloadN X0.here hx rfl (hb hby dh0_16) rfl rfl k) ?_
  show own_G _ _ _ _ (s₁.setTop (mkF m 17 #[.val (.ref a), .val (.int ((0 : Int32) + z0)), .val (.ref a), .val (.int (3 : Int32)), .val (.int ((0 : Int32) + (1 : Int32))), .val (.int z0)] [(.ref a)]))
  refine own_via (fun _ k => XS.iload X0.here hx rfl (hb hby dh0_17) rfl k) ?_
  show own_G _ _ _ _ (s₁.setTop (mkF m 19 #[.val (.ref a), .val (.int ((0 : Int32) + z0)), .val (.ref a), .val (.int (3 : Int32)), .val (.int ((0 : Int32) + (1 : Int32))), .val (.int z0)] [(.int ((0 : Int32) + (1 : Int32))), (.ref a)]))
  obtain ⟨cl9, Ar9, -, Sz9, Nn9, Hh9, -⟩ := id V_a
  have hin9 : ¬ (((0 : Int32) + (1 : Int32)) < 0 ∨ cl9.slots.size ≤ (((0 : Int32) + (1 : Int32))).toNatClampNeg) := inb_of Sz9 ⟨by decide, by decide⟩
  have hat9 : cl9.slots[(((0 : Int32) + (1 : Int32))).toNatClampNeg]? = some (.int z1) := Has.at Hh9 hin9 rfl
  refine own_via (fun _ k => X0.iaload hx (j := ((0 : Int32) + (1 : Int32))) (v := (.int z1)) (by rw [e0]; exact Ar9.1) (State.isArrayOf_alike hZ.alike Ar9.2.1) Ar9.2.2 hin9 hat9 (g := (mkF m 19 #[.val (.ref a), .val (.int ((0 : Int32) + z0)), .val (.ref a), .val (.int (3 : Int32)), .val (.int ((0 : Int32) + (1 : Int32))), .val (.int z0)] [(.int ((0 : Int32) + (1 : Int32))), (.ref a)])) rfl rfl (hb hby dh0_19) _ k) ?_
  show own_G _ _ _ _ (s₁.setTop (mkF m 20 #[.val (.ref a), .val (.int ((0 : Int32) + z0)), .val (.ref a), .val (.int (3 : Int32)), .val (.int ((0 : Int32) + (1 : Int32))), .val (.int z0)] [(.int z1)]))
  refine own_via (fun _ k => XS.istore X0.here hx rfl (hb hby dh0_20) rfl (l' := #[.val (.ref a), .val (.int ((0 : Int32) + z0)), .val (.ref a), .val (.int (3 : Int32)), .val (.int ((0 : Int32) + (1 : Int32))), .val (.int z1)]) rfl k) ?_
  show own_G _ _ _ _ (s₁.setTop (mkF m 22 #[.val (.ref a), .val (.int ((0 : Int32) + z0)), .val (.ref a), .val (.int (3 : Int32)), .val (.int ((0 : Int32) + (1 : Int32))), .val (.int z1)] []))
  refine own_via (fun _ k => XS.iloadN X0.here hx rfl (hb hby dh0_22) rfl k) ?_
  show own_G _ _ _ _ (s₁.setTop (mkF m 23 #[.val (.ref a), .val (.int ((0 : Int32) + z0)), .val (.ref a), .val (.int (3 : Int32)), .val (.int ((0 : Int32) + (1 : Int32))), .val (.int z1)] [(.int ((0 : Int32) + z0))]))
  refine own_via (fun _ k => XS.iload X0.here hx rfl (hb hby dh0_23) rfl k) ?_
  show own_G _ _ _ _ (s₁.setTop (mkF m 25 #[.val (.ref a), .val (.int ((0 : Int32) + z0)), .val (.ref a), .val (.int (3 : Int32)), .val (.int ((0 : Int32) + (1 : Int32))), .val (.int z1)] [(.int z1), (.int ((0 : Int32) + z0))]))
  refine own_via (fun _ k => XS.iadd X0.here hx rfl (hb hby dh0_25) rfl k) ?_
  show own_G _ _ _ _ (s₁.setTop (mkF m 26 #[.val (.ref a), .val (.int ((0 : Int32) + z0)), .val (.ref a), .val (.int (3 : Int32)), .val (.int ((0 : Int32) + (1 : Int32))), .val (.int z1)] [(.int (((0 : Int32) + z0) + z1))]))
  refine own_via (fun _ k => XS.istoreN X0.here hx rfl (hb hby dh0_26) rfl (l' := #[.val (.ref a), .val (.int (((0 : Int32) + z0) + z1)), .val (.ref a), .val (.int (3 : Int32)), .val (.int ((0 : Int32) + (1 : Int32))), .val (.int z1)]) rfl k) ?_
  show own_G _ _ _ _ (s₁.setTop (mkF m 27 #[.val (.ref a), .val (.int (((0 : Int32) + z0) + z1)), .val (.ref a), .val (.int (3 : Int32)), .val (.int ((0 : Int32) + (1 : Int32))), .val (.int z1)] []))
  refine own_via (fun _ k => XS.iinc X0.here hx rfl (hb hby dh0_27) rfl (l' := #[.val (.ref a), .val (.int (((0 : Int32) + z0) + z1)), .val (.ref a), .val (.int (3 : Int32)), .val (.int (((0 : Int32) + (1 : Int32)) + (1 : Int32))), .val (.int z1)]) rfl k) ?_
  show own_G _ _ _ _ (s₁.setTop (mkF m 30 #[.val (.ref a), .val (.int (((0 : Int32) + z0) + z1)), .val (.ref a), .val (.int (3 : Int32)), .val (.int (((0 : Int32) + (1 : Int32)) + (1 : Int32))), .val (.int z1)] []))
  refine own_via (fun _ k => XS.goto X0.here hx rfl (pc0 := 30) (pc' := 10) rfl (hb hby dh0_30) (by decide) (by decide) k) ?_
  show own_G _ _ _ _ (s₁.setTop (mkF m 10 #[.val (.ref a), .val (.int (((0 : Int32) + z0) + z1)), .val (.ref a), .val (.int (3 : Int32)), .val (.int (((0 : Int32) + (1 : Int32)) + (1 : Int32))), .val (.int z1)] []))
  refine own_via (fun _ k => XS.iload X0.here hx rfl (hb hby dh0_10) rfl k) ?_
  show own_G _ _ _ _ (s₁.setTop (mkF m 12 #[.val (.ref a), .val (.int (((0 : Int32) + z0) + z1)), .val (.ref a), .val (.int (3 : Int32)), .val (.int (((0 : Int32) + (1 : Int32)) + (1 : Int32))), .val (.int z1)] [(.int (((0 : Int32) + (1 : Int32)) + (1 : Int32)))]))
  refine own_via (fun _ k => XS.iloadN X0.here hx rfl (hb hby dh0_12) rfl k) ?_
  show own_G _ _ _ _ (s₁.setTop (mkF m 13 #[.val (.ref a), .val (.int (((0 : Int32) + z0) + z1)), .val (.ref a), .val (.int (3 : Int32)), .val (.int (((0 : Int32) + (1 : Int32)) + (1 : Int32))), .val (.int z1)] [(.int (3 : Int32)), (.int (((0 : Int32) + (1 : Int32)) + (1 : Int32)))]))
  refine own_via (fun _ k => XS.icmpNo X0.here hx rfl (hb hby dh0_13) rfl (tlt (by decide)).2.1 k) ?_
  show own_G _ _ _ _ (s₁.setTop (mkF m 16 #[.val (.ref a), .val (.int (((0 : Int32) + z0) + z1)), .val (.ref a), .val (.int (3 : Int32)), .val (.int (((0 : Int32) + (1 : Int32)) + (1 : Int32))), .val (.int z1)] []))
  refine own_via (fun _ k => XS.aloadN X0.here hx rfl (hb hby dh0_16) rfl rfl k) ?_
  show own_G _ _ _ _ (s₁.setTop (mkF m 17 #[.val (.ref a), .val (.int (((0 : Int32) + z0) + z1)), .val (.ref a), .val (.int (3 : Int32)), .val (.int (((0 : Int32) + (1 : Int32)) + (1 : Int32))), .val (.int z1)] [(.ref a)]))
  refine own_via (fun _ k => XS.iload X0.here hx rfl (hb hby dh0_17) rfl k) ?_
  show own_G _ _ _ _ (s₁.setTop (mkF m 19 #[.val (.ref a), .val (.int (((0 : Int32) + z0) + z1)), .val (.ref a), .val (.int (3 : Int32)), .val (.int (((0 : Int32) + (1 : Int32)) + (1 : Int32))), .val (.int z1)] [(.int (((0 : Int32) + (1 : Int32)) + (1 : Int32))), (.ref a)]))
  obtain ⟨cl10, Ar10, -, Sz10, Nn10, Hh10, -⟩ := id V_a
  have hin10 : ¬ ((((0 : Int32) + (1 : Int32)) + (1 : Int32)) < 0 ∨ cl10.slots.size ≤ ((((0 : Int32) + (1 : Int32)) + (1 : Int32))).toNatClampNeg) := inb_of Sz10 ⟨by decide, by decide⟩
  have hat10 : cl10.slots[((((0 : Int32) + (1 : Int32)) + (1 : Int32))).toNatClampNeg]? = some (.int z2) := Has.at Hh10 hin10 rfl
  refine own_via (fun _ k => X0.iaload hx (j := (((0 : Int32) + (1 : Int32)) + (1 : Int32))) (v := (.int z2)) (by rw [e0]; exact Ar10.1) (State.isArrayOf_alike hZ.alike Ar10.2.1) Ar10.2.2 hin10 hat10 (g := (mkF m 19 #[.val (.ref a), .val (.int (((0 : Int32) + z0) + z1)), .val (.ref a), .val (.int (3 : Int32)), .val (.int (((0 : Int32) + (1 : Int32)) + (1 : Int32))), .val (.int z1)] [(.int (((0 : Int32) + (1 : Int32)) + (1 : Int32))), (.ref a)])) rfl rfl (hb hby dh0_19) _ k) ?_
  show own_G _ _ _ _ (s₁.setTop (mkF m 20 #[.val (.ref a), .val (.int (((0 : Int32) + z0) + z1)), .val (.ref a), .val (.int (3 : Int32)), .val (.int (((0 : Int32) + (1 : Int32)) + (1 : Int32))), .val (.int z1)] [(.int z2)]))
  refine own_via (fun _ k => XS.istore X0.here hx rfl (hb hby dh0_20) rfl (l' := #[.val (.ref a), .val (.int (((0 : Int32) + z0) + z1)), .val (.ref a), .val (.int (3 : Int32)), .val (.int (((0 : Int32) + (1 : Int32)) + (1 : Int32))), .val (.int z2)]) rfl k) ?_
  show own_G _ _ _ _ (s₁.setTop (mkF m 22 #[.val (.ref a), .val (.int (((0 : Int32) + z0) + z1)), .val (.ref a), .val (.int (3 : Int32)), .val (.int (((0 : Int32) + (1 : Int32)) + (1 : Int32))), .val (.int z2)] []))
  refine own_via (fun _ k => XS.iloadN X0.here hx rfl (hb hby dh0_22) rfl k) ?_
  show own_G _ _ _ _ (s₁.setTop (mkF m 23 #[.val (.ref a), .val (.int (((0 : Int32) + z0) + z1)), .val (.ref a), .val (.int (3 : Int32)), .val (.int (((0 : Int32) + (1 : Int32)) + (1 : Int32))), .val (.int z2)] [(.int (((0 : Int32) + z0) + z1))]))
  refine own_via (fun _ k => XS.iload X0.here hx rfl (hb hby dh0_23) rfl k) ?_
  show own_G _ _ _ _ (s₁.setTop (mkF m 25 #[.val (.ref a), .val (.int (((0 : Int32) + z0) + z1)), .val (.ref a), .val (.int (3 : Int32)), .val (.int (((0 : Int32) + (1 : Int32)) + (1 : Int32))), .val (.int z2)] [(.int z2), (.int (((0 : Int32) + z0) + z1))]))
  refine own_via (fun _ k => XS.iadd X0.here hx rfl (hb hby dh0_25) rfl k) ?_
  show own_G _ _ _ _ (s₁.setTop (mkF m 26 #[.val (.ref a), .val (.int (((0 : Int32) + z0) + z1)), .val (.ref a), .val (.int (3 : Int32)), .val (.int (((0 : Int32) + (1 : Int32)) + (1 : Int32))), .val (.int z2)] [(.int ((((0 : Int32) + z0) + z1) + z2))]))
  refine own_via (fun _ k => XS.istoreN X0.here hx rfl (hb hby dh0_26) rfl (l' := #[.val (.ref a), .val (.int ((((0 : Int32) + z0) + z1) + z2)), .val (.ref a), .val (.int (3 : Int32)), .val (.int (((0 : Int32) + (1 : Int32)) + (1 : Int32))), .val (.int z2)]) rfl k) ?_
  show own_G _ _ _ _ (s₁.setTop (mkF m 27 #[.val (.ref a), .val (.int ((((0 : Int32) + z0) + z1) + z2)), .val (.ref a), .val (.int (3 : Int32)), .val (.int (((0 : Int32) + (1 : Int32)) + (1 : Int32))), .val (.int z2)] []))
  refine own_via (fun _ k => XS.iinc X0.here hx rfl (hb hby dh0_27) rfl (l' := #[.val (.ref a), .val (.int ((((0 : Int32) + z0) + z1) + z2)), .val (.ref a), .val (.int (3 : Int32)), .val (.int ((((0 : Int32) + (1 : Int32)) + (1 : Int32)) + (1 : Int32))), .val (.int z2)]) rfl k) ?_
  show own_G _ _ _ _ (s₁.setTop (mkF m 30 #[.val (.ref a), .val (.int ((((0 : Int32) + z0) + z1) + z2)), .val (.ref a), .val (.int (3 : Int32)), .val (.int ((((0 : Int32) + (1 : Int32)) + (1 : Int32)) + (1 : Int32))), .val (.int z2)] []))
  refine own_via (fun _ k => XS.goto X0.here hx rfl (pc0 := 30) (pc' := 10) rfl (hb hby dh0_30) (by decide) (by decide) k) ?_
  show own_G _ _ _ _ (s₁.setTop (mkF m 10 #[.val (.ref a), .val (.int ((((0 : Int32) + z0) + z1) + z2)), .val (.ref a), .val (.int (3 : Int32)), .val (.int ((((0 : Int32) + (1 : Int32)) + (1 : Int32)) + (1 : Int32))), .val (.int z2)] []))
  refine own_via (fun _ k => XS.iload X0.here hx rfl (hb hby dh0_10) rfl k) ?_
  show own_G _ _ _ _ (s₁.setTop (mkF m 12 #[.val (.ref a), .val (.int ((((0 : Int32) + z0) + z1) + z2)), .val (.ref a), .val (.int (3 : Int32)), .val (.int ((((0 : Int32) + (1 : Int32)) + (1 : Int32)) + (1 : Int32))), .val (.int z2)] [(.int ((((0 : Int32) + (1 : Int32)) + (1 : Int32)) + (1 : Int32)))]))
  refine own_via (fun _ k => XS.iloadN X0.here hx rfl (hb hby dh0_12) rfl k) ?_
  show own_G _ _ _ _ (s₁.setTop (mkF m 13 #[.val (.ref a), .val (.int ((((0 : Int32) + z0) + z1) + z2)), .val (.ref a), .val (.int (3 : Int32)), .val (.int ((((0 : Int32) + (1 : Int32)) + (1 : Int32)) + (1 : Int32))), .val (.int z2)] [(.int (3 : Int32)), (.int ((((0 : Int32) + (1 : Int32)) + (1 : Int32)) + (1 : Int32)))]))
  refine own_via (fun _ k => XS.icmpYes X0.here hx rfl (pc0 := 13) (pc' := 33) rfl (hb hby dh0_13) rfl (flt (by decide)).2.1 (by decide) (by decide) k) ?_
  show own_G _ _ _ _ (s₁.setTop (mkF m 33 #[.val (.ref a), .val (.int ((((0 : Int32) + z0) + z1) + z2)), .val (.ref a), .val (.int (3 : Int32)), .val (.int ((((0 : Int32) + (1 : Int32)) + (1 : Int32)) + (1 : Int32))), .val (.int z2)] []))
  refine own_via (fun _ k => XS.iloadN X0.here hx rfl (hb hby dh0_33) rfl k) ?_
  show own_G _ _ _ _ (s₁.setTop (mkF m 34 #[.val (.ref a), .val (.int ((((0 : Int32) + z0) + z1) + z2)), .val (.ref a), .val (.int (3 : Int32)), .val (.int ((((0 : Int32) + (1 : Int32)) + (1 : Int32)) + (1 : Int32))), .val (.int z2)] [(.int ((((0 : Int32) + z0) + z1) + z2))]))
  obtain ⟨fs, hr, hrun, hended, hW, hsame⟩ := X0.leave (v := some (.int ((((0 : Int32) + z0) + z1) + z2))) (fun h => by rw [Bd.returns] at h; cases h)
  refine ⟨_, _, ?_, hrun, hended, _, _, rfl, ?_, ⟨_, rfl⟩, hW, hsame.mono (by decide) (by decide)⟩
  · exact retI X0 hx Bd.returns (hb hby dh0_34) hr
  · show Qh3 Z a kk0 z0 z1 z2 h0 n0 _ s₁.heap _
    rw [e0]
    exact ⟨rfl, N0, rfl⟩
theorem pn_h4 : plainName "com/example/vanon/vanon/lattice/Lattice" = true := by first | (simp [plainName, overriddenIn]; done) | decide +kernel
theorem ef_h4 (m : MethodId) (a : Addr) : entryFrame m #[(.ref a)] 6 = (mkF m 0 #[.val (.ref a), .unset, .unset, .unset, .unset, .unset] []) := by first | (simp [entryFrame, mkF, argsToLocals, Value.category]; done) | rfl
def Qh4 (Z : State) (a : Addr) (kk0 : ClassId) (z0 : Int32) (z1 : Int32) (z2 : Int32) (z3 : Int32) (h0 : Heap) (n0 : Nat) (v : Option Value) (h : Heap) (L : List Loc) : Prop := v = some (.int (((((0 : Int32) + z0) + z1) + z2) + z3)) ∧ Fr n0 L ∧ h = h0
set_option maxRecDepth 65536 in
set_option maxHeartbeats 40000000 in
theorem rmh4 (l : Launch) (Z : State) (a0 : Array Value) (hw : ∀ d ∈ tables_1, d.before a0 Z = true) (ws : List Jvm.Cond) (a : Addr) (kk0 : ClassId) (z0 : Int32) (z1 : Int32) (z2 : Int32) (z3 : Int32) (h0 : Heap) (n0 : Nat) (Z0 : n0 ≤ h0.size) (V_a : Arv Z h0 a kk0 .int (4 : Int32) [(.int z0), (.int z1), (.int z2), (.int z3)] (.int (0 : Int32))) :
    MetFree l (⟨"com/example/vanon/vanon/lattice/Lattice", "height", "([I)I"⟩ : MethodName) (head1 (Jvm.Cond.code (⟨"com/example/vanon/vanon/lattice/Lattice", "height", "([I)I"⟩ : MethodName) prog_16_method_11_code 6 (some .int) :: ws) ({ frames := 0, cells := 0, slots := 0, locals := 0 } : Room)) (fun as' U => as' = #[(.ref a)] ∧ Z.Warmed39 U.vm ∧ U.heap = h0) (fun _ _ _ _ _ => True) (fun _ U o U' => ∃ v L, o = .returned v ∧ Qh4 Z a kk0 z0 z1 z2 z3 h0 n0 v U'.heap L ∧ FrameEnd U o U' L ({ frames := 0, cells := 0, slots := 0, locals := 0 } : Room).cells ({ frames := 0, cells := 0, slots := 0, locals := 0 } : Room).slots) := by
  refine MetFree.of_bodySF (plainFor_of_name pn_h4) hisR ?_
  intro p e s m args below meth c s₁ Bd hml0 hP hK
  obtain ⟨rfl, hZ, hh⟩ := hP
  have hx := Bd.exec
  have hby := Bd.bytes
  have hml : c.maxLocals = 6 := hml0
  have hown : s.vm.findClass "com/example/vanon/vanon/lattice/Lattice" = some m.cls := findClass_of_methodNamed Bd.named
  have hnm := (name_of_methodNamed Bd.named Bd.method).1
  have X0 : Stand p l e ({ frames := 0, cells := 0, slots := 0, locals := 0 } : Room) s m #[(.ref a)] below meth c s₁ [] 0 0 := Stand.of_body Bd
  have e0 : s₁.heap = h0 := by rw [← hh, Bd.state]; rfl
  have N0 := Fr.nil n0
  refine own_via (fun t k => castTop (ef_h4 m a) k) ?_
  show own_G _ _ _ _ (s₁.setTop (mkF m 0 #[.val (.ref a), .unset, .unset, .unset, .unset, .unset] []))
  refine own_via (fun _ k => XS.iconst X0.here hx rfl (hb hby dh0_0) k) ?_
  show own_G _ _ _ _ (s₁.setTop (mkF m 1 #[.val (.ref a), .unset, .unset, .unset, .unset, .unset] [(.int (0 : Int32))]))
  refine own_via (fun _ k => XS.istoreN X0.here hx rfl (hb hby dh0_1) rfl (l' := #[.val (.ref a), .val (.int (0 : Int32)), .unset, .unset, .unset, .unset]) rfl k) ?_
  show own_G _ _ _ _ (s₁.setTop (mkF m 2 #[.val (.ref a), .val (.int (0 : Int32)), .unset, .unset, .unset, .unset] []))
  refine own_via (fun _ k => XS.aloadN X0.here hx rfl (hb hby dh0_2) rfl rfl k) ?_
  show own_G _ _ _ _ (s₁.setTop (mkF m 3 #[.val (.ref a), .val (.int (0 : Int32)), .unset, .unset, .unset, .unset] [(.ref a)]))
  refine own_via (fun _ k => XS.astoreN X0.here hx rfl (hb hby dh0_3) rfl rfl (l' := #[.val (.ref a), .val (.int (0 : Int32)), .val (.ref a), .unset, .unset, .unset]) rfl k) ?_
  show own_G _ _ _ _ (s₁.setTop (mkF m 4 #[.val (.ref a), .val (.int (0 : Int32)), .val (.ref a), .unset, .unset, .unset] []))
  refine own_via (fun _ k => XS.aloadN X0.here hx rfl (hb hby dh0_4) rfl rfl k) ?_
  show own_G _ _ _ _ (s₁.setTop (mkF m 5 #[.val (.ref a), .val (.int (0 : Int32)), .val (.ref a), .unset, .unset, .unset] [(.ref a)]))
  obtain ⟨cl11, Ar11, -, Sz11, Nn11, -, -⟩ := id V_a
  refine own_via (fun _ k => X0.arraylength hx (by rw [e0]; exact Ar11.1) (State.isArrayOf_alike hZ.alike Ar11.2.1) (g := (mkF m 5 #[.val (.ref a), .val (.int (0 : Int32)), .val (.ref a), .unset, .unset, .unset] [(.ref a)])) rfl rfl (hb hby dh0_5) _ k) ?_
  rw [len_of Sz11 Nn11]
  show own_G _ _ _ _ (s₁.setTop (mkF m 6 #[.val (.ref a), .val (.int (0 : Int32)), .val (.ref a), .unset, .unset, .unset] [(.int (4 : Int32))]))
  refine own_via (fun _ k => XS.istoreN X0.here hx rfl (hb hby dh0_6) rfl (l' := #[.val (.ref a), .val (.int (0 : Int32)), .val (.ref a), .val (.int (4 : Int32)), .unset, .unset]) rfl k) ?_
  show own_G _ _ _ _ (s₁.setTop (mkF m 7 #[.val (.ref a), .val (.int (0 : Int32)), .val (.ref a), .val (.int (4 : Int32)), .unset, .unset] []))
  refine own_via (fun _ k => XS.iconst X0.here hx rfl (hb hby dh0_7) k) ?_
  show own_G _ _ _ _ (s₁.setTop (mkF m 8 #[.val (.ref a), .val (.int (0 : Int32)), .val (.ref a), .val (.int (4 : Int32)), .unset, .unset] [(.int (0 : Int32))]))
  refine own_via (fun _ k => XS.istore X0.here hx rfl (hb hby dh0_8) rfl (l' := #[.val (.ref a), .val (.int (0 : Int32)), .val (.ref a), .val (.int (4 : Int32)), .val (.int (0 : Int32)), .unset]) rfl k) ?_
  show own_G _ _ _ _ (s₁.setTop (mkF m 10 #[.val (.ref a), .val (.int (0 : Int32)), .val (.ref a), .val (.int (4 : Int32)), .val (.int (0 : Int32)), .unset] []))
  refine own_via (fun _ k => XS.iload X0.here hx rfl (hb hby dh0_10) rfl k) ?_
  show own_G _ _ _ _ (s₁.setTop (mkF m 12 #[.val (.ref a), .val (.int (0 : Int32)), .val (.ref a), .val (.int (4 : Int32)), .val (.int (0 : Int32)), .unset] [(.int (0 : Int32))]))
  refine own_via (fun _ k => XS.iloadN X0.here hx rfl (hb hby dh0_12) rfl k) ?_
  show own_G _ _ _ _ (s₁.setTop (mkF m 13 #[.val (.ref a), .val (.int (0 : Int32)), .val (.ref a), .val (.int (4 : Int32)), .val (.int (0 : Int32)), .unset] [(.int (4 : Int32)), (.int (0 : Int32))]))
  refine own_via (fun _ k => XS.icmpNo X0.here hx rfl (hb hby dh0_13) rfl (tlt (by decide)).2.1 k) ?_
  show own_G _ _ _ _ (s₁.setTop (mkF m 16 #[.val (.ref a), .val (.int (0 : Int32)), .val (.ref a), .val (.int (4 : Int32)), .val (.int (0 : Int32)), .unset] []))
  refine own_via (fun _ k => XS.aloadN X0.here hx rfl (hb hby dh0_16) rfl rfl k) ?_
  show own_G _ _ _ _ (s₁.setTop (mkF m 17 #[.val (.ref a), .val (.int (0 : Int32)), .val (.ref a), .val (.int (4 : Int32)), .val (.int (0 : Int32)), .unset] [(.ref a)]))
  refine own_via (fun _ k => XS.iload X0.here hx rfl (hb hby dh0_17) rfl k) ?_
  show own_G _ _ _ _ (s₁.setTop (mkF m 19 #[.val (.ref a), .val (.int (0 : Int32)), .val (.ref a), .val (.int (4 : Int32)), .val (.int (0 : Int32)), .unset] [(.int (0 : Int32)), (.ref a)]))
  obtain ⟨cl12, Ar12, -, Sz12, Nn12, Hh12, -⟩ := id V_a
  have hin12 : ¬ ((0 : Int32) < 0 ∨ cl12.slots.size ≤ ((0 : Int32)).toNatClampNeg) := inb_of Sz12 ⟨by decide, by decide⟩
  have hat12 : cl12.slots[((0 : Int32)).toNatClampNeg]? = some (.int z0) := Has.at Hh12 hin12 rfl
  refine own_via (fun _ k => X0.iaload hx (j := (0 : Int32)) (v := (.int z0)) (by rw [e0]; exact Ar12.1) (State.isArrayOf_alike hZ.alike Ar12.2.1) Ar12.2.2 hin12 hat12 (g := (mkF m 19 #[.val (.ref a), .val (.int (0 : Int32)), .val (.ref a), .val (.int (4 : Int32)), .val (.int (0 : Int32)), .unset] [(.int (0 : Int32)), (.ref a)])) rfl rfl (hb hby dh0_19) _ k) ?_
  show own_G _ _ _ _ (s₁.setTop (mkF m 20 #[.val (.ref a), .val (.int (0 : Int32)), .val (.ref a), .val (.int (4 : Int32)), .val (.int (0 : Int32)), .unset] [(.int z0)]))
  refine own_via (fun _ k => XS.istore X0.here hx rfl (hb hby dh0_20) rfl (l' := #[.val (.ref a), .val (.int (0 : Int32)), .val (.ref a), .val (.int (4 : Int32)), .val (.int (0 : Int32)), .val (.int z0)]) rfl k) ?_
  show own_G _ _ _ _ (s₁.setTop (mkF m 22 #[.val (.ref a), .val (.int (0 : Int32)), .val (.ref a), .val (.int (4 : Int32)), .val (.int (0 : Int32)), .val (.int z0)] []))
  refine own_via (fun _ k => XS.iloadN X0.here hx rfl (hb hby dh0_22) rfl k) ?_
  show own_G _ _ _ _ (s₁.setTop (mkF m 23 #[.val (.ref a), .val (.int (0 : Int32)), .val (.ref a), .val (.int (4 : Int32)), .val (.int (0 : Int32)), .val (.int z0)] [(.int (0 : Int32))]))
  refine own_via (fun _ k => XS.iload X0.here hx rfl (hb hby dh0_23) rfl k) ?_
  show own_G _ _ _ _ (s₁.setTop (mkF m 25 #[.val (.ref a), .val (.int (0 : Int32)), .val (.ref a), .val (.int (4 : Int32)), .val (.int (0 : Int32)), .val (.int z0)] [(.int z0), (.int (0 : Int32))]))
  refine own_via (fun _ k => XS.iadd X0.here hx rfl (hb hby dh0_25) rfl k) ?_
  show own_G _ _ _ _ (s₁.setTop (mkF m 26 #[.val (.ref a), .val (.int (0 : Int32)), .val (.ref a), .val (.int (4 : Int32)), .val (.int (0 : Int32)), .val (.int z0)] [(.int ((0 : Int32) + z0))]))
  refine own_via (fun _ k => XS.istoreN X0.here hx rfl (hb hby dh0_26) rfl (l' := #[.val (.ref a), .val (.int ((0 : Int32) + z0)), .val (.ref a), .val (.int (4 : Int32)), .val (.int (0 : Int32)), .val (.int z0)]) rfl k) ?_
  show own_G _ _ _ _ (s₁.setTop (mkF m 27 #[.val (.ref a), .val (.int ((0 : Int32) + z0)), .val (.ref a), .val (.int (4 : Int32)), .val (.int (0 : Int32)), .val (.int z0)] []))
  refine own_via (fun _ k => XS.iinc X0.here hx rfl (hb hby dh0_27) rfl (l' := #[.val (.ref a), .val (.int ((0 : Int32) + z0)), .val (.ref a), .val (.int (4 : Int32)), .val (.int ((0 : Int32) + (1 : Int32))), .val (.int z0)]) rfl k) ?_
  show own_G _ _ _ _ (s₁.setTop (mkF m 30 #[.val (.ref a), .val (.int ((0 : Int32) + z0)), .val (.ref a), .val (.int (4 : Int32)), .val (.int ((0 : Int32) + (1 : Int32))), .val (.int z0)] []))
  refine own_via (fun _ k => XS.goto X0.here hx rfl (pc0 := 30) (pc' := 10) rfl (hb hby dh0_30) (by decide) (by decide) k) ?_
  show own_G _ _ _ _ (s₁.setTop (mkF m 10 #[.val (.ref a), .val (.int ((0 : Int32) + z0)), .val (.ref a), .val (.int (4 : Int32)), .val (.int ((0 : Int32) + (1 : Int32))), .val (.int z0)] []))
  refine own_via (fun _ k => XS.iload X0.here hx rfl (hb hby dh0_10) rfl k) ?_
  show own_G _ _ _ _ (s₁.setTop (mkF m 12 #[.val (.ref a), .val (.int ((0 : Int32) + z0)), .val (.ref a), .val (.int (4 : Int32)), .val (.int ((0 : Int32) + (1 : Int32))), .val (.int z0)] [(.int ((0 : Int32) + (1 : Int32)))]))
  refine own_via (fun _ k => XS.iloadN X0.here hx rfl (hb hby dh0_12) rfl k) ?_
  show own_G _ _ _ _ (s₁.setTop (mkF m 13 #[.val (.ref a), .val (.int ((0 : Int32) + z0)), .val (.ref a), .val (.int (4 : Int32)), .val (.int ((0 : Int32) + (1 : Int32))), .val (.int z0)] [(.int (4 : Int32)), (.int ((0 : Int32) + (1 : Int32)))]))
  refine own_via (fun _ k => XS.icmpNo X0.here hx rfl (hb hby dh0_13) rfl (tlt (by decide)).2.1 k) ?_
  show own_G _ _ _ _ (s₁.setTop (mkF m 16 #[.val (.ref a), .val (.int ((0 : Int32) + z0)), .val (.ref a), .val (.int (4 : Int32)), .val (.int ((0 : Int32) + (1 : Int32))), .val (.int z0)] []))
  refine own_via (fun _ k => XS.aloadN X0.here hx rfl (hb hby dh0_16) rfl rfl k) ?_
  show own_G _ _ _ _ (s₁.setTop (mkF m 17 #[.val (.ref a), .val (.int ((0 : Int32) + z0)), .val (.ref a), .val (.int (4 : Int32)), .val (.int ((0 : Int32) + (1 : Int32))), .val (.int z0)] [(.ref a)]))
  refine own_via (fun _ k => XS.iload X0.here hx rfl (hb hby dh0_17) rfl k) ?_
  show own_G _ _ _ _ (s₁.setTop (mkF m 19 #[.val (.ref a), .val (.int ((0 : Int32) + z0)), .val (.ref a), .val (.int (4 : Int32)), .val (.int ((0 : Int32) + (1 : Int32))), .val (.int z0)] [(.int ((0 : Int32) + (1 : Int32))), (.ref a)]))
  obtain ⟨cl13, Ar13, -, Sz13, Nn13, Hh13, -⟩ := id V_a
  have hin13 : ¬ (((0 : Int32) + (1 : Int32)) < 0 ∨ cl13.slots.size ≤ (((0 : Int32) + (1 : Int32))).toNatClampNeg) := inb_of Sz13 ⟨by decide, by decide⟩
  have hat13 : cl13.slots[(((0 : Int32) + (1 : Int32))).toNatClampNeg]? = some (.int z1) := Has.at Hh13 hin13 rfl
  refine own_via (fun _ k => X0.iaload hx (j := ((0 : Int32) + (1 : Int32))) (v := (.int z1)) (by rw [e0]; exact Ar13.1) (State.isArrayOf_alike hZ.alike Ar13.2.1) Ar13.2.2 hin13 hat13 (g := (mkF m 19 #[.val (.ref a), .val (.int ((0 : Int32) + z0)), .val (.ref a), .val (.int (4 : Int32)), .val (.int ((0 : Int32) + (1 : Int32))), .val (.int z0)] [(.int ((0 : Int32) + (1 : Int32))), (.ref a)])) rfl rfl (hb hby dh0_19) _ k) ?_
  show own_G _ _ _ _ (s₁.setTop (mkF m 20 #[.val (.ref a), .val (.int ((0 : Int32) + z0)), .val (.ref a), .val (.int (4 : Int32)), .val (.int ((0 : Int32) + (1 : Int32))), .val (.int z0)] [(.int z1)]))
  refine own_via (fun _ k => XS.istore X0.here hx rfl (hb hby dh0_20) rfl (l' := #[.val (.ref a), .val (.int ((0 : Int32) + z0)), .val (.ref a), .val (.int (4 : Int32)), .val (.int ((0 : Int32) + (1 : Int32))), .val (.int z1)]) rfl k) ?_
  show own_G _ _ _ _ (s₁.setTop (mkF m 22 #[.val (.ref a), .val (.int ((0 : Int32) + z0)), .val (.ref a), .val (.int (4 : Int32)), .val (.int ((0 : Int32) + (1 : Int32))), .val (.int z1)] []))
  refine own_via (fun _ k => XS.iloadN X0.here hx rfl (hb hby dh0_22) rfl k) ?_
  show own_G _ _ _ _ (s₁.setTop (mkF m 23 #[.val (.ref a), .val (.int ((0 : Int32) + z0)), .val (.ref a), .val (.int (4 : Int32)), .val (.int ((0 : Int32) + (1 : Int32))), .val (.int z1)] [(.int ((0 : Int32) + z0))]))
  refine own_via (fun _ k => XS.iload X0.here hx rfl (hb hby dh0_23) rfl k) ?_
  show own_G _ _ _ _ (s₁.setTop (mkF m 25 #[.val (.ref a), .val (.int ((0 : Int32) + z0)), .val (.ref a), .val (.int (4 : Int32)), .val (.int ((0 : Int32) + (1 : Int32))), .val (.int z1)] [(.int z1), (.int ((0 : Int32) + z0))]))
  refine own_via (fun _ k => XS.iadd X0.here hx rfl (hb hby dh0_25) rfl k) ?_
  show own_G _ _ _ _ (s₁.setTop (mkF m 26 #[.val (.ref a), .val (.int ((0 : Int32) + z0)), .val (.ref a), .val (.int (4 : Int32)), .val (.int ((0 : Int32) + (1 : Int32))), .val (.int z1)] [(.int (((0 : Int32) + z0) + z1))]))
  refine own_via (fun _ k => XS.istoreN X0.here hx rfl (hb hby dh0_26) rfl (l' := #[.val (.ref a), .val (.int (((0 : Int32) + z0) + z1)), .val (.ref a), .val (.int (4 : Int32)), .val (.int ((0 : Int32) + (1 : Int32))), .val (.int z1)]) rfl k) ?_
  show own_G _ _ _ _ (s₁.setTop (mkF m 27 #[.val (.ref a), .val (.int (((0 : Int32) + z0) + z1)), .val (.ref a), .val (.int (4 : Int32)), .val (.int ((0 : Int32) + (1 : Int32))), .val (.int z1)] []))
  refine own_via (fun _ k => XS.iinc X0.here hx rfl (hb hby dh0_27) rfl (l' := #[.val (.ref a), .val (.int (((0 : Int32) + z0) + z1)), .val (.ref a), .val (.int (4 : Int32)), .val (.int (((0 : Int32) + (1 : Int32)) + (1 : Int32))), .val (.int z1)]) rfl k) ?_
  show own_G _ _ _ _ (s₁.setTop (mkF m 30 #[.val (.ref a), .val (.int (((0 : Int32) + z0) + z1)), .val (.ref a), .val (.int (4 : Int32)), .val (.int (((0 : Int32) + (1 : Int32)) + (1 : Int32))), .val (.int z1)] []))
  refine own_via (fun _ k => XS.goto X0.here hx rfl (pc0 := 30) (pc' := 10) rfl (hb hby dh0_30) (by decide) (by decide) k) ?_
  show own_G _ _ _ _ (s₁.setTop (mkF m 10 #[.val (.ref a), .val (.int (((0 : Int32) + z0) + z1)), .val (.ref a), .val (.int (4 : Int32)), .val (.int (((0 : Int32) + (1 : Int32)) + (1 : Int32))), .val (.int z1)] []))
  refine own_via (fun _ k => XS.iload X0.here hx rfl (hb hby dh0_10) rfl k) ?_
  show own_G _ _ _ _ (s₁.setTop (mkF m 12 #[.val (.ref a), .val (.int (((0 : Int32) + z0) + z1)), .val (.ref a), .val (.int (4 : Int32)), .val (.int (((0 : Int32) + (1 : Int32)) + (1 : Int32))), .val (.int z1)] [(.int (((0 : Int32) + (1 : Int32)) + (1 : Int32)))]))
  refine own_via (fun _ k => XS.iloadN X0.here hx rfl (hb hby dh0_12) rfl k) ?_
  show own_G _ _ _ _ (s₁.setTop (mkF m 13 #[.val (.ref a), .val (.int (((0 : Int32) + z0) + z1)), .val (.ref a), .val (.int (4 : Int32)), .val (.int (((0 : Int32) + (1 : Int32)) + (1 : Int32))), .val (.int z1)] [(.int (4 : Int32)), (.int (((0 : Int32) + (1 : Int32)) + (1 : Int32)))]))
  refine own_via (fun _ k => XS.icmpNo X0.here hx rfl (hb hby dh0_13) rfl (tlt (by decide)).2.1 k) ?_
  show own_G _ _ _ _ (s₁.setTop (mkF m 16 #[.val (.ref a), .val (.int (((0 : Int32) + z0) + z1)), .val (.ref a), .val (.int (4 : Int32)), .val (.int (((0 : Int32) + (1 : Int32)) + (1 : Int32))), .val (.int z1)] []))
  refine own_via (fun _ k => XS.aloadN X0.here hx rfl (hb hby dh0_16) rfl rfl k) ?_
  show own_G _ _ _ _ (s₁.setTop (mkF m 17 #[.val (.ref a), .val (.int (((0 : Int32) + z0) + z1)), .val (.ref a), .val (.int (4 : Int32)), .val (.int (((0 : Int32) + (1 : Int32)) + (1 : Int32))), .val (.int z1)] [(.ref a)]))
  refine own_via (fun _ k => XS.iload X0.here hx rfl (hb hby dh0_17) rfl k) ?_
  show own_G _ _ _ _ (s₁.setTop (mkF m 19 #[.val (.ref a), .val (.int (((0 : Int32) + z0) + z1)), .val (.ref a), .val (.int (4 : Int32)), .val (.int (((0 : Int32) + (1 : Int32)) + (1 : Int32))), .val (.int z1)] [(.int (((0 : Int32) + (1 : Int32)) + (1 : Int32))), (.ref a)]))
  obtain ⟨cl14, Ar14, -, Sz14, Nn14, Hh14, -⟩ := id V_a
  have hin14 : ¬ ((((0 : Int32) + (1 : Int32)) + (1 : Int32)) < 0 ∨ cl14.slots.size ≤ ((((0 : Int32) + (1 : Int32)) + (1 : Int32))).toNatClampNeg) := inb_of Sz14 ⟨by decide, by decide⟩
  have hat14 : cl14.slots[((((0 : Int32) + (1 : Int32)) + (1 : Int32))).toNatClampNeg]? = some (.int z2) := Has.at Hh14 hin14 rfl
  refine own_via (fun _ k => X0.iaload hx (j := (((0 : Int32) + (1 : Int32)) + (1 : Int32))) (v := (.int z2)) (by rw [e0]; exact Ar14.1) (State.isArrayOf_alike hZ.alike Ar14.2.1) Ar14.2.2 hin14 hat14 (g := (mkF m 19 #[.val (.ref a), .val (.int (((0 : Int32) + z0) + z1)), .val (.ref a), .val (.int (4 : Int32)), .val (.int (((0 : Int32) + (1 : Int32)) + (1 : Int32))), .val (.int z1)] [(.int (((0 : Int32) + (1 : Int32)) + (1 : Int32))), (.ref a)])) rfl rfl (hb hby dh0_19) _ k) ?_
  show own_G _ _ _ _ (s₁.setTop (mkF m 20 #[.val (.ref a), .val (.int (((0 : Int32) + z0) + z1)), .val (.ref a), .val (.int (4 : Int32)), .val (.int (((0 : Int32) + (1 : Int32)) + (1 : Int32))), .val (.int z1)] [(.int z2)]))
  refine own_via (fun _ k => XS.istore X0.here hx rfl (hb hby dh0_20) rfl (l' := #[.val (.ref a), .val (.int (((0 : Int32) + z0) + z1)), .val (.ref a), .val (.int (4 : Int32)), .val (.int (((0 : Int32) + (1 : Int32)) + (1 : Int32))), .val (.int z2)]) rfl k) ?_
  show own_G _ _ _ _ (s₁.setTop (mkF m 22 #[.val (.ref a), .val (.int (((0 : Int32) + z0) + z1)), .val (.ref a), .val (.int (4 : Int32)), .val (.int (((0 : Int32) + (1 : Int32)) + (1 : Int32))), .val (.int z2)] []))
  refine own_via (fun _ k => XS.iloadN X0.here hx rfl (hb hby dh0_22) rfl k) ?_
  show own_G _ _ _ _ (s₁.setTop (mkF m 23 #[.val (.ref a), .val (.int (((0 : Int32) + z0) + z1)), .val (.ref a), .val (.int (4 : Int32)), .val (.int (((0 : Int32) + (1 : Int32)) + (1 : Int32))), .val (.int z2)] [(.int (((0 : Int32) + z0) + z1))]))
  refine own_via (fun _ k => XS.iload X0.here hx rfl (hb hby dh0_23) rfl k) ?_
  show own_G _ _ _ _ (s₁.setTop (mkF m 25 #[.val (.ref a), .val (.int (((0 : Int32) + z0) + z1)), .val (.ref a), .val (.int (4 : Int32)), .val (.int (((0 : Int32) + (1 : Int32)) + (1 : Int32))), .val (.int z2)] [(.int z2), (.int (((0 : Int32) + z0) + z1))]))
  refine own_via (fun _ k => XS.iadd X0.here hx rfl (hb hby dh0_25) rfl k) ?_
  show own_G _ _ _ _ (s₁.setTop (mkF m 26 #[.val (.ref a), .val (.int (((0 : Int32) + z0) + z1)), .val (.ref a), .val (.int (4 : Int32)), .val (.int (((0 : Int32) + (1 : Int32)) + (1 : Int32))), .val (.int z2)] [(.int ((((0 : Int32) + z0) + z1) + z2))]))
  refine own_via (fun _ k => XS.istoreN X0.here hx rfl (hb hby dh0_26) rfl (l' := #[.val (.ref a), .val (.int ((((0 : Int32) + z0) + z1) + z2)), .val (.ref a), .val (.int (4 : Int32)), .val (.int (((0 : Int32) + (1 : Int32)) + (1 : Int32))), .val (.int z2)]) rfl k) ?_
  show own_G _ _ _ _ (s₁.setTop (mkF m 27 #[.val (.ref a), .val (.int ((((0 : Int32) + z0) + z1) + z2)), .val (.ref a), .val (.int (4 : Int32)), .val (.int (((0 : Int32) + (1 : Int32)) + (1 : Int32))), .val (.int z2)] []))
  refine own_via (fun _ k => XS.iinc X0.here hx rfl (hb hby dh0_27) rfl (l' := #[.val (.ref a), .val (.int ((((0 : Int32) + z0) + z1) + z2)), .val (.ref a), .val (.int (4 : Int32)), .val (.int ((((0 : Int32) + (1 : Int32)) + (1 : Int32)) + (1 : Int32))), .val (.int z2)]) rfl k) ?_
  show own_G _ _ _ _ (s₁.setTop (mkF m 30 #[.val (.ref a), .val (.int ((((0 : Int32) + z0) + z1) + z2)), .val (.ref a), .val (.int (4 : Int32)), .val (.int ((((0 : Int32) + (1 : Int32)) + (1 : Int32)) + (1 : Int32))), .val (.int z2)] []))
  refine own_via (fun _ k => XS.goto X0.here hx rfl (pc0 := 30) (pc' := 10) rfl (hb hby dh0_30) (by decide) (by decide) k) ?_
  show own_G _ _ _ _ (s₁.setTop (mkF m 10 #[.val (.ref a), .val (.int ((((0 : Int32) + z0) + z1) + z2)), .val (.ref a), .val (.int (4 : Int32)), .val (.int ((((0 : Int32) + (1 : Int32)) + (1 : Int32)) + (1 : Int32))), .val (.int z2)] []))
  refine own_via (fun _ k => XS.iload X0.here hx rfl (hb hby dh0_10) rfl k) ?_
  show own_G _ _ _ _ (s₁.setTop (mkF m 12 #[.val (.ref a), .val (.int ((((0 : Int32) + z0) + z1) + z2)), .val (.ref a), .val (.int (4 : Int32)), .val (.int ((((0 : Int32) + (1 : Int32)) + (1 : Int32)) + (1 : Int32))), .val (.int z2)] [(.int ((((0 : Int32) + (1 : Int32)) + (1 : Int32)) + (1 : Int32)))]))
  refine own_via (fun _ k => XS.iloadN X0.here hx rfl (hb hby dh0_12) rfl k) ?_
  show own_G _ _ _ _ (s₁.setTop (mkF m 13 #[.val (.ref a), .val (.int ((((0 : Int32) + z0) + z1) + z2)), .val (.ref a), .val (.int (4 : Int32)), .val (.int ((((0 : Int32) + (1 : Int32)) + (1 : Int32)) + (1 : Int32))), .val (.int z2)] [(.int (4 : Int32)), (.int ((((0 : Int32) + (1 : Int32)) + (1 : Int32)) + (1 : Int32)))]))
  refine own_via (fun _ k => XS.icmpNo X0.here hx rfl (hb hby dh0_13) rfl (tlt (by decide)).2.1 k) ?_
  show own_G _ _ _ _ (s₁.setTop (mkF m 16 #[.val (.ref a), .val (.int ((((0 : Int32) + z0) + z1) + z2)), .val (.ref a), .val (.int (4 : Int32)), .val (.int ((((0 : Int32) + (1 : Int32)) + (1 : Int32)) + (1 : Int32))), .val (.int z2)] []))
  refine own_via (fun _ k => XS.aloadN X0.here hx rfl (hb hby dh0_16) rfl rfl k) ?_
  show own_G _ _ _ _ (s₁.setTop (mkF m 17 #[.val (.ref a), .val (.int ((((0 : Int32) + z0) + z1) + z2)), .val (.ref a), .val (.int (4 : Int32)), .val (.int ((((0 : Int32) + (1 : Int32)) + (1 : Int32)) + (1 : Int32))), .val (.int z2)] [(.ref a)]))
  refine own_via (fun _ k => XS.iload X0.here hx rfl (hb hby dh0_17) rfl k) ?_
  show own_G _ _ _ _ (s₁.setTop (mkF m 19 #[.val (.ref a), .val (.int ((((0 : Int32) + z0) + z1) + z2)), .val (.ref a), .val (.int (4 : Int32)), .val (.int ((((0 : Int32) + (1 : Int32)) + (1 : Int32)) + (1 : Int32))), .val (.int z2)] [(.int ((((0 : Int32) + (1 : Int32)) + (1 : Int32)) + (1 : Int32))), (.ref a)]))
  obtain ⟨cl15, Ar15, -, Sz15, Nn15, Hh15, -⟩ := id V_a
  have hin15 : ¬ (((((0 : Int32) + (1 : Int32)) + (1 : Int32)) + (1 : Int32)) < 0 ∨ cl15.slots.size ≤ (((((0 : Int32) + (1 : Int32)) + (1 : Int32)) + (1 : Int32))).toNatClampNeg) := inb_of Sz15 ⟨by decide, by decide⟩
  have hat15 : cl15.slots[(((((0 : Int32) + (1 : Int32)) + (1 : Int32)) + (1 : Int32))).toNatClampNeg]? = some (.int z3) := Has.at Hh15 hin15 rfl
  refine own_via (fun _ k => X0.iaload hx (j := ((((0 : Int32) + (1 : Int32)) + (1 : Int32)) + (1 : Int32))) (v := (.int z3)) (by rw [e0]; exact Ar15.1) (State.isArrayOf_alike hZ.alike Ar15.2.1) Ar15.2.2 hin15 hat15 (g := (mkF m 19 #[.val (.ref a), .val (.int ((((0 : Int32) + z0) + z1) + z2)), .val (.ref a), .val (.int (4 : Int32)), .val (.int ((((0 : Int32) + (1 : Int32)) + (1 : Int32)) + (1 : Int32))), .val (.int z2)] [(.int ((((0 : Int32) + (1 : Int32)) + (1 : Int32)) + (1 : Int32))), (.ref a)])) rfl rfl (hb hby dh0_19) _ k) ?_
  show own_G _ _ _ _ (s₁.setTop (mkF m 20 #[.val (.ref a), .val (.int ((((0 : Int32) + z0) + z1) + z2)), .val (.ref a), .val (.int (4 : Int32)), .val (.int ((((0 : Int32) + (1 : Int32)) + (1 : Int32)) + (1 : Int32))), .val (.int z2)] [(.int z3)]))
  refine own_via (fun _ k => XS.istore X0.here hx rfl (hb hby dh0_20) rfl (l' := #[.val (.ref a), .val (.int ((((0 : Int32) + z0) + z1) + z2)), .val (.ref a), .val (.int (4 : Int32)), .val (.int ((((0 : Int32) + (1 : Int32)) + (1 : Int32)) + (1 : Int32))), .val (.int z3)]) rfl k) ?_
  show own_G _ _ _ _ (s₁.setTop (mkF m 22 #[.val (.ref a), .val (.int ((((0 : Int32) + z0) + z1) + z2)), .val (.ref a), .val (.int (4 : Int32)), .val (.int ((((0 : Int32) + (1 : Int32)) + (1 : Int32)) + (1 : Int32))), .val (.int z3)] []))
  refine own_via (fun _ k => XS.iloadN X0.here hx rfl (hb hby dh0_22) rfl k) ?_
  show own_G _ _ _ _ (s₁.setTop (mkF m 23 #[.val (.ref a), .val (.int ((((0 : Int32) + z0) + z1) + z2)), .val (.ref a), .val (.int (4 : Int32)), .val (.int ((((0 : Int32) + (1 : Int32)) + (1 : Int32)) + (1 : Int32))), .val (.int z3)] [(.int ((((0 : Int32) + z0) + z1) + z2))]))
  refine own_via (fun _ k => XS.iload X0.here hx rfl (hb hby dh0_23) rfl k) ?_
  show own_G _ _ _ _ (s₁.setTop (mkF m 25 #[.val (.ref a), .val (.int ((((0 : Int32) + z0) + z1) + z2)), .val (.ref a), .val (.int (4 : Int32)), .val (.int ((((0 : Int32) + (1 : Int32)) + (1 : Int32)) + (1 : Int32))), .val (.int z3)] [(.int z3), (.int ((((0 : Int32) + z0) + z1) + z2))]))
  refine own_via (fun _ k => XS.iadd X0.here hx rfl (hb hby dh0_25) rfl k) ?_
  show own_G _ _ _ _ (s₁.setTop (mkF m 26 #[.val (.ref a), .val (.int ((((0 : Int32) + z0) + z1) + z2)), .val (.ref a), .val (.int (4 : Int32)), .val (.int ((((0 : Int32) + (1 : Int32)) + (1 : Int32)) + (1 : Int32))), .val (.int z3)] [(.int (((((0 : Int32) + z0) + z1) + z2) + z3))]))
  refine own_via (fun _ k => XS.istoreN X0.here hx rfl (hb hby dh0_26) rfl (l' := #[.val (.ref a), .val (.int (((((0 : Int32) + z0) + z1) + z2) + z3)), .val (.ref a), .val (.int (4 : Int32)), .val (.int ((((0 : Int32) + (1 : Int32)) + (1 : Int32)) + (1 : Int32))), .val (.int z3)]) rfl k) ?_
  show own_G _ _ _ _ (s₁.setTop (mkF m 27 #[.val (.ref a), .val (.int (((((0 : Int32) + z0) + z1) + z2) + z3)), .val (.ref a), .val (.int (4 : Int32)), .val (.int ((((0 : Int32) + (1 : Int32)) + (1 : Int32)) + (1 : Int32))), .val (.int z3)] []))
  refine own_via (fun _ k => XS.iinc X0.here hx rfl (hb hby dh0_27) rfl (l' := #[.val (.ref a), .val (.int (((((0 : Int32) + z0) + z1) + z2) + z3)), .val (.ref a), .val (.int (4 : Int32)), .val (.int (((((0 : Int32) + (1 : Int32)) + (1 : Int32)) + (1 : Int32)) + (1 : Int32))), .val (.int z3)]) rfl k) ?_
  show own_G _ _ _ _ (s₁.setTop (mkF m 30 #[.val (.ref a), .val (.int (((((0 : Int32) + z0) + z1) + z2) + z3)), .val (.ref a), .val (.int (4 : Int32)), .val (.int (((((0 : Int32) + (1 : Int32)) + (1 : Int32)) + (1 : Int32)) + (1 : Int32))), .val (.int z3)] []))
  refine own_via (fun _ k => XS.goto X0.here hx rfl (pc0 := 30) (pc' := 10) rfl (hb hby dh0_30) (by decide) (by decide) k) ?_
  show own_G _ _ _ _ (s₁.setTop (mkF m 10 #[.val (.ref a), .val (.int (((((0 : Int32) + z0) + z1) + z2) + z3)), .val (.ref a), .val (.int (4 : Int32)), .val (.int (((((0 : Int32) + (1 : Int32)) + (1 : Int32)) + (1 : Int32)) + (1 : Int32))), .val (.int z3)] []))
  refine own_via (fun _ k => XS.iload X0.here hx rfl (hb hby dh0_10) rfl k) ?_
  show own_G _ _ _ _ (s₁.setTop (mkF m 12 #[.val (.ref a), .val (.int (((((0 : Int32) + z0) + z1) + z2) + z3)), .val (.ref a), .val (.int (4 : Int32)), .val (.int (((((0 : Int32) + (1 : Int32)) + (1 : Int32)) + (1 : Int32)) + (1 : Int32))), .val (.int z3)] [(.int (((((0 : Int32) + (1 : Int32)) + (1 : Int32)) + (1 : Int32)) + (1 : Int32)))]))
  refine own_via (fun _ k => XS.iloadN X0.here hx rfl (hb hby dh0_12) rfl k) ?_
  show own_G _ _ _ _ (s₁.setTop (mkF m 13 #[.val (.ref a), .val (.int (((((0 : Int32) + z0) + z1) + z2) + z3)), .val (.ref a), .val (.int (4 : Int32)), .val (.int (((((0 : Int32) + (1 : Int32)) + (1 : Int32)) + (1 : Int32)) + (1 : Int32))), .val (.int z3)] [(.int (4 : Int32)), (.int (((((0 : Int32) + (1 : Int32)) + (1 : Int32)) + (1 : Int32)) + (1 : Int32)))]))
  refine own_via (fun _ k => XS.icmpYes X0.here hx rfl (pc0 := 13) (pc' := 33) rfl (hb hby dh0_13) rfl (flt (by decide)).2.1 (by decide) (by decide) k) ?_
  show own_G _ _ _ _ (s₁.setTop (mkF m 33 #[.val (.ref a), .val (.int (((((0 : Int32) + z0) + z1) + z2) + z3)), .val (.ref a), .val (.int (4 : Int32)), .val (.int (((((0 : Int32) + (1 : Int32)) + (1 : Int32)) + (1 : Int32)) + (1 : Int32))), .val (.int z3)] []))
  refine own_via (fun _ k => XS.iloadN X0.here hx rfl (hb hby dh0_33) rfl k) ?_
  show own_G _ _ _ _ (s₁.setTop (mkF m 34 #[.val (.ref a), .val (.int (((((0 : Int32) + z0) + z1) + z2) + z3)), .val (.ref a), .val (.int (4 : Int32)), .val (.int (((((0 : Int32) + (1 : Int32)) + (1 : Int32)) + (1 : Int32)) + (1 : Int32))), .val (.int z3)] [(.int (((((0 : Int32) + z0) + z1) + z2) + z3))]))
  obtain ⟨fs, hr, hrun, hended, hW, hsame⟩ := X0.leave (v := some (.int (((((0 : Int32) + z0) + z1) + z2) + z3))) (fun h => by rw [Bd.returns] at h; cases h)
  refine ⟨_, _, ?_, hrun, hended, _, _, rfl, ?_, ⟨_, rfl⟩, hW, hsame.mono (by decide) (by decide)⟩
  · exact retI X0 hx Bd.returns (hb hby dh0_34) hr
  · show Qh4 Z a kk0 z0 z1 z2 z3 h0 n0 _ s₁.heap _
    rw [e0]
    exact ⟨rfl, N0, rfl⟩
theorem pn_h5 : plainName "com/example/vanon/vanon/lattice/Lattice" = true := by first | (simp [plainName, overriddenIn]; done) | decide +kernel
theorem ef_h5 (m : MethodId) (a : Addr) : entryFrame m #[(.ref a)] 6 = (mkF m 0 #[.val (.ref a), .unset, .unset, .unset, .unset, .unset] []) := by first | (simp [entryFrame, mkF, argsToLocals, Value.category]; done) | rfl
def Qh5 (Z : State) (a : Addr) (kk0 : ClassId) (z0 : Int32) (z1 : Int32) (z2 : Int32) (z3 : Int32) (z4 : Int32) (h0 : Heap) (n0 : Nat) (v : Option Value) (h : Heap) (L : List Loc) : Prop := v = some (.int ((((((0 : Int32) + z0) + z1) + z2) + z3) + z4)) ∧ Fr n0 L ∧ h = h0
set_option maxRecDepth 65536 in
set_option maxHeartbeats 40000000 in
theorem rmh5 (l : Launch) (Z : State) (a0 : Array Value) (hw : ∀ d ∈ tables_1, d.before a0 Z = true) (ws : List Jvm.Cond) (a : Addr) (kk0 : ClassId) (z0 : Int32) (z1 : Int32) (z2 : Int32) (z3 : Int32) (z4 : Int32) (h0 : Heap) (n0 : Nat) (Z0 : n0 ≤ h0.size) (V_a : Arv Z h0 a kk0 .int (5 : Int32) [(.int z0), (.int z1), (.int z2), (.int z3), (.int z4)] (.int (0 : Int32))) :
    MetFree l (⟨"com/example/vanon/vanon/lattice/Lattice", "height", "([I)I"⟩ : MethodName) (head1 (Jvm.Cond.code (⟨"com/example/vanon/vanon/lattice/Lattice", "height", "([I)I"⟩ : MethodName) prog_16_method_11_code 6 (some .int) :: ws) ({ frames := 0, cells := 0, slots := 0, locals := 0 } : Room)) (fun as' U => as' = #[(.ref a)] ∧ Z.Warmed39 U.vm ∧ U.heap = h0) (fun _ _ _ _ _ => True) (fun _ U o U' => ∃ v L, o = .returned v ∧ Qh5 Z a kk0 z0 z1 z2 z3 z4 h0 n0 v U'.heap L ∧ FrameEnd U o U' L ({ frames := 0, cells := 0, slots := 0, locals := 0 } : Room).cells ({ frames := 0, cells := 0, slots := 0, locals := 0 } : Room).slots) := by
  refine MetFree.of_bodySF (plainFor_of_name pn_h5) hisR ?_
  intro p e s m args below meth c s₁ Bd hml0 hP hK
  obtain ⟨rfl, hZ, hh⟩ := hP
  have hx := Bd.exec
  have hby := Bd.bytes
  have hml : c.maxLocals = 6 := hml0
  have hown : s.vm.findClass "com/example/vanon/vanon/lattice/Lattice" = some m.cls := findClass_of_methodNamed Bd.named
  have hnm := (name_of_methodNamed Bd.named Bd.method).1
  have X0 : Stand p l e ({ frames := 0, cells := 0, slots := 0, locals := 0 } : Room) s m #[(.ref a)] below meth c s₁ [] 0 0 := Stand.of_body Bd
  have e0 : s₁.heap = h0 := by rw [← hh, Bd.state]; rfl
  have N0 := Fr.nil n0
  refine own_via (fun t k => castTop (ef_h5 m a) k) ?_
  show own_G _ _ _ _ (s₁.setTop (mkF m 0 #[.val (.ref a), .unset, .unset, .unset, .unset, .unset] []))
  refine own_via (fun _ k => XS.iconst X0.here hx rfl (hb hby dh0_0) k) ?_
  show own_G _ _ _ _ (s₁.setTop (mkF m 1 #[.val (.ref a), .unset, .unset, .unset, .unset, .unset] [(.int (0 : Int32))]))
  refine own_via (fun _ k => XS.istoreN X0.here hx rfl (hb hby dh0_1) rfl (l' := #[.val (.ref a), .val (.int (0 : Int32)), .unset, .unset, .unset, .unset]) rfl k) ?_
  show own_G _ _ _ _ (s₁.setTop (mkF m 2 #[.val (.ref a), .val (.int (0 : Int32)), .unset, .unset, .unset, .unset] []))
  refine own_via (fun _ k => XS.aloadN X0.here hx rfl (hb hby dh0_2) rfl rfl k) ?_
  show own_G _ _ _ _ (s₁.setTop (mkF m 3 #[.val (.ref a), .val (.int (0 : Int32)), .unset, .unset, .unset, .unset] [(.ref a)]))
  refine own_via (fun _ k => XS.astoreN X0.here hx rfl (hb hby dh0_3) rfl rfl (l' := #[.val (.ref a), .val (.int (0 : Int32)), .val (.ref a), .unset, .unset, .unset]) rfl k) ?_
  show own_G _ _ _ _ (s₁.setTop (mkF m 4 #[.val (.ref a), .val (.int (0 : Int32)), .val (.ref a), .unset, .unset, .unset] []))
  refine own_via (fun _ k => XS.aloadN X0.here hx rfl (hb hby dh0_4) rfl rfl k) ?_
  show own_G _ _ _ _ (s₁.setTop (mkF m 5 #[.val (.ref a), .val (.int (0 : Int32)), .val (.ref a), .unset, .unset, .unset] [(.ref a)]))
  obtain ⟨cl16, Ar16, -, Sz16, Nn16, -, -⟩ := id V_a
  refine own_via (fun _ k => X0.arraylength hx (by rw [e0]; exact Ar16.1) (State.isArrayOf_alike hZ.alike Ar16.2.1) (g := (mkF m 5 #[.val (.ref a), .val (.int (0 : Int32)), .val (.ref a), .unset, .unset, .unset] [(.ref a)])) rfl rfl (hb hby dh0_5) _ k) ?_
  rw [len_of Sz16 Nn16]
  show own_G _ _ _ _ (s₁.setTop (mkF m 6 #[.val (.ref a), .val (.int (0 : Int32)), .val (.ref a), .unset, .unset, .unset] [(.int (5 : Int32))]))
  refine own_via (fun _ k => XS.istoreN X0.here hx rfl (hb hby dh0_6) rfl (l' := #[.val (.ref a), .val (.int (0 : Int32)), .val (.ref a), .val (.int (5 : Int32)), .unset, .unset]) rfl k) ?_
  show own_G _ _ _ _ (s₁.setTop (mkF m 7 #[.val (.ref a), .val (.int (0 : Int32)), .val (.ref a), .val (.int (5 : Int32)), .unset, .unset] []))
  refine own_via (fun _ k => XS.iconst X0.here hx rfl (hb hby dh0_7) k) ?_
  show own_G _ _ _ _ (s₁.setTop (mkF m 8 #[.val (.ref a), .val (.int (0 : Int32)), .val (.ref a), .val (.int (5 : Int32)), .unset, .unset] [(.int (0 : Int32))]))
  refine own_via (fun _ k => XS.istore X0.here hx rfl (hb hby dh0_8) rfl (l' := #[.val (.ref a), .val (.int (0 : Int32)), .val (.ref a), .val (.int (5 : Int32)), .val (.int (0 : Int32)), .unset]) rfl k) ?_
  show own_G _ _ _ _ (s₁.setTop (mkF m 10 #[.val (.ref a), .val (.int (0 : Int32)), .val (.ref a), .val (.int (5 : Int32)), .val (.int (0 : Int32)), .unset] []))
  refine own_via (fun _ k => XS.iload X0.here hx rfl (hb hby dh0_10) rfl k) ?_
  show own_G _ _ _ _ (s₁.setTop (mkF m 12 #[.val (.ref a), .val (.int (0 : Int32)), .val (.ref a), .val (.int (5 : Int32)), .val (.int (0 : Int32)), .unset] [(.int (0 : Int32))]))
  refine own_via (fun _ k => XS.iloadN X0.here hx rfl (hb hby dh0_12) rfl k) ?_
  show own_G _ _ _ _ (s₁.setTop (mkF m 13 #[.val (.ref a), .val (.int (0 : Int32)), .val (.ref a), .val (.int (5 : Int32)), .val (.int (0 : Int32)), .unset] [(.int (5 : Int32)), (.int (0 : Int32))]))
  refine own_via (fun _ k => XS.icmpNo X0.here hx rfl (hb hby dh0_13) rfl (tlt (by decide)).2.1 k) ?_
  show own_G _ _ _ _ (s₁.setTop (mkF m 16 #[.val (.ref a), .val (.int (0 : Int32)), .val (.ref a), .val (.int (5 : Int32)), .val (.int (0 : Int32)), .unset] []))
  refine own_via (fun _ k => XS.aloadN X0.here hx rfl (hb hby dh0_16) rfl rfl k) ?_
  show own_G _ _ _ _ (s₁.setTop (mkF m 17 #[.val (.ref a), .val (.int (0 : Int32)), .val (.ref a), .val (.int (5 : Int32)), .val (.int (0 : Int32)), .unset] [(.ref a)]))
  refine own_via (fun _ k => XS.iload X0.here hx rfl (hb hby dh0_17) rfl k) ?_
  show own_G _ _ _ _ (s₁.setTop (mkF m 19 #[.val (.ref a), .val (.int (0 : Int32)), .val (.ref a), .val (.int (5 : Int32)), .val (.int (0 : Int32)), .unset] [(.int (0 : Int32)), (.ref a)]))
  obtain ⟨cl17, Ar17, -, Sz17, Nn17, Hh17, -⟩ := id V_a
  have hin17 : ¬ ((0 : Int32) < 0 ∨ cl17.slots.size ≤ ((0 : Int32)).toNatClampNeg) := inb_of Sz17 ⟨by decide, by decide⟩
  have hat17 : cl17.slots[((0 : Int32)).toNatClampNeg]? = some (.int z0) := Has.at Hh17 hin17 rfl
  refine own_via (fun _ k => X0.iaload hx (j := (0 : Int32)) (v := (.int z0)) (by rw [e0]; exact Ar17.1) (State.isArrayOf_alike hZ.alike Ar17.2.1) Ar17.2.2 hin17 hat17 (g := (mkF m 19 #[.val (.ref a), .val (.int (0 : Int32)), .val (.ref a), .val (.int (5 : Int32)), .val (.int (0 : Int32)), .unset] [(.int (0 : Int32)), (.ref a)])) rfl rfl (hb hby dh0_19) _ k) ?_
  show own_G _ _ _ _ (s₁.setTop (mkF m 20 #[.val (.ref a), .val (.int (0 : Int32)), .val (.ref a), .val (.int (5 : Int32)), .val (.int (0 : Int32)), .unset] [(.int z0)]))
  refine own_via (fun _ k => XS.istore X0.here hx rfl (hb hby dh0_20) rfl (l' := #[.val (.ref a), .val (.int (0 : Int32)), .val (.ref a), .val (.int (5 : Int32)), .val (.int (0 : Int32)), .val (.int z0)]) rfl k) ?_
  show own_G _ _ _ _ (s₁.setTop (mkF m 22 #[.val (.ref a), .val (.int (0 : Int32)), .val (.ref a), .val (.int (5 : Int32)), .val (.int (0 : Int32)), .val (.int z0)] []))
  refine own_via (fun _ k => XS.iloadN X0.here hx rfl (hb hby dh0_22) rfl k) ?_
  show own_G _ _ _ _ (s₁.setTop (mkF m 23 #[.val (.ref a), .val (.int (0 : Int32)), .val (.ref a), .val (.int (5 : Int32)), .val (.int (0 : Int32)), .val (.int z0)] [(.int (0 : Int32))]))
  refine own_via (fun _ k => XS.iload X0.here hx rfl (hb hby dh0_23) rfl k) ?_
  show own_G _ _ _ _ (s₁.setTop (mkF m 25 #[.val (.ref a), .val (.int (0 : Int32)), .val (.ref a), .val (.int (5 : Int32)), .val (.int (0 : Int32)), .val (.int z0)] [(.int z0), (.int (0 : Int32))]))
  refine own_via (fun _ k => XS.iadd X0.here hx rfl (hb hby dh0_25) rfl k) ?_
  show own_G _ _ _ _ (s₁.setTop (mkF m 26 #[.val (.ref a), .val (.int (0 : Int32)), .val (.ref a), .val (.int (5 : Int32)), .val (.int (0 : Int32)), .val (.int z0)] [(.int ((0 : Int32) + z0))]))
  refine own_via (fun _ k => XS.istoreN X0.here hx rfl (hb hby dh0_26) rfl (l' := #[.val (.ref a), .val (.int ((0 : Int32) + z0)), .val (.ref a), .val (.int (5 : Int32)), .val (.int (0 : Int32)), .val (.int z0)]) rfl k) ?_
  show own_G _ _ _ _ (s₁.setTop (mkF m 27 #[.val (.ref a), .val (.int ((0 : Int32) + z0)), .val (.ref a), .val (.int (5 : Int32)), .val (.int (0 : Int32)), .val (.int z0)] []))
  refine own_via (fun _ k => XS.iinc X0.here hx rfl (hb hby dh0_27) rfl (l' := #[.val (.ref a), .val (.int ((0 : Int32) + z0)), .val (.ref a), .val (.int (5 : Int32)), .val (.int ((0 : Int32) + (1 : Int32))), .val (.int z0)]) rfl k) ?_
  show own_G _ _ _ _ (s₁.setTop (mkF m 30 #[.val (.ref a), .val (.int ((0 : Int32) + z0)), .val (.ref a), .val (.int (5 : Int32)), .val (.int ((0 : Int32) + (1 : Int32))), .val (.int z0)] []))
  refine own_via (fun _ k => XS.goto X0.here hx rfl (pc0 := 30) (pc' := 10) rfl (hb hby dh0_30) (by decide) (by decide) k) ?_
  show own_G _ _ _ _ (s₁.setTop (mkF m 10 #[.val (.ref a), .val (.int ((0 : Int32) + z0)), .val (.ref a), .val (.int (5 : Int32)), .val (.int ((0 : Int32) + (1 : Int32))), .val (.int z0)] []))
  refine own_via (fun _ k => XS.iload X0.here hx rfl (hb hby dh0_10) rfl k) ?_
  show own_G _ _ _ _ (s₁.setTop (mkF m 12 #[.val (.ref a), .val (.int ((0 : Int32) + z0)), .val (.ref a), .val (.int (5 : Int32)), .val (.int ((0 : Int32) + (1 : Int32))), .val (.int z0)] [(.int ((0 : Int32) + (1 : Int32)))]))
  refine own_via (fun _ k => XS.iloadN X0.here hx rfl (hb hby dh0_12) rfl k) ?_
  show own_G _ _ _ _ (s₁.setTop (mkF m 13 #[.val (.ref a), .val (.int ((0 : Int32) + z0)), .val (.ref a), .val (.int (5 : Int32)), .val (.int ((0 : Int32) + (1 : Int32))), .val (.int z0)] [(.int (5 : Int32)), (.int ((0 : Int32) + (1 : Int32)))]))
  refine own_via (fun _ k => XS.icmpNo X0.here hx rfl (hb hby dh0_13) rfl (tlt (by decide)).2.1 k) ?_
  show own_G _ _ _ _ (s₁.setTop (mkF m 16 #[.val (.ref a), .val (.int ((0 : Int32) + z0)), .val (.ref a), .val (.int (5 : Int32)), .val (.int ((0 : Int32) + (1 : Int32))), .val (.int z0)] []))
  refine own_via (fun _ k => XS.aloadN X0.here hx rfl (hb hby dh0_16) rfl rfl k) ?_
  show own_G _ _ _ _ (s₁.setTop (mkF m 17 #[.val (.ref a), .val (.int ((0 : Int32) + z0)), .val (.ref a), .val (.int (5 : Int32)), .val (.int ((0 : Int32) + (1 : Int32))), .val (.int z0)] [(.ref a)]))
  refine own_via (fun _ k => XS.iload X0.here hx rfl (hb hby dh0_17) rfl k) ?_
  show own_G _ _ _ _ (s₁.setTop (mkF m 19 #[.val (.ref a), .val (.int ((0 : Int32) + z0)), .val (.ref a), .val (.int (5 : Int32)), .val (.int ((0 : Int32) + (1 : Int32))), .val (.int z0)] [(.int ((0 : Int32) + (1 : Int32))), (.ref a)]))
  obtain ⟨cl18, Ar18, -, Sz18, Nn18, Hh18, -⟩ := id V_a
  have hin18 : ¬ (((0 : Int32) + (1 : Int32)) < 0 ∨ cl18.slots.size ≤ (((0 : Int32) + (1 : Int32))).toNatClampNeg) := inb_of Sz18 ⟨by decide, by decide⟩
  have hat18 : cl18.slots[(((0 : Int32) + (1 : Int32))).toNatClampNeg]? = some (.int z1) := Has.at Hh18 hin18 rfl
  refine own_via (fun _ k => X0.iaload hx (j := ((0 : Int32) + (1 : Int32))) (v := (.int z1)) (by rw [e0]; exact Ar18.1) (State.isArrayOf_alike hZ.alike Ar18.2.1) Ar18.2.2 hin18 hat18 (g := (mkF m 19 #[.val (.ref a), .val (.int ((0 : Int32) + z0)), .val (.ref a), .val (.int (5 : Int32)), .val (.int ((0 : Int32) + (1 : Int32))), .val (.int z0)] [(.int ((0 : Int32) + (1 : Int32))), (.ref a)])) rfl rfl (hb hby dh0_19) _ k) ?_
  show own_G _ _ _ _ (s₁.setTop (mkF m 20 #[.val (.ref a), .val (.int ((0 : Int32) + z0)), .val (.ref a), .val (.int (5 : Int32)), .val (.int ((0 : Int32) + (1 : Int32))), .val (.int z0)] [(.int z1)]))
  refine own_via (fun _ k => XS.istore X0.here hx rfl (hb hby dh0_20) rfl (l' := #[.val (.ref a), .val (.int ((0 : Int32) + z0)), .val (.ref a), .val (.int (5 : Int32)), .val (.int ((0 : Int32) + (1 : Int32))), .val (.int z1)]) rfl k) ?_
  show own_G _ _ _ _ (s₁.setTop (mkF m 22 #[.val (.ref a), .val (.int ((0 : Int32) + z0)), .val (.ref a), .val (.int (5 : Int32)), .val (.int ((0 : Int32) + (1 : Int32))), .val (.int z1)] []))
  refine own_via (fun _ k => XS.iloadN X0.here hx rfl (hb hby dh0_22) rfl k) ?_
  show own_G _ _ _ _ (s₁.setTop (mkF m 23 #[.val (.ref a), .val (.int ((0 : Int32) + z0)), .val (.ref a), .val (.int (5 : Int32)), .val (.int ((0 : Int32) + (1 : Int32))), .val (.int z1)] [(.int ((0 : Int32) + z0))]))
  refine own_via (fun _ k => XS.iload X0.here hx rfl (hb hby dh0_23) rfl k) ?_
  show own_G _ _ _ _ (s₁.setTop (mkF m 25 #[.val (.ref a), .val (.int ((0 : Int32) + z0)), .val (.ref a), .val (.int (5 : Int32)), .val (.int ((0 : Int32) + (1 : Int32))), .val (.int z1)] [(.int z1), (.int ((0 : Int32) + z0))]))
  refine own_via (fun _ k => XS.iadd X0.here hx rfl (hb hby dh0_25) rfl k) ?_
  show own_G _ _ _ _ (s₁.setTop (mkF m 26 #[.val (.ref a), .val (.int ((0 : Int32) + z0)), .val (.ref a), .val (.int (5 : Int32)), .val (.int ((0 : Int32) + (1 : Int32))), .val (.int z1)] [(.int (((0 : Int32) + z0) + z1))]))
  refine own_via (fun _ k => XS.istoreN X0.here hx rfl (hb hby dh0_26) rfl (l' := #[.val (.ref a), .val (.int (((0 : Int32) + z0) + z1)), .val (.ref a), .val (.int (5 : Int32)), .val (.int ((0 : Int32) + (1 : Int32))), .val (.int z1)]) rfl k) ?_
  show own_G _ _ _ _ (s₁.setTop (mkF m 27 #[.val (.ref a), .val (.int (((0 : Int32) + z0) + z1)), .val (.ref a), .val (.int (5 : Int32)), .val (.int ((0 : Int32) + (1 : Int32))), .val (.int z1)] []))
  refine own_via (fun _ k => XS.iinc X0.here hx rfl (hb hby dh0_27) rfl (l' := #[.val (.ref a), .val (.int (((0 : Int32) + z0) + z1)), .val (.ref a), .val (.int (5 : Int32)), .val (.int (((0 : Int32) + (1 : Int32)) + (1 : Int32))), .val (.int z1)]) rfl k) ?_
  show own_G _ _ _ _ (s₁.setTop (mkF m 30 #[.val (.ref a), .val (.int (((0 : Int32) + z0) + z1)), .val (.ref a), .val (.int (5 : Int32)), .val (.int (((0 : Int32) + (1 : Int32)) + (1 : Int32))), .val (.int z1)] []))
  refine own_via (fun _ k => XS.goto X0.here hx rfl (pc0 := 30) (pc' := 10) rfl (hb hby dh0_30) (by decide) (by decide) k) ?_
  show own_G _ _ _ _ (s₁.setTop (mkF m 10 #[.val (.ref a), .val (.int (((0 : Int32) + z0) + z1)), .val (.ref a), .val (.int (5 : Int32)), .val (.int (((0 : Int32) + (1 : Int32)) + (1 : Int32))), .val (.int z1)] []))
  refine own_via (fun _ k => XS.iload X0.here hx rfl (hb hby dh0_10) rfl k) ?_
  show own_G _ _ _ _ (s₁.setTop (mkF m 12 #[.val (.ref a), .val (.int (((0 : Int32) + z0) + z1)), .val (.ref a), .val (.int (5 : Int32)), .val (.int (((0 : Int32) + (1 : Int32)) + (1 : Int32))), .val (.int z1)] [(.int (((0 : Int32) + (1 : Int32)) + (1 : Int32)))]))
  refine own_via (fun _ k => XS.iloadN X0.here hx rfl (hb hby dh0_12) rfl k) ?_
  show own_G _ _ _ _ (s₁.setTop (mkF m 13 #[.val (.ref a), .val (.int (((0 : Int32) + z0) + z1)), .val (.ref a), .val (.int (5 : Int32)), .val (.int (((0 : Int32) + (1 : Int32)) + (1 : Int32))), .val (.int z1)] [(.int (5 : Int32)), (.int (((0 : Int32) + (1 : Int32)) + (1 : Int32)))]))
  refine own_via (fun _ k => XS.icmpNo X0.here hx rfl (hb hby dh0_13) rfl (tlt (by decide)).2.1 k) ?_
  show own_G _ _ _ _ (s₁.setTop (mkF m 16 #[.val (.ref a), .val (.int (((0 : Int32) + z0) + z1)), .val (.ref a), .val (.int (5 : Int32)), .val (.int (((0 : Int32) + (1 : Int32)) + (1 : Int32))), .val (.int z1)] []))
  refine own_via (fun _ k => XS.aloadN X0.here hx rfl (hb hby dh0_16) rfl rfl k) ?_
  show own_G _ _ _ _ (s₁.setTop (mkF m 17 #[.val (.ref a), .val (.int (((0 : Int32) + z0) + z1)), .val (.ref a), .val (.int (5 : Int32)), .val (.int (((0 : Int32) + (1 : Int32)) + (1 : Int32))), .val (.int z1)] [(.ref a)]))
  refine own_via (fun _ k => XS.iload X0.here hx rfl (hb hby dh0_17) rfl k) ?_
  show own_G _ _ _ _ (s₁.setTop (mkF m 19 #[.val (.ref a), .val (.int (((0 : Int32) + z0) + z1)), .val (.ref a), .val (.int (5 : Int32)), .val (.int (((0 : Int32) + (1 : Int32)) + (1 : Int32))), .val (.int z1)] [(.int (((0 : Int32) + (1 : Int32)) + (1 : Int32))), (.ref a)]))
  obtain ⟨cl19, Ar19, -, Sz19, Nn19, Hh19, -⟩ := id V_a
  have hin19 : ¬ ((((0 : Int32) + (1 : Int32)) + (1 : Int32)) < 0 ∨ cl19.slots.size ≤ ((((0 : Int32) + (1 : Int32)) + (1 : Int32))).toNatClampNeg) := inb_of Sz19 ⟨by decide, by decide⟩
  have hat19 : cl19.slots[((((0 : Int32) + (1 : Int32)) + (1 : Int32))).toNatClampNeg]? = some (.int z2) := Has.at Hh19 hin19 rfl
  refine own_via (fun _ k => X0.iaload hx (j := (((0 : Int32) + (1 : Int32)) + (1 : Int32))) (v := (.int z2)) (by rw [e0]; exact Ar19.1) (State.isArrayOf_alike hZ.alike Ar19.2.1) Ar19.2.2 hin19 hat19 (g := (mkF m 19 #[.val (.ref a), .val (.int (((0 : Int32) + z0) + z1)), .val (.ref a), .val (.int (5 : Int32)), .val (.int (((0 : Int32) + (1 : Int32)) + (1 : Int32))), .val (.int z1)] [(.int (((0 : Int32) + (1 : Int32)) + (1 : Int32))), (.ref a)])) rfl rfl (hb hby dh0_19) _ k) ?_
  show own_G _ _ _ _ (s₁.setTop (mkF m 20 #[.val (.ref a), .val (.int (((0 : Int32) + z0) + z1)), .val (.ref a), .val (.int (5 : Int32)), .val (.int (((0 : Int32) + (1 : Int32)) + (1 : Int32))), .val (.int z1)] [(.int z2)]))
  refine own_via (fun _ k => XS.istore X0.here hx rfl (hb hby dh0_20) rfl (l' := #[.val (.ref a), .val (.int (((0 : Int32) + z0) + z1)), .val (.ref a), .val (.int (5 : Int32)), .val (.int (((0 : Int32) + (1 : Int32)) + (1 : Int32))), .val (.int z2)]) rfl k) ?_
  show own_G _ _ _ _ (s₁.setTop (mkF m 22 #[.val (.ref a), .val (.int (((0 : Int32) + z0) + z1)), .val (.ref a), .val (.int (5 : Int32)), .val (.int (((0 : Int32) + (1 : Int32)) + (1 : Int32))), .val (.int z2)] []))
  refine own_via (fun _ k => XS.iloadN X0.here hx rfl (hb hby dh0_22) rfl k) ?_
  show own_G _ _ _ _ (s₁.setTop (mkF m 23 #[.val (.ref a), .val (.int (((0 : Int32) + z0) + z1)), .val (.ref a), .val (.int (5 : Int32)), .val (.int (((0 : Int32) + (1 : Int32)) + (1 : Int32))), .val (.int z2)] [(.int (((0 : Int32) + z0) + z1))]))
  refine own_via (fun _ k => XS.iload X0.here hx rfl (hb hby dh0_23) rfl k) ?_
  show own_G _ _ _ _ (s₁.setTop (mkF m 25 #[.val (.ref a), .val (.int (((0 : Int32) + z0) + z1)), .val (.ref a), .val (.int (5 : Int32)), .val (.int (((0 : Int32) + (1 : Int32)) + (1 : Int32))), .val (.int z2)] [(.int z2), (.int (((0 : Int32) + z0) + z1))]))
  refine own_via (fun _ k => XS.iadd X0.here hx rfl (hb hby dh0_25) rfl k) ?_
  show own_G _ _ _ _ (s₁.setTop (mkF m 26 #[.val (.ref a), .val (.int (((0 : Int32) + z0) + z1)), .val (.ref a), .val (.int (5 : Int32)), .val (.int (((0 : Int32) + (1 : Int32)) + (1 : Int32))), .val (.int z2)] [(.int ((((0 : Int32) + z0) + z1) + z2))]))
  refine own_via (fun _ k => XS.istoreN X0.here hx rfl (hb hby dh0_26) rfl (l' := #[.val (.ref a), .val (.int ((((0 : Int32) + z0) + z1) + z2)), .val (.ref a), .val (.int (5 : Int32)), .val (.int (((0 : Int32) + (1 : Int32)) + (1 : Int32))), .val (.int z2)]) rfl k) ?_
  show own_G _ _ _ _ (s₁.setTop (mkF m 27 #[.val (.ref a), .val (.int ((((0 : Int32) + z0) + z1) + z2)), .val (.ref a), .val (.int (5 : Int32)), .val (.int (((0 : Int32) + (1 : Int32)) + (1 : Int32))), .val (.int z2)] []))
  refine own_via (fun _ k => XS.iinc X0.here hx rfl (hb hby dh0_27) rfl (l' := #[.val (.ref a), .val (.int ((((0 : Int32) + z0) + z1) + z2)), .val (.ref a), .val (.int (5 : Int32)), .val (.int ((((0 : Int32) + (1 : Int32)) + (1 : Int32)) + (1 : Int32))), .val (.int z2)]) rfl k) ?_
  show own_G _ _ _ _ (s₁.setTop (mkF m 30 #[.val (.ref a), .val (.int ((((0 : Int32) + z0) + z1) + z2)), .val (.ref a), .val (.int (5 : Int32)), .val (.int ((((0 : Int32) + (1 : Int32)) + (1 : Int32)) + (1 : Int32))), .val (.int z2)] []))
  refine own_via (fun _ k => XS.goto X0.here hx rfl (pc0 := 30) (pc' := 10) rfl (hb hby dh0_30) (by decide) (by decide) k) ?_
  show own_G _ _ _ _ (s₁.setTop (mkF m 10 #[.val (.ref a), .val (.int ((((0 : Int32) + z0) + z1) + z2)), .val (.ref a), .val (.int (5 : Int32)), .val (.int ((((0 : Int32) + (1 : Int32)) + (1 : Int32)) + (1 : Int32))), .val (.int z2)] []))
  refine own_via (fun _ k => XS.iload X0.here hx rfl (hb hby dh0_10) rfl k) ?_
  show own_G _ _ _ _ (s₁.setTop (mkF m 12 #[.val (.ref a), .val (.int ((((0 : Int32) + z0) + z1) + z2)), .val (.ref a), .val (.int (5 : Int32)), .val (.int ((((0 : Int32) + (1 : Int32)) + (1 : Int32)) + (1 : Int32))), .val (.int z2)] [(.int ((((0 : Int32) + (1 : Int32)) + (1 : Int32)) + (1 : Int32)))]))
  refine own_via (fun _ k => XS.iloadN X0.here hx rfl (hb hby dh0_12) rfl k) ?_
  show own_G _ _ _ _ (s₁.setTop (mkF m 13 #[.val (.ref a), .val (.int ((((0 : Int32) + z0) + z1) + z2)), .val (.ref a), .val (.int (5 : Int32)), .val (.int ((((0 : Int32) + (1 : Int32)) + (1 : Int32)) + (1 : Int32))), .val (.int z2)] [(.int (5 : Int32)), (.int ((((0 : Int32) + (1 : Int32)) + (1 : Int32)) + (1 : Int32)))]))
  refine own_via (fun _ k => XS.icmpNo X0.here hx rfl (hb hby dh0_13) rfl (tlt (by decide)).2.1 k) ?_
  show own_G _ _ _ _ (s₁.setTop (mkF m 16 #[.val (.ref a), .val (.int ((((0 : Int32) + z0) + z1) + z2)), .val (.ref a), .val (.int (5 : Int32)), .val (.int ((((0 : Int32) + (1 : Int32)) + (1 : Int32)) + (1 : Int32))), .val (.int z2)] []))
  refine own_via (fun _ k => XS.aloadN X0.here hx rfl (hb hby dh0_16) rfl rfl k) ?_
  show own_G _ _ _ _ (s₁.setTop (mkF m 17 #[.val (.ref a), .val (.int ((((0 : Int32) + z0) + z1) + z2)), .val (.ref a), .val (.int (5 : Int32)), .val (.int ((((0 : Int32) + (1 : Int32)) + (1 : Int32)) + (1 : Int32))), .val (.int z2)] [(.ref a)]))
  refine own_via (fun _ k => XS.iload X0.here hx rfl (hb hby dh0_17) rfl k) ?_
  show own_G _ _ _ _ (s₁.setTop (mkF m 19 #[.val (.ref a), .val (.int ((((0 : Int32) + z0) + z1) + z2)), .val (.ref a), .val (.int (5 : Int32)), .val (.int ((((0 : Int32) + (1 : Int32)) + (1 : Int32)) + (1 : Int32))), .val (.int z2)] [(.int ((((0 : Int32) + (1 : Int32)) + (1 : Int32)) + (1 : Int32))), (.ref a)]))
  obtain ⟨cl20, Ar20, -, Sz20, Nn20, Hh20, -⟩ := id V_a
  have hin20 : ¬ (((((0 : Int32) + (1 : Int32)) + (1 : Int32)) + (1 : Int32)) < 0 ∨ cl20.slots.size ≤ (((((0 : Int32) + (1 : Int32)) + (1 : Int32)) + (1 : Int32))).toNatClampNeg) := inb_of Sz20 ⟨by decide, by decide⟩
  have hat20 : cl20.slots[(((((0 : Int32) + (1 : Int32)) + (1 : Int32)) + (1 : Int32))).toNatClampNeg]? = some (.int z3) := Has.at Hh20 hin20 rfl
  refine own_via (fun _ k => X0.iaload hx (j := ((((0 : Int32) + (1 : Int32)) + (1 : Int32)) + (1 : Int32))) (v := (.int z3)) (by rw [e0]; exact Ar20.1) (State.isArrayOf_alike hZ.alike Ar20.2.1) Ar20.2.2 hin20 hat20 (g := (mkF m 19 #[.val (.ref a), .val (.int ((((0 : Int32) + z0) + z1) + z2)), .val (.ref a), .val (.int (5 : Int32)), .val (.int ((((0 : Int32) + (1 : Int32)) + (1 : Int32)) + (1 : Int32))), .val (.int z2)] [(.int ((((0 : Int32) + (1 : Int32)) + (1 : Int32)) + (1 : Int32))), (.ref a)])) rfl rfl (hb hby dh0_19) _ k) ?_
  show own_G _ _ _ _ (s₁.setTop (mkF m 20 #[.val (.ref a), .val (.int ((((0 : Int32) + z0) + z1) + z2)), .val (.ref a), .val (.int (5 : Int32)), .val (.int ((((0 : Int32) + (1 : Int32)) + (1 : Int32)) + (1 : Int32))), .val (.int z2)] [(.int z3)]))
  refine own_via (fun _ k => XS.istore X0.here hx rfl (hb hby dh0_20) rfl (l' := #[.val (.ref a), .val (.int ((((0 : Int32) + z0) + z1) + z2)), .val (.ref a), .val (.int (5 : Int32)), .val (.int ((((0 : Int32) + (1 : Int32)) + (1 : Int32)) + (1 : Int32))), .val (.int z3)]) rfl k) ?_
  show own_G _ _ _ _ (s₁.setTop (mkF m 22 #[.val (.ref a), .val (.int ((((0 : Int32) + z0) + z1) + z2)), .val (.ref a), .val (.int (5 : Int32)), .val (.int ((((0 : Int32) + (1 : Int32)) + (1 : Int32)) + (1 : Int32))), .val (.int z3)] []))
  refine own_via (fun _ k => XS.iloadN X0.here hx rfl (hb hby dh0_22) rfl k) ?_
  show own_G _ _ _ _ (s₁.setTop (mkF m 23 #[.val (.ref a), .val (.int ((((0 : Int32) + z0) + z1) + z2)), .val (.ref a), .val (.int (5 : Int32)), .val (.int ((((0 : Int32) + (1 : Int32)) + (1 : Int32)) + (1 : Int32))), .val (.int z3)] [(.int ((((0 : Int32) + z0) + z1) + z2))]))
  refine own_via (fun _ k => XS.iload X0.here hx rfl (hb hby dh0_23) rfl k) ?_
  show own_G _ _ _ _ (s₁.setTop (mkF m 25 #[.val (.ref a), .val (.int ((((0 : Int32) + z0) + z1) + z2)), .val (.ref a), .val (.int (5 : Int32)), .val (.int ((((0 : Int32) + (1 : Int32)) + (1 : Int32)) + (1 : Int32))), .val (.int z3)] [(.int z3), (.int ((((0 : Int32) + z0) + z1) + z2))]))
  refine own_via (fun _ k => XS.iadd X0.here hx rfl (hb hby dh0_25) rfl k) ?_
  show own_G _ _ _ _ (s₁.setTop (mkF m 26 #[.val (.ref a), .val (.int ((((0 : Int32) + z0) + z1) + z2)), .val (.ref a), .val (.int (5 : Int32)), .val (.int ((((0 : Int32) + (1 : Int32)) + (1 : Int32)) + (1 : Int32))), .val (.int z3)] [(.int (((((0 : Int32) + z0) + z1) + z2) + z3))]))
  refine own_via (fun _ k => XS.istoreN X0.here hx rfl (hb hby dh0_26) rfl (l' := #[.val (.ref a), .val (.int (((((0 : Int32) + z0) + z1) + z2) + z3)), .val (.ref a), .val (.int (5 : Int32)), .val (.int ((((0 : Int32) + (1 : Int32)) + (1 : Int32)) + (1 : Int32))), .val (.int z3)]) rfl k) ?_
  show own_G _ _ _ _ (s₁.setTop (mkF m 27 #[.val (.ref a), .val (.int (((((0 : Int32) + z0) + z1) + z2) + z3)), .val (.ref a), .val (.int (5 : Int32)), .val (.int ((((0 : Int32) + (1 : Int32)) + (1 : Int32)) + (1 : Int32))), .val (.int z3)] []))
  refine own_via (fun _ k => XS.iinc X0.here hx rfl (hb hby dh0_27) rfl (l' := #[.val (.ref a), .val (.int (((((0 : Int32) + z0) + z1) + z2) + z3)), .val (.ref a), .val (.int (5 : Int32)), .val (.int (((((0 : Int32) + (1 : Int32)) + (1 : Int32)) + (1 : Int32)) + (1 : Int32))), .val (.int z3)]) rfl k) ?_
  show own_G _ _ _ _ (s₁.setTop (mkF m 30 #[.val (.ref a), .val (.int (((((0 : Int32) + z0) + z1) + z2) + z3)), .val (.ref a), .val (.int (5 : Int32)), .val (.int (((((0 : Int32) + (1 : Int32)) + (1 : Int32)) + (1 : Int32)) + (1 : Int32))), .val (.int z3)] []))
  refine own_via (fun _ k => XS.goto X0.here hx rfl (pc0 := 30) (pc' := 10) rfl (hb hby dh0_30) (by decide) (by decide) k) ?_
  show own_G _ _ _ _ (s₁.setTop (mkF m 10 #[.val (.ref a), .val (.int (((((0 : Int32) + z0) + z1) + z2) + z3)), .val (.ref a), .val (.int (5 : Int32)), .val (.int (((((0 : Int32) + (1 : Int32)) + (1 : Int32)) + (1 : Int32)) + (1 : Int32))), .val (.int z3)] []))
  refine own_via (fun _ k => XS.iload X0.here hx rfl (hb hby dh0_10) rfl k) ?_
  show own_G _ _ _ _ (s₁.setTop (mkF m 12 #[.val (.ref a), .val (.int (((((0 : Int32) + z0) + z1) + z2) + z3)), .val (.ref a), .val (.int (5 : Int32)), .val (.int (((((0 : Int32) + (1 : Int32)) + (1 : Int32)) + (1 : Int32)) + (1 : Int32))), .val (.int z3)] [(.int (((((0 : Int32) + (1 : Int32)) + (1 : Int32)) + (1 : Int32)) + (1 : Int32)))]))
  refine own_via (fun _ k => XS.iloadN X0.here hx rfl (hb hby dh0_12) rfl k) ?_
  show own_G _ _ _ _ (s₁.setTop (mkF m 13 #[.val (.ref a), .val (.int (((((0 : Int32) + z0) + z1) + z2) + z3)), .val (.ref a), .val (.int (5 : Int32)), .val (.int (((((0 : Int32) + (1 : Int32)) + (1 : Int32)) + (1 : Int32)) + (1 : Int32))), .val (.int z3)] [(.int (5 : Int32)), (.int (((((0 : Int32) + (1 : Int32)) + (1 : Int32)) + (1 : Int32)) + (1 : Int32)))]))
  refine own_via (fun _ k => XS.icmpNo X0.here hx rfl (hb hby dh0_13) rfl (tlt (by decide)).2.1 k) ?_
  show own_G _ _ _ _ (s₁.setTop (mkF m 16 #[.val (.ref a), .val (.int (((((0 : Int32) + z0) + z1) + z2) + z3)), .val (.ref a), .val (.int (5 : Int32)), .val (.int (((((0 : Int32) + (1 : Int32)) + (1 : Int32)) + (1 : Int32)) + (1 : Int32))), .val (.int z3)] []))
  refine own_via (fun _ k => XS.aloadN X0.here hx rfl (hb hby dh0_16) rfl rfl k) ?_
  show own_G _ _ _ _ (s₁.setTop (mkF m 17 #[.val (.ref a), .val (.int (((((0 : Int32) + z0) + z1) + z2) + z3)), .val (.ref a), .val (.int (5 : Int32)), .val (.int (((((0 : Int32) + (1 : Int32)) + (1 : Int32)) + (1 : Int32)) + (1 : Int32))), .val (.int z3)] [(.ref a)]))
  refine own_via (fun _ k => XS.iload X0.here hx rfl (hb hby dh0_17) rfl k) ?_
  show own_G _ _ _ _ (s₁.setTop (mkF m 19 #[.val (.ref a), .val (.int (((((0 : Int32) + z0) + z1) + z2) + z3)), .val (.ref a), .val (.int (5 : Int32)), .val (.int (((((0 : Int32) + (1 : Int32)) + (1 : Int32)) + (1 : Int32)) + (1 : Int32))), .val (.int z3)] [(.int (((((0 : Int32) + (1 : Int32)) + (1 : Int32)) + (1 : Int32)) + (1 : Int32))), (.ref a)]))
  obtain ⟨cl21, Ar21, -, Sz21, Nn21, Hh21, -⟩ := id V_a
  have hin21 : ¬ ((((((0 : Int32) + (1 : Int32)) + (1 : Int32)) + (1 : Int32)) + (1 : Int32)) < 0 ∨ cl21.slots.size ≤ ((((((0 : Int32) + (1 : Int32)) + (1 : Int32)) + (1 : Int32)) + (1 : Int32))).toNatClampNeg) := inb_of Sz21 ⟨by decide, by decide⟩
  have hat21 : cl21.slots[((((((0 : Int32) + (1 : Int32)) + (1 : Int32)) + (1 : Int32)) + (1 : Int32))).toNatClampNeg]? = some (.int z4) := Has.at Hh21 hin21 rfl
  refine own_via (fun _ k => X0.iaload hx (j := (((((0 : Int32) + (1 : Int32)) + (1 : Int32)) + (1 : Int32)) + (1 : Int32))) (v := (.int z4)) (by rw [e0]; exact Ar21.1) (State.isArrayOf_alike hZ.alike Ar21.2.1) Ar21.2.2 hin21 hat21 (g := (mkF m 19 #[.val (.ref a), .val (.int (((((0 : Int32) + z0) + z1) + z2) + z3)), .val (.ref a), .val (.int (5 : Int32)), .val (.int (((((0 : Int32) + (1 : Int32)) + (1 : Int32)) + (1 : Int32)) + (1 : Int32))), .val (.int z3)] [(.int (((((0 : Int32) + (1 : Int32)) + (1 : Int32)) + (1 : Int32)) + (1 : Int32))), (.ref a)])) rfl rfl (hb hby dh0_19) _ k) ?_
  show own_G _ _ _ _ (s₁.setTop (mkF m 20 #[.val (.ref a), .val (.int (((((0 : Int32) + z0) + z1) + z2) + z3)), .val (.ref a), .val (.int (5 : Int32)), .val (.int (((((0 : Int32) + (1 : Int32)) + (1 : Int32)) + (1 : Int32)) + (1 : Int32))), .val (.int z3)] [(.int z4)]))
  refine own_via (fun _ k => XS.istore X0.here hx rfl (hb hby dh0_20) rfl (l' := #[.val (.ref a), .val (.int (((((0 : Int32) + z0) + z1) + z2) + z3)), .val (.ref a), .val (.int (5 : Int32)), .val (.int (((((0 : Int32) + (1 : Int32)) + (1 : Int32)) + (1 : Int32)) + (1 : Int32))), .val (.int z4)]) rfl k) ?_
  show own_G _ _ _ _ (s₁.setTop (mkF m 22 #[.val (.ref a), .val (.int (((((0 : Int32) + z0) + z1) + z2) + z3)), .val (.ref a), .val (.int (5 : Int32)), .val (.int (((((0 : Int32) + (1 : Int32)) + (1 : Int32)) + (1 : Int32)) + (1 : Int32))), .val (.int z4)] []))
  refine own_via (fun _ k => XS.iloadN X0.here hx rfl (hb hby dh0_22) rfl k) ?_
  show own_G _ _ _ _ (s₁.setTop (mkF m 23 #[.val (.ref a), .val (.int (((((0 : Int32) + z0) + z1) + z2) + z3)), .val (.ref a), .val (.int (5 : Int32)), .val (.int (((((0 : Int32) + (1 : Int32)) + (1 : Int32)) + (1 : Int32)) + (1 : Int32))), .val (.int z4)] [(.int (((((0 : Int32) + z0) + z1) + z2) + z3))]))
  refine own_via (fun _ k => XS.iload X0.here hx rfl (hb hby dh0_23) rfl k) ?_
  show own_G _ _ _ _ (s₁.setTop (mkF m 25 #[.val (.ref a), .val (.int (((((0 : Int32) + z0) + z1) + z2) + z3)), .val (.ref a), .val (.int (5 : Int32)), .val (.int (((((0 : Int32) + (1 : Int32)) + (1 : Int32)) + (1 : Int32)) + (1 : Int32))), .val (.int z4)] [(.int z4), (.int (((((0 : Int32) + z0) + z1) + z2) + z3))]))
  refine own_via (fun _ k => XS.iadd X0.here hx rfl (hb hby dh0_25) rfl k) ?_
  show own_G _ _ _ _ (s₁.setTop (mkF m 26 #[.val (.ref a), .val (.int (((((0 : Int32) + z0) + z1) + z2) + z3)), .val (.ref a), .val (.int (5 : Int32)), .val (.int (((((0 : Int32) + (1 : Int32)) + (1 : Int32)) + (1 : Int32)) + (1 : Int32))), .val (.int z4)] [(.int ((((((0 : Int32) + z0) + z1) + z2) + z3) + z4))]))
  refine own_via (fun _ k => XS.istoreN X0.here hx rfl (hb hby dh0_26) rfl (l' := #[.val (.ref a), .val (.int ((((((0 : Int32) + z0) + z1) + z2) + z3) + z4)), .val (.ref a), .val (.int (5 : Int32)), .val (.int (((((0 : Int32) + (1 : Int32)) + (1 : Int32)) + (1 : Int32)) + (1 : Int32))), .val (.int z4)]) rfl k) ?_
  show own_G _ _ _ _ (s₁.setTop (mkF m 27 #[.val (.ref a), .val (.int ((((((0 : Int32) + z0) + z1) + z2) + z3) + z4)), .val (.ref a), .val (.int (5 : Int32)), .val (.int (((((0 : Int32) + (1 : Int32)) + (1 : Int32)) + (1 : Int32)) + (1 : Int32))), .val (.int z4)] []))
  refine own_via (fun _ k => XS.iinc X0.here hx rfl (hb hby dh0_27) rfl (l' := #[.val (.ref a), .val (.int ((((((0 : Int32) + z0) + z1) + z2) + z3) + z4)), .val (.ref a), .val (.int (5 : Int32)), .val (.int ((((((0 : Int32) + (1 : Int32)) + (1 : Int32)) + (1 : Int32)) + (1 : Int32)) + (1 : Int32))), .val (.int z4)]) rfl k) ?_
  show own_G _ _ _ _ (s₁.setTop (mkF m 30 #[.val (.ref a), .val (.int ((((((0 : Int32) + z0) + z1) + z2) + z3) + z4)), .val (.ref a), .val (.int (5 : Int32)), .val (.int ((((((0 : Int32) + (1 : Int32)) + (1 : Int32)) + (1 : Int32)) + (1 : Int32)) + (1 : Int32))), .val (.int z4)] []))
  refine own_via (fun _ k => XS.goto X0.here hx rfl (pc0 := 30) (pc' := 10) rfl (hb hby dh0_30) (by decide) (by decide) k) ?_
  show own_G _ _ _ _ (s₁.setTop (mkF m 10 #[.val (.ref a), .val (.int ((((((0 : Int32) + z0) + z1) + z2) + z3) + z4)), .val (.ref a), .val (.int (5 : Int32)), .val (.int ((((((0 : Int32) + (1 : Int32)) + (1 : Int32)) + (1 : Int32)) + (1 : Int32)) + (1 : Int32))), .val (.int z4)] []))
  refine own_via (fun _ k => XS.iload X0.here hx rfl (hb hby dh0_10) rfl k) ?_
  show own_G _ _ _ _ (s₁.setTop (mkF m 12 #[.val (.ref a), .val (.int ((((((0 : Int32) + z0) + z1) + z2) + z3) + z4)), .val (.ref a), .val (.int (5 : Int32)), .val (.int ((((((0 : Int32) + (1 : Int32)) + (1 : Int32)) + (1 : Int32)) + (1 : Int32)) + (1 : Int32))), .val (.int z4)] [(.int ((((((0 : Int32) + (1 : Int32)) + (1 : Int32)) + (1 : Int32)) + (1 : Int32)) + (1 : Int32)))]))
  refine own_via (fun _ k => XS.iloadN X0.here hx rfl (hb hby dh0_12) rfl k) ?_
  show own_G _ _ _ _ (s₁.setTop (mkF m 13 #[.val (.ref a), .val (.int ((((((0 : Int32) + z0) + z1) + z2) + z3) + z4)), .val (.ref a), .val (.int (5 : Int32)), .val (.int ((((((0 : Int32) + (1 : Int32)) + (1 : Int32)) + (1 : Int32)) + (1 : Int32)) + (1 : Int32))), .val (.int z4)] [(.int (5 : Int32)), (.int ((((((0 : Int32) + (1 : Int32)) + (1 : Int32)) + (1 : Int32)) + (1 : Int32)) + (1 : Int32)))]))
  refine own_via (fun _ k => XS.icmpYes X0.here hx rfl (pc0 := 13) (pc' := 33) rfl (hb hby dh0_13) rfl (flt (by decide)).2.1 (by decide) (by decide) k) ?_
  show own_G _ _ _ _ (s₁.setTop (mkF m 33 #[.val (.ref a), .val (.int ((((((0 : Int32) + z0) + z1) + z2) + z3) + z4)), .val (.ref a), .val (.int (5 : Int32)), .val (.int ((((((0 : Int32) + (1 : Int32)) + (1 : Int32)) + (1 : Int32)) + (1 : Int32)) + (1 : Int32))), .val (.int z4)] []))
  refine own_via (fun _ k => XS.iloadN X0.here hx rfl (hb hby dh0_33) rfl k) ?_
  show own_G _ _ _ _ (s₁.setTop (mkF m 34 #[.val (.ref a), .val (.int ((((((0 : Int32) + z0) + z1) + z2) + z3) + z4)), .val (.ref a), .val (.int (5 : Int32)), .val (.int ((((((0 : Int32) + (1 : Int32)) + (1 : Int32)) + (1 : Int32)) + (1 : Int32)) + (1 : Int32))), .val (.int z4)] [(.int ((((((0 : Int32) + z0) + z1) + z2) + z3) + z4))]))
  obtain ⟨fs, hr, hrun, hended, hW, hsame⟩ := X0.leave (v := some (.int ((((((0 : Int32) + z0) + z1) + z2) + z3) + z4))) (fun h => by rw [Bd.returns] at h; cases h)
  refine ⟨_, _, ?_, hrun, hended, _, _, rfl, ?_, ⟨_, rfl⟩, hW, hsame.mono (by decide) (by decide)⟩
  · exact retI X0 hx Bd.returns (hb hby dh0_34) hr
  · show Qh5 Z a kk0 z0 z1 z2 z3 z4 h0 n0 _ s₁.heap _
    rw [e0]
    exact ⟨rfl, N0, rfl⟩
theorem pn_0 : plainName "com/example/vanon/vanon/lattice/LatticeHeightPinLaw" = true := by first | (simp [plainName, overriddenIn]; done) | decide +kernel
theorem ef_0 (m : MethodId) (i0 : Int32) (i1 : Int32) (i2 : Int32) (i3 : Int32) (i4 : Int32) (i5 : Int32) : entryFrame m #[(.int i0), (.int i1), (.int i2), (.int i3), (.int i4), (.int i5)] maxLocals = (mkF m 0 #[.val (.int i0), .val (.int i1), .val (.int i2), .val (.int i3), .val (.int i4), .val (.int i5), .unset, .unset, .unset, .unset, .unset] []) := by first | (simp [entryFrame, mkF, argsToLocals, Value.category, maxLocals]; done) | rfl
set_option maxRecDepth 65536 in
set_option maxHeartbeats 40000000 in
theorem rm0 (l : Launch) (Z : State) (a0 : Array Value) (hw : ∀ d ∈ tables_1, d.before a0 Z = true) (ws : List Jvm.Cond) (i0 : Int32) (i1 : Int32) (i2 : Int32) (i3 : Int32) (i4 : Int32) (i5 : Int32) (h0 : Heap) (n0 : Nat) (Z0 : n0 ≤ h0.size) :
    MetFree l x (head1 (Jvm.Cond.code x code maxLocals ret :: ws) room_1) (fun as' U => as' = #[(.int i0), (.int i1), (.int i2), (.int i3), (.int i4), (.int i5)] ∧ Z.Warmed39 U.vm ∧ U.heap = h0) (fun _ _ _ _ _ => True) (fun _ U o U' => ∃ v L, o = .returned v ∧ (v = some (.int 1) ∧ Fr n0 L) ∧ FrameEnd U o U' L 1 5) := by
  refine MetFree.of_bodySF (plainFor_of_name pn_0) hisR ?_
  intro p e s m args below meth c s₁ Bd hml0 hP hK
  obtain ⟨rfl, hZ, hh⟩ := hP
  have hx := Bd.exec
  have hby := Bd.bytes
  have hml : c.maxLocals = 11 := hml0
  have hown : s.vm.findClass "com/example/vanon/vanon/lattice/LatticeHeightPinLaw" = some m.cls := findClass_of_methodNamed Bd.named
  have hnm := (name_of_methodNamed Bd.named Bd.method).1
  have X0 : Stand p l e room_1 s m #[(.int i0), (.int i1), (.int i2), (.int i3), (.int i4), (.int i5)] below meth c s₁ [] 0 0 := Stand.of_body Bd
  have e0 : s₁.heap = h0 := by rw [← hh, Bd.state]; rfl
  have N0 := Fr.nil n0
  refine own_via (fun t k => castTop (ef_0 m i0 i1 i2 i3 i4 i5) k) ?_
  show own_G _ _ _ _ (s₁.setTop (mkF m 0 #[.val (.int i0), .val (.int i1), .val (.int i2), .val (.int i3), .val (.int i4), .val (.int i5), .unset, .unset, .unset, .unset, .unset] []))
  refine own_via (fun _ k => XS.iloadN X0.here hx rfl (hb hby at_0) rfl k) ?_
  show own_G _ _ _ _ (s₁.setTop (mkF m 1 #[.val (.int i0), .val (.int i1), .val (.int i2), .val (.int i3), .val (.int i4), .val (.int i5), .unset, .unset, .unset, .unset, .unset] [(.int i0)]))
  refine own_via (fun _ k => X0.ldcInt hx hown (mvT hZ (hw _ (List.mem_of_getElem? (i := 0) rfl))) (g := (mkF m 1 #[.val (.int i0), .val (.int i1), .val (.int i2), .val (.int i3), .val (.int i4), .val (.int i5), .unset, .unset, .unset, .unset, .unset] [(.int i0)])) rfl (hb hby at_1) _ k) ?_
  show own_G _ _ _ _ (s₁.setTop (mkF m 3 #[.val (.int i0), .val (.int i1), .val (.int i2), .val (.int i3), .val (.int i4), .val (.int i5), .unset, .unset, .unset, .unset, .unset] [(.int (2147483647 : Int32)), (.int i0)]))
  refine own_via (fun _ k => XS.iand X0.here hx rfl (hb hby at_3) rfl k) ?_
  show own_G _ _ _ _ (s₁.setTop (mkF m 4 #[.val (.int i0), .val (.int i1), .val (.int i2), .val (.int i3), .val (.int i4), .val (.int i5), .unset, .unset, .unset, .unset, .unset] [(.int (i0 &&& (2147483647 : Int32)))]))
  refine own_via (fun _ k => XS.bipush X0.here hx rfl (hb hby at_4) k) ?_
  show own_G _ _ _ _ (s₁.setTop (mkF m 6 #[.val (.int i0), .val (.int i1), .val (.int i2), .val (.int i3), .val (.int i4), .val (.int i5), .unset, .unset, .unset, .unset, .unset] [(.int (6 : Int32)), (.int (i0 &&& (2147483647 : Int32)))]))
  refine own_via (fun _ k => iremM X0 hx rfl (hb hby at_6) rfl (by decide) k) ?_
  show own_G _ _ _ _ (s₁.setTop (mkF m 7 #[.val (.int i0), .val (.int i1), .val (.int i2), .val (.int i3), .val (.int i4), .val (.int i5), .unset, .unset, .unset, .unset, .unset] [(.int ((i0 &&& (2147483647 : Int32)) % (6 : Int32)))]))
  refine own_via (fun _ k => XS.istore X0.here hx rfl (hb hby at_7) rfl (l' := #[.val (.int i0), .val (.int i1), .val (.int i2), .val (.int i3), .val (.int i4), .val (.int i5), .val (.int ((i0 &&& (2147483647 : Int32)) % (6 : Int32))), .unset, .unset, .unset, .unset]) rfl k) ?_
  show own_G _ _ _ _ (s₁.setTop (mkF m 9 #[.val (.int i0), .val (.int i1), .val (.int i2), .val (.int i3), .val (.int i4), .val (.int i5), .val (.int ((i0 &&& (2147483647 : Int32)) % (6 : Int32))), .unset, .unset, .unset, .unset] []))
  have m1 : (i0 &&& (2147483647 : Int32)).toInt = i0.toInt % 2 ^ 31 := Jvm.Kit.i32_mask i0 2147483647 (by decide) (by decide)
  have s1 : ((i0 &&& (2147483647 : Int32)) % (6 : Int32)).toInt = (i0 &&& (2147483647 : Int32)).toInt % 6 := Jvm.Kit.i32_rem_nonneg (by omega)
  obtain ⟨nn, hnn⟩ : ∃ z, z = ((i0 &&& (2147483647 : Int32)) % (6 : Int32)) := ⟨_, rfl⟩
  rw [← hnn] at s1 ⊢
  show own_G _ _ _ _ (s₁.setTop (mkF m 9 #[.val (.int i0), .val (.int i1), .val (.int i2), .val (.int i3), .val (.int i4), .val (.int i5), .val (.int nn), .unset, .unset, .unset, .unset] []))
  have hn : nn = 0 ∨ nn = 1 ∨ nn = 2 ∨ nn = 3 ∨ nn = 4 ∨ nn = 5 := by
    simp only [← Int32.toInt_inj]
    have k0 : (0 : Int32).toInt = 0 := rfl
    have k1 : (1 : Int32).toInt = 1 := rfl
    have k2 : (2 : Int32).toInt = 2 := rfl
    have k3 : (3 : Int32).toInt = 3 := rfl
    have k4 : (4 : Int32).toInt = 4 := rfl
    have k5 : (5 : Int32).toInt = 5 := rfl
    omega
  clear s1 m1
  rcases hn with rfl | rfl | rfl | rfl | rfl | rfl
  · show own_G _ _ _ _ (s₁.setTop (mkF m 9 #[.val (.int i0), .val (.int i1), .val (.int i2), .val (.int i3), .val (.int i4), .val (.int i5), .val (.int (0 : Int32)), .unset, .unset, .unset, .unset] []))
    refine own_via (fun _ k => XS.iload X0.here hx rfl (hb hby at_9) rfl k) ?_
    show own_G _ _ _ _ (s₁.setTop (mkF m 11 #[.val (.int i0), .val (.int i1), .val (.int i2), .val (.int i3), .val (.int i4), .val (.int i5), .val (.int (0 : Int32)), .unset, .unset, .unset, .unset] [(.int (0 : Int32))]))
    obtain ⟨T22, h22, k_b, X22, e22, E22, A22, st22⟩ := newP X0 hx hZ (hw _ (List.mem_of_getElem? (i := 1) rfl)) e0 (g := (mkF m 11 #[.val (.int i0), .val (.int i1), .val (.int i2), .val (.int i3), .val (.int i4), .val (.int i5), .val (.int (0 : Int32)), .unset, .unset, .unset, .unset] [(.int (0 : Int32))])) rfl (hb hby at_11) rfl (by decide) (cap := 0) (by decide) (by decide) (by decide) (by decide)
    obtain ⟨b, g22⟩ : ∃ z, z = h0.size := ⟨_, rfl⟩
    rw [← g22] at A22 st22
    have g_b : n0 ≤ b := Nat.le_trans Z0 (Nat.le_of_eq g22.symm)
    have Z0 := Nat.le_trans Z0 E22.1
    have V_b : Arv Z h22 b k_b .int (0 : Int32) [] (.int (0 : Int32)) := (Arv.new A22 (by decide)).pad (pad_rep [] (.int (0 : Int32)) 0)
    refine own_via st22 ?_
    show own_G _ _ _ _ (T22.setTop (mkF m 13 #[.val (.int i0), .val (.int i1), .val (.int i2), .val (.int i3), .val (.int i4), .val (.int i5), .val (.int (0 : Int32)), .unset, .unset, .unset, .unset] [(.ref b)]))
    refine own_via (fun _ k => XS.astore X22.here hx rfl (hb hby at_13) rfl rfl (l' := #[.val (.int i0), .val (.int i1), .val (.int i2), .val (.int i3), .val (.int i4), .val (.int i5), .val (.int (0 : Int32)), .val (.ref b), .unset, .unset, .unset]) rfl k) ?_
    show own_G _ _ _ _ (T22.setTop (mkF m 15 #[.val (.int i0), .val (.int i1), .val (.int i2), .val (.int i3), .val (.int i4), .val (.int i5), .val (.int (0 : Int32)), .val (.ref b), .unset, .unset, .unset] []))
    refine own_via (fun _ k => XS.iload X22.here hx rfl (hb hby at_15) rfl k) ?_
    show own_G _ _ _ _ (T22.setTop (mkF m 17 #[.val (.int i0), .val (.int i1), .val (.int i2), .val (.int i3), .val (.int i4), .val (.int i5), .val (.int (0 : Int32)), .val (.ref b), .unset, .unset, .unset] [(.int (0 : Int32))]))
    refine own_via (fun _ k => XS.ifYes X22.here hx rfl (pc0 := 17) (pc' := 25) rfl (hb hby at_17) rfl ((if0 _ _).trans (flt (by decide)).2.2.2) (by decide) (by decide) k) ?_
    show own_G _ _ _ _ (T22.setTop (mkF m 25 #[.val (.int i0), .val (.int i1), .val (.int i2), .val (.int i3), .val (.int i4), .val (.int i5), .val (.int (0 : Int32)), .val (.ref b), .unset, .unset, .unset] []))
    refine own_via (fun _ k => XS.iload X22.here hx rfl (hb hby at_25) rfl k) ?_
    show own_G _ _ _ _ (T22.setTop (mkF m 27 #[.val (.int i0), .val (.int i1), .val (.int i2), .val (.int i3), .val (.int i4), .val (.int i5), .val (.int (0 : Int32)), .val (.ref b), .unset, .unset, .unset] [(.int (0 : Int32))]))
    refine own_via (fun _ k => XS.iconst X22.here hx rfl (hb hby at_27) k) ?_
    show own_G _ _ _ _ (T22.setTop (mkF m 28 #[.val (.int i0), .val (.int i1), .val (.int i2), .val (.int i3), .val (.int i4), .val (.int i5), .val (.int (0 : Int32)), .val (.ref b), .unset, .unset, .unset] [(.int (1 : Int32)), (.int (0 : Int32))]))
    refine own_via (fun _ k => XS.icmpYes X22.here hx rfl (pc0 := 28) (pc' := 36) rfl (hb hby at_28) rfl (flt (by decide)).2.2.2 (by decide) (by decide) k) ?_
    show own_G _ _ _ _ (T22.setTop (mkF m 36 #[.val (.int i0), .val (.int i1), .val (.int i2), .val (.int i3), .val (.int i4), .val (.int i5), .val (.int (0 : Int32)), .val (.ref b), .unset, .unset, .unset] []))
    refine own_via (fun _ k => XS.iload X22.here hx rfl (hb hby at_36) rfl k) ?_
    show own_G _ _ _ _ (T22.setTop (mkF m 38 #[.val (.int i0), .val (.int i1), .val (.int i2), .val (.int i3), .val (.int i4), .val (.int i5), .val (.int (0 : Int32)), .val (.ref b), .unset, .unset, .unset] [(.int (0 : Int32))]))
    refine own_via (fun _ k => XS.iconst X22.here hx rfl (hb hby at_38) k) ?_
    show own_G _ _ _ _ (T22.setTop (mkF m 39 #[.val (.int i0), .val (.int i1), .val (.int i2), .val (.int i3), .val (.int i4), .val (.int i5), .val (.int (0 : Int32)), .val (.ref b), .unset, .unset, .unset] [(.int (2 : Int32)), (.int (0 : Int32))]))
    refine own_via (fun _ k => XS.icmpYes X22.here hx rfl (pc0 := 39) (pc' := 47) rfl (hb hby at_39) rfl (flt (by decide)).2.2.2 (by decide) (by decide) k) ?_
    show own_G _ _ _ _ (T22.setTop (mkF m 47 #[.val (.int i0), .val (.int i1), .val (.int i2), .val (.int i3), .val (.int i4), .val (.int i5), .val (.int (0 : Int32)), .val (.ref b), .unset, .unset, .unset] []))
    refine own_via (fun _ k => XS.iload X22.here hx rfl (hb hby at_47) rfl k) ?_
    show own_G _ _ _ _ (T22.setTop (mkF m 49 #[.val (.int i0), .val (.int i1), .val (.int i2), .val (.int i3), .val (.int i4), .val (.int i5), .val (.int (0 : Int32)), .val (.ref b), .unset, .unset, .unset] [(.int (0 : Int32))]))
    refine own_via (fun _ k => XS.iconst X22.here hx rfl (hb hby at_49) k) ?_
    show own_G _ _ _ _ (T22.setTop (mkF m 50 #[.val (.int i0), .val (.int i1), .val (.int i2), .val (.int i3), .val (.int i4), .val (.int i5), .val (.int (0 : Int32)), .val (.ref b), .unset, .unset, .unset] [(.int (3 : Int32)), (.int (0 : Int32))]))
    refine own_via (fun _ k => XS.icmpYes X22.here hx rfl (pc0 := 50) (pc' := 59) rfl (hb hby at_50) rfl (flt (by decide)).2.2.2 (by decide) (by decide) k) ?_
    show own_G _ _ _ _ (T22.setTop (mkF m 59 #[.val (.int i0), .val (.int i1), .val (.int i2), .val (.int i3), .val (.int i4), .val (.int i5), .val (.int (0 : Int32)), .val (.ref b), .unset, .unset, .unset] []))
    refine own_via (fun _ k => XS.iload X22.here hx rfl (hb hby at_59) rfl k) ?_
    show own_G _ _ _ _ (T22.setTop (mkF m 61 #[.val (.int i0), .val (.int i1), .val (.int i2), .val (.int i3), .val (.int i4), .val (.int i5), .val (.int (0 : Int32)), .val (.ref b), .unset, .unset, .unset] [(.int (0 : Int32))]))
    refine own_via (fun _ k => XS.iconst X22.here hx rfl (hb hby at_61) k) ?_
    show own_G _ _ _ _ (T22.setTop (mkF m 62 #[.val (.int i0), .val (.int i1), .val (.int i2), .val (.int i3), .val (.int i4), .val (.int i5), .val (.int (0 : Int32)), .val (.ref b), .unset, .unset, .unset] [(.int (4 : Int32)), (.int (0 : Int32))]))
    refine own_via (fun _ k => XS.icmpYes X22.here hx rfl (pc0 := 62) (pc' := 71) rfl (hb hby at_62) rfl (flt (by decide)).2.2.2 (by decide) (by decide) k) ?_
    show own_G _ _ _ _ (T22.setTop (mkF m 71 #[.val (.int i0), .val (.int i1), .val (.int i2), .val (.int i3), .val (.int i4), .val (.int i5), .val (.int (0 : Int32)), .val (.ref b), .unset, .unset, .unset] []))
    refine own_via (fun _ k => XS.iload X22.here hx rfl (hb hby at_71) rfl k) ?_
    show own_G _ _ _ _ (T22.setTop (mkF m 73 #[.val (.int i0), .val (.int i1), .val (.int i2), .val (.int i3), .val (.int i4), .val (.int i5), .val (.int (0 : Int32)), .val (.ref b), .unset, .unset, .unset] [(.int (0 : Int32))]))
    refine own_via (fun _ k => XS.ifYes X22.here hx rfl (pc0 := 73) (pc' := 80) rfl (hb hby at_73) rfl ((if0 _ _).trans (flt (by decide)).2.2.2) (by decide) (by decide) k) ?_
    show own_G _ _ _ _ (T22.setTop (mkF m 80 #[.val (.int i0), .val (.int i1), .val (.int i2), .val (.int i3), .val (.int i4), .val (.int i5), .val (.int (0 : Int32)), .val (.ref b), .unset, .unset, .unset] []))
    refine own_via (fun _ k => XS.iconst X22.here hx rfl (hb hby at_80) k) ?_
    show own_G _ _ _ _ (T22.setTop (mkF m 81 #[.val (.int i0), .val (.int i1), .val (.int i2), .val (.int i3), .val (.int i4), .val (.int i5), .val (.int (0 : Int32)), .val (.ref b), .unset, .unset, .unset] [(.int (0 : Int32))]))
    refine own_via (fun _ k => XS.iload X22.here hx rfl (hb hby at_81) rfl k) ?_
    show own_G _ _ _ _ (T22.setTop (mkF m 83 #[.val (.int i0), .val (.int i1), .val (.int i2), .val (.int i3), .val (.int i4), .val (.int i5), .val (.int (0 : Int32)), .val (.ref b), .unset, .unset, .unset] [(.int (0 : Int32)), (.int (0 : Int32))]))
    refine own_via (fun _ k => XS.iconst X22.here hx rfl (hb hby at_83) k) ?_
    show own_G _ _ _ _ (T22.setTop (mkF m 84 #[.val (.int i0), .val (.int i1), .val (.int i2), .val (.int i3), .val (.int i4), .val (.int i5), .val (.int (0 : Int32)), .val (.ref b), .unset, .unset, .unset] [(.int (1 : Int32)), (.int (0 : Int32)), (.int (0 : Int32))]))
    refine own_via (fun _ k => XS.icmpYes X22.here hx rfl (pc0 := 84) (pc' := 91) rfl (hb hby at_84) rfl (flt (by decide)).2.2.2 (by decide) (by decide) k) ?_
    show own_G _ _ _ _ (T22.setTop (mkF m 91 #[.val (.int i0), .val (.int i1), .val (.int i2), .val (.int i3), .val (.int i4), .val (.int i5), .val (.int (0 : Int32)), .val (.ref b), .unset, .unset, .unset] [(.int (0 : Int32))]))
    refine own_via (fun _ k => XS.iconst X22.here hx rfl (hb hby at_91) k) ?_
    show own_G _ _ _ _ (T22.setTop (mkF m 92 #[.val (.int i0), .val (.int i1), .val (.int i2), .val (.int i3), .val (.int i4), .val (.int i5), .val (.int (0 : Int32)), .val (.ref b), .unset, .unset, .unset] [(.int (0 : Int32)), (.int (0 : Int32))]))
    refine own_via (fun _ k => XS.iadd X22.here hx rfl (hb hby at_92) rfl k) ?_
    show own_G _ _ _ _ (T22.setTop (mkF m 93 #[.val (.int i0), .val (.int i1), .val (.int i2), .val (.int i3), .val (.int i4), .val (.int i5), .val (.int (0 : Int32)), .val (.ref b), .unset, .unset, .unset] [(.int ((0 : Int32) + (0 : Int32)))]))
    refine own_via (fun _ k => XS.iload X22.here hx rfl (hb hby at_93) rfl k) ?_
    show own_G _ _ _ _ (T22.setTop (mkF m 95 #[.val (.int i0), .val (.int i1), .val (.int i2), .val (.int i3), .val (.int i4), .val (.int i5), .val (.int (0 : Int32)), .val (.ref b), .unset, .unset, .unset] [(.int (0 : Int32)), (.int ((0 : Int32) + (0 : Int32)))]))
    refine own_via (fun _ k => XS.iconst X22.here hx rfl (hb hby at_95) k) ?_
    show own_G _ _ _ _ (T22.setTop (mkF m 96 #[.val (.int i0), .val (.int i1), .val (.int i2), .val (.int i3), .val (.int i4), .val (.int i5), .val (.int (0 : Int32)), .val (.ref b), .unset, .unset, .unset] [(.int (2 : Int32)), (.int (0 : Int32)), (.int ((0 : Int32) + (0 : Int32)))]))
    refine own_via (fun _ k => XS.icmpYes X22.here hx rfl (pc0 := 96) (pc' := 103) rfl (hb hby at_96) rfl (flt (by decide)).2.2.2 (by decide) (by decide) k) ?_
    show own_G _ _ _ _ (T22.setTop (mkF m 103 #[.val (.int i0), .val (.int i1), .val (.int i2), .val (.int i3), .val (.int i4), .val (.int i5), .val (.int (0 : Int32)), .val (.ref b), .unset, .unset, .unset] [(.int ((0 : Int32) + (0 : Int32)))]))
    refine own_via (fun _ k => XS.iconst X22.here hx rfl (hb hby at_103) k) ?_
    show own_G _ _ _ _ (T22.setTop (mkF m 104 #[.val (.int i0), .val (.int i1), .val (.int i2), .val (.int i3), .val (.int i4), .val (.int i5), .val (.int (0 : Int32)), .val (.ref b), .unset, .unset, .unset] [(.int (0 : Int32)), (.int ((0 : Int32) + (0 : Int32)))]))
    refine own_via (fun _ k => XS.iadd X22.here hx rfl (hb hby at_104) rfl k) ?_
    show own_G _ _ _ _ (T22.setTop (mkF m 105 #[.val (.int i0), .val (.int i1), .val (.int i2), .val (.int i3), .val (.int i4), .val (.int i5), .val (.int (0 : Int32)), .val (.ref b), .unset, .unset, .unset] [(.int (((0 : Int32) + (0 : Int32)) + (0 : Int32)))]))
    refine own_via (fun _ k => XS.iload X22.here hx rfl (hb hby at_105) rfl k) ?_
    show own_G _ _ _ _ (T22.setTop (mkF m 107 #[.val (.int i0), .val (.int i1), .val (.int i2), .val (.int i3), .val (.int i4), .val (.int i5), .val (.int (0 : Int32)), .val (.ref b), .unset, .unset, .unset] [(.int (0 : Int32)), (.int (((0 : Int32) + (0 : Int32)) + (0 : Int32)))]))
    refine own_via (fun _ k => XS.iconst X22.here hx rfl (hb hby at_107) k) ?_
    show own_G _ _ _ _ (T22.setTop (mkF m 108 #[.val (.int i0), .val (.int i1), .val (.int i2), .val (.int i3), .val (.int i4), .val (.int i5), .val (.int (0 : Int32)), .val (.ref b), .unset, .unset, .unset] [(.int (3 : Int32)), (.int (0 : Int32)), (.int (((0 : Int32) + (0 : Int32)) + (0 : Int32)))]))
    refine own_via (fun _ k => XS.icmpYes X22.here hx rfl (pc0 := 108) (pc' := 116) rfl (hb hby at_108) rfl (flt (by decide)).2.2.2 (by decide) (by decide) k) ?_
    show own_G _ _ _ _ (T22.setTop (mkF m 116 #[.val (.int i0), .val (.int i1), .val (.int i2), .val (.int i3), .val (.int i4), .val (.int i5), .val (.int (0 : Int32)), .val (.ref b), .unset, .unset, .unset] [(.int (((0 : Int32) + (0 : Int32)) + (0 : Int32)))]))
    refine own_via (fun _ k => XS.iconst X22.here hx rfl (hb hby at_116) k) ?_
    show own_G _ _ _ _ (T22.setTop (mkF m 117 #[.val (.int i0), .val (.int i1), .val (.int i2), .val (.int i3), .val (.int i4), .val (.int i5), .val (.int (0 : Int32)), .val (.ref b), .unset, .unset, .unset] [(.int (0 : Int32)), (.int (((0 : Int32) + (0 : Int32)) + (0 : Int32)))]))
    refine own_via (fun _ k => XS.iadd X22.here hx rfl (hb hby at_117) rfl k) ?_
    show own_G _ _ _ _ (T22.setTop (mkF m 118 #[.val (.int i0), .val (.int i1), .val (.int i2), .val (.int i3), .val (.int i4), .val (.int i5), .val (.int (0 : Int32)), .val (.ref b), .unset, .unset, .unset] [(.int ((((0 : Int32) + (0 : Int32)) + (0 : Int32)) + (0 : Int32)))]))
    refine own_via (fun _ k => XS.iload X22.here hx rfl (hb hby at_118) rfl k) ?_
    show own_G _ _ _ _ (T22.setTop (mkF m 120 #[.val (.int i0), .val (.int i1), .val (.int i2), .val (.int i3), .val (.int i4), .val (.int i5), .val (.int (0 : Int32)), .val (.ref b), .unset, .unset, .unset] [(.int (0 : Int32)), (.int ((((0 : Int32) + (0 : Int32)) + (0 : Int32)) + (0 : Int32)))]))
    refine own_via (fun _ k => XS.iconst X22.here hx rfl (hb hby at_120) k) ?_
    show own_G _ _ _ _ (T22.setTop (mkF m 121 #[.val (.int i0), .val (.int i1), .val (.int i2), .val (.int i3), .val (.int i4), .val (.int i5), .val (.int (0 : Int32)), .val (.ref b), .unset, .unset, .unset] [(.int (4 : Int32)), (.int (0 : Int32)), (.int ((((0 : Int32) + (0 : Int32)) + (0 : Int32)) + (0 : Int32)))]))
    refine own_via (fun _ k => XS.icmpYes X22.here hx rfl (pc0 := 121) (pc' := 129) rfl (hb hby at_121) rfl (flt (by decide)).2.2.2 (by decide) (by decide) k) ?_
    show own_G _ _ _ _ (T22.setTop (mkF m 129 #[.val (.int i0), .val (.int i1), .val (.int i2), .val (.int i3), .val (.int i4), .val (.int i5), .val (.int (0 : Int32)), .val (.ref b), .unset, .unset, .unset] [(.int ((((0 : Int32) + (0 : Int32)) + (0 : Int32)) + (0 : Int32)))]))
    refine own_via (fun _ k => XS.iconst X22.here hx rfl (hb hby at_129) k) ?_
    show own_G _ _ _ _ (T22.setTop (mkF m 130 #[.val (.int i0), .val (.int i1), .val (.int i2), .val (.int i3), .val (.int i4), .val (.int i5), .val (.int (0 : Int32)), .val (.ref b), .unset, .unset, .unset] [(.int (0 : Int32)), (.int ((((0 : Int32) + (0 : Int32)) + (0 : Int32)) + (0 : Int32)))]))
    refine own_via (fun _ k => XS.iadd X22.here hx rfl (hb hby at_130) rfl k) ?_
    show own_G _ _ _ _ (T22.setTop (mkF m 131 #[.val (.int i0), .val (.int i1), .val (.int i2), .val (.int i3), .val (.int i4), .val (.int i5), .val (.int (0 : Int32)), .val (.ref b), .unset, .unset, .unset] [(.int (((((0 : Int32) + (0 : Int32)) + (0 : Int32)) + (0 : Int32)) + (0 : Int32)))]))
    refine own_via (fun _ k => XS.istore X22.here hx rfl (hb hby at_131) rfl (l' := #[.val (.int i0), .val (.int i1), .val (.int i2), .val (.int i3), .val (.int i4), .val (.int i5), .val (.int (0 : Int32)), .val (.ref b), .val (.int (((((0 : Int32) + (0 : Int32)) + (0 : Int32)) + (0 : Int32)) + (0 : Int32))), .unset, .unset]) rfl k) ?_
    show own_G _ _ _ _ (T22.setTop (mkF m 133 #[.val (.int i0), .val (.int i1), .val (.int i2), .val (.int i3), .val (.int i4), .val (.int i5), .val (.int (0 : Int32)), .val (.ref b), .val (.int (((((0 : Int32) + (0 : Int32)) + (0 : Int32)) + (0 : Int32)) + (0 : Int32))), .unset, .unset] []))
    refine own_via (fun _ k => XS.aload X22.here hx rfl (hb hby at_133) rfl rfl k) ?_
    show own_G _ _ _ _ (T22.setTop (mkF m 135 #[.val (.int i0), .val (.int i1), .val (.int i2), .val (.int i3), .val (.int i4), .val (.int i5), .val (.int (0 : Int32)), .val (.ref b), .val (.int (((((0 : Int32) + (0 : Int32)) + (0 : Int32)) + (0 : Int32)) + (0 : Int32))), .unset, .unset] [(.ref b)]))
    obtain ⟨_, _, ⟨T23, L23, k23, n23⟩, -, X23, ⟨Lc23, hQ23, l23, y23, z23⟩, st23⟩ := Jvm.LawKit.callS X22 hx (y := (⟨"com/example/vanon/vanon/lattice/Lattice", "height", "([I)I"⟩ : MethodName)) hown (mvT hZ (hw _ (List.mem_of_getElem? (i := 2) rfl))) (mvT hZ (hw _ (List.mem_of_getElem? (i := 3) rfl))) (mvT hZ (hw _ (List.mem_of_getElem? (i := 4) rfl))) (mvT hZ (hw _ (List.mem_of_getElem? (i := 5) rfl))) (by decide) (backOf (W := 0) (rmh0 l Z a0 hw [] b k_b  h22 n0 Z0 V_b) hZ (hw _ (List.mem_of_getElem? (i := 5) rfl)) (hw _ (List.mem_of_getElem? (i := 4) rfl)) (by decide) (by decide)) (g := (mkF m 135 #[.val (.int i0), .val (.int i1), .val (.int i2), .val (.int i3), .val (.int i4), .val (.int i5), .val (.int (0 : Int32)), .val (.ref b), .val (.int (((((0 : Int32) + (0 : Int32)) + (0 : Int32)) + (0 : Int32)) + (0 : Int32))), .unset, .unset] [(.ref b)])) rfl (by rw [hml]; rfl) (argsL := [(.ref b)]) (rest := []) (lenOf pd_0 rfl) rfl (by show 2 * 0 + _ ≤ _; exact Nat.le_of_eq rfl) (hb hby at_135) (fun _ _ => ⟨rfl, e22, Nat.le_of_ble_eq_true rfl, Nat.le_of_ble_eq_true rfl⟩)
    dsimp only [Pt.U, Pt.locs, Pt.cells, Pt.slots] at X23 l23 y23 z23 st23 hQ23
    subst l23 y23 z23
    obtain ⟨rfl, N23q, e23⟩ := hQ23
    have N23 := Fr.app N0 N23q
    refine own_via st23 ?_
    show own_G _ _ _ _ (T23.setTop (mkF m 138 #[.val (.int i0), .val (.int i1), .val (.int i2), .val (.int i3), .val (.int i4), .val (.int i5), .val (.int (0 : Int32)), .val (.ref b), .val (.int (((((0 : Int32) + (0 : Int32)) + (0 : Int32)) + (0 : Int32)) + (0 : Int32))), .unset, .unset] [(.int (0 : Int32))]))
    refine own_via (fun _ k => XS.istore X23.here hx rfl (hb hby at_138) rfl (l' := #[.val (.int i0), .val (.int i1), .val (.int i2), .val (.int i3), .val (.int i4), .val (.int i5), .val (.int (0 : Int32)), .val (.ref b), .val (.int (((((0 : Int32) + (0 : Int32)) + (0 : Int32)) + (0 : Int32)) + (0 : Int32))), .val (.int (0 : Int32)), .unset]) rfl k) ?_
    show own_G _ _ _ _ (T23.setTop (mkF m 140 #[.val (.int i0), .val (.int i1), .val (.int i2), .val (.int i3), .val (.int i4), .val (.int i5), .val (.int (0 : Int32)), .val (.ref b), .val (.int (((((0 : Int32) + (0 : Int32)) + (0 : Int32)) + (0 : Int32)) + (0 : Int32))), .val (.int (0 : Int32)), .unset] []))
    refine own_via (fun _ k => XS.aload X23.here hx rfl (hb hby at_140) rfl rfl k) ?_
    show own_G _ _ _ _ (T23.setTop (mkF m 142 #[.val (.int i0), .val (.int i1), .val (.int i2), .val (.int i3), .val (.int i4), .val (.int i5), .val (.int (0 : Int32)), .val (.ref b), .val (.int (((((0 : Int32) + (0 : Int32)) + (0 : Int32)) + (0 : Int32)) + (0 : Int32))), .val (.int (0 : Int32)), .unset] [(.ref b)]))
    obtain ⟨cl24, Ar24, -, Sz24, Nn24, -, -⟩ := id V_b
    refine own_via (fun _ k => X23.arraylength hx (by rw [e23]; exact Ar24.1) (State.isArrayOf_alike hZ.alike Ar24.2.1) (g := (mkF m 142 #[.val (.int i0), .val (.int i1), .val (.int i2), .val (.int i3), .val (.int i4), .val (.int i5), .val (.int (0 : Int32)), .val (.ref b), .val (.int (((((0 : Int32) + (0 : Int32)) + (0 : Int32)) + (0 : Int32)) + (0 : Int32))), .val (.int (0 : Int32)), .unset] [(.ref b)])) rfl rfl (hb hby at_142) _ k) ?_
    rw [len_of Sz24 Nn24]
    show own_G _ _ _ _ (T23.setTop (mkF m 143 #[.val (.int i0), .val (.int i1), .val (.int i2), .val (.int i3), .val (.int i4), .val (.int i5), .val (.int (0 : Int32)), .val (.ref b), .val (.int (((((0 : Int32) + (0 : Int32)) + (0 : Int32)) + (0 : Int32)) + (0 : Int32))), .val (.int (0 : Int32)), .unset] [(.int (0 : Int32))]))
    refine own_via (fun _ k => XS.iload X23.here hx rfl (hb hby at_143) rfl k) ?_
    show own_G _ _ _ _ (T23.setTop (mkF m 145 #[.val (.int i0), .val (.int i1), .val (.int i2), .val (.int i3), .val (.int i4), .val (.int i5), .val (.int (0 : Int32)), .val (.ref b), .val (.int (((((0 : Int32) + (0 : Int32)) + (0 : Int32)) + (0 : Int32)) + (0 : Int32))), .val (.int (0 : Int32)), .unset] [(.int (0 : Int32)), (.int (0 : Int32))]))
    refine own_via (fun _ k => XS.icmpNo X23.here hx rfl (hb hby at_145) rfl (teq (by decide)).2 k) ?_
    show own_G _ _ _ _ (T23.setTop (mkF m 148 #[.val (.int i0), .val (.int i1), .val (.int i2), .val (.int i3), .val (.int i4), .val (.int i5), .val (.int (0 : Int32)), .val (.ref b), .val (.int (((((0 : Int32) + (0 : Int32)) + (0 : Int32)) + (0 : Int32)) + (0 : Int32))), .val (.int (0 : Int32)), .unset] []))
    refine own_via (fun _ k => XS.iload X23.here hx rfl (hb hby at_148) rfl k) ?_
    show own_G _ _ _ _ (T23.setTop (mkF m 150 #[.val (.int i0), .val (.int i1), .val (.int i2), .val (.int i3), .val (.int i4), .val (.int i5), .val (.int (0 : Int32)), .val (.ref b), .val (.int (((((0 : Int32) + (0 : Int32)) + (0 : Int32)) + (0 : Int32)) + (0 : Int32))), .val (.int (0 : Int32)), .unset] [(.int (0 : Int32))]))
    refine own_via (fun _ k => XS.ifYes X23.here hx rfl (pc0 := 150) (pc' := 161) rfl (hb hby at_150) rfl ((if0 _ _).trans (flt (by decide)).2.2.2) (by decide) (by decide) k) ?_
    show own_G _ _ _ _ (T23.setTop (mkF m 161 #[.val (.int i0), .val (.int i1), .val (.int i2), .val (.int i3), .val (.int i4), .val (.int i5), .val (.int (0 : Int32)), .val (.ref b), .val (.int (((((0 : Int32) + (0 : Int32)) + (0 : Int32)) + (0 : Int32)) + (0 : Int32))), .val (.int (0 : Int32)), .unset] []))
    refine own_via (fun _ k => XS.iload X23.here hx rfl (hb hby at_161) rfl k) ?_
    show own_G _ _ _ _ (T23.setTop (mkF m 163 #[.val (.int i0), .val (.int i1), .val (.int i2), .val (.int i3), .val (.int i4), .val (.int i5), .val (.int (0 : Int32)), .val (.ref b), .val (.int (((((0 : Int32) + (0 : Int32)) + (0 : Int32)) + (0 : Int32)) + (0 : Int32))), .val (.int (0 : Int32)), .unset] [(.int (0 : Int32))]))
    refine own_via (fun _ k => XS.iconst X23.here hx rfl (hb hby at_163) k) ?_
    show own_G _ _ _ _ (T23.setTop (mkF m 164 #[.val (.int i0), .val (.int i1), .val (.int i2), .val (.int i3), .val (.int i4), .val (.int i5), .val (.int (0 : Int32)), .val (.ref b), .val (.int (((((0 : Int32) + (0 : Int32)) + (0 : Int32)) + (0 : Int32)) + (0 : Int32))), .val (.int (0 : Int32)), .unset] [(.int (1 : Int32)), (.int (0 : Int32))]))
    refine own_via (fun _ k => XS.icmpYes X23.here hx rfl (pc0 := 164) (pc' := 175) rfl (hb hby at_164) rfl (flt (by decide)).2.2.2 (by decide) (by decide) k) ?_
    show own_G _ _ _ _ (T23.setTop (mkF m 175 #[.val (.int i0), .val (.int i1), .val (.int i2), .val (.int i3), .val (.int i4), .val (.int i5), .val (.int (0 : Int32)), .val (.ref b), .val (.int (((((0 : Int32) + (0 : Int32)) + (0 : Int32)) + (0 : Int32)) + (0 : Int32))), .val (.int (0 : Int32)), .unset] []))
    refine own_via (fun _ k => XS.iload X23.here hx rfl (hb hby at_175) rfl k) ?_
    show own_G _ _ _ _ (T23.setTop (mkF m 177 #[.val (.int i0), .val (.int i1), .val (.int i2), .val (.int i3), .val (.int i4), .val (.int i5), .val (.int (0 : Int32)), .val (.ref b), .val (.int (((((0 : Int32) + (0 : Int32)) + (0 : Int32)) + (0 : Int32)) + (0 : Int32))), .val (.int (0 : Int32)), .unset] [(.int (0 : Int32))]))
    refine own_via (fun _ k => XS.iconst X23.here hx rfl (hb hby at_177) k) ?_
    show own_G _ _ _ _ (T23.setTop (mkF m 178 #[.val (.int i0), .val (.int i1), .val (.int i2), .val (.int i3), .val (.int i4), .val (.int i5), .val (.int (0 : Int32)), .val (.ref b), .val (.int (((((0 : Int32) + (0 : Int32)) + (0 : Int32)) + (0 : Int32)) + (0 : Int32))), .val (.int (0 : Int32)), .unset] [(.int (2 : Int32)), (.int (0 : Int32))]))
    refine own_via (fun _ k => XS.icmpYes X23.here hx rfl (pc0 := 178) (pc' := 189) rfl (hb hby at_178) rfl (flt (by decide)).2.2.2 (by decide) (by decide) k) ?_
    show own_G _ _ _ _ (T23.setTop (mkF m 189 #[.val (.int i0), .val (.int i1), .val (.int i2), .val (.int i3), .val (.int i4), .val (.int i5), .val (.int (0 : Int32)), .val (.ref b), .val (.int (((((0 : Int32) + (0 : Int32)) + (0 : Int32)) + (0 : Int32)) + (0 : Int32))), .val (.int (0 : Int32)), .unset] []))
    refine own_via (fun _ k => XS.iload X23.here hx rfl (hb hby at_189) rfl k) ?_
    show own_G _ _ _ _ (T23.setTop (mkF m 191 #[.val (.int i0), .val (.int i1), .val (.int i2), .val (.int i3), .val (.int i4), .val (.int i5), .val (.int (0 : Int32)), .val (.ref b), .val (.int (((((0 : Int32) + (0 : Int32)) + (0 : Int32)) + (0 : Int32)) + (0 : Int32))), .val (.int (0 : Int32)), .unset] [(.int (0 : Int32))]))
    refine own_via (fun _ k => XS.iconst X23.here hx rfl (hb hby at_191) k) ?_
    show own_G _ _ _ _ (T23.setTop (mkF m 192 #[.val (.int i0), .val (.int i1), .val (.int i2), .val (.int i3), .val (.int i4), .val (.int i5), .val (.int (0 : Int32)), .val (.ref b), .val (.int (((((0 : Int32) + (0 : Int32)) + (0 : Int32)) + (0 : Int32)) + (0 : Int32))), .val (.int (0 : Int32)), .unset] [(.int (3 : Int32)), (.int (0 : Int32))]))
    refine own_via (fun _ k => XS.icmpYes X23.here hx rfl (pc0 := 192) (pc' := 204) rfl (hb hby at_192) rfl (flt (by decide)).2.2.2 (by decide) (by decide) k) ?_
    show own_G _ _ _ _ (T23.setTop (mkF m 204 #[.val (.int i0), .val (.int i1), .val (.int i2), .val (.int i3), .val (.int i4), .val (.int i5), .val (.int (0 : Int32)), .val (.ref b), .val (.int (((((0 : Int32) + (0 : Int32)) + (0 : Int32)) + (0 : Int32)) + (0 : Int32))), .val (.int (0 : Int32)), .unset] []))
    refine own_via (fun _ k => XS.iload X23.here hx rfl (hb hby at_204) rfl k) ?_
    show own_G _ _ _ _ (T23.setTop (mkF m 206 #[.val (.int i0), .val (.int i1), .val (.int i2), .val (.int i3), .val (.int i4), .val (.int i5), .val (.int (0 : Int32)), .val (.ref b), .val (.int (((((0 : Int32) + (0 : Int32)) + (0 : Int32)) + (0 : Int32)) + (0 : Int32))), .val (.int (0 : Int32)), .unset] [(.int (0 : Int32))]))
    refine own_via (fun _ k => XS.iconst X23.here hx rfl (hb hby at_206) k) ?_
    show own_G _ _ _ _ (T23.setTop (mkF m 207 #[.val (.int i0), .val (.int i1), .val (.int i2), .val (.int i3), .val (.int i4), .val (.int i5), .val (.int (0 : Int32)), .val (.ref b), .val (.int (((((0 : Int32) + (0 : Int32)) + (0 : Int32)) + (0 : Int32)) + (0 : Int32))), .val (.int (0 : Int32)), .unset] [(.int (4 : Int32)), (.int (0 : Int32))]))
    refine own_via (fun _ k => XS.icmpYes X23.here hx rfl (pc0 := 207) (pc' := 219) rfl (hb hby at_207) rfl (flt (by decide)).2.2.2 (by decide) (by decide) k) ?_
    show own_G _ _ _ _ (T23.setTop (mkF m 219 #[.val (.int i0), .val (.int i1), .val (.int i2), .val (.int i3), .val (.int i4), .val (.int i5), .val (.int (0 : Int32)), .val (.ref b), .val (.int (((((0 : Int32) + (0 : Int32)) + (0 : Int32)) + (0 : Int32)) + (0 : Int32))), .val (.int (0 : Int32)), .unset] []))
    refine own_via (fun _ k => XS.iconst X23.here hx rfl (hb hby at_219) k) ?_
    show own_G _ _ _ _ (T23.setTop (mkF m 220 #[.val (.int i0), .val (.int i1), .val (.int i2), .val (.int i3), .val (.int i4), .val (.int i5), .val (.int (0 : Int32)), .val (.ref b), .val (.int (((((0 : Int32) + (0 : Int32)) + (0 : Int32)) + (0 : Int32)) + (0 : Int32))), .val (.int (0 : Int32)), .unset] [(.int (1 : Int32))]))
    refine own_via (fun _ k => XS.goto X23.here hx rfl (pc0 := 220) (pc' := 224) rfl (hb hby at_220) (by decide) (by decide) k) ?_
    show own_G _ _ _ _ (T23.setTop (mkF m 224 #[.val (.int i0), .val (.int i1), .val (.int i2), .val (.int i3), .val (.int i4), .val (.int i5), .val (.int (0 : Int32)), .val (.ref b), .val (.int (((((0 : Int32) + (0 : Int32)) + (0 : Int32)) + (0 : Int32)) + (0 : Int32))), .val (.int (0 : Int32)), .unset] [(.int (1 : Int32))]))
    refine own_via (fun _ k => XS.istore X23.here hx rfl (hb hby at_224) rfl (l' := #[.val (.int i0), .val (.int i1), .val (.int i2), .val (.int i3), .val (.int i4), .val (.int i5), .val (.int (0 : Int32)), .val (.ref b), .val (.int (((((0 : Int32) + (0 : Int32)) + (0 : Int32)) + (0 : Int32)) + (0 : Int32))), .val (.int (0 : Int32)), .val (.int (1 : Int32))]) rfl k) ?_
    show own_G _ _ _ _ (T23.setTop (mkF m 226 #[.val (.int i0), .val (.int i1), .val (.int i2), .val (.int i3), .val (.int i4), .val (.int i5), .val (.int (0 : Int32)), .val (.ref b), .val (.int (((((0 : Int32) + (0 : Int32)) + (0 : Int32)) + (0 : Int32)) + (0 : Int32))), .val (.int (0 : Int32)), .val (.int (1 : Int32))] []))
    refine own_via (fun _ k => XS.iload X23.here hx rfl (hb hby at_226) rfl k) ?_
    show own_G _ _ _ _ (T23.setTop (mkF m 228 #[.val (.int i0), .val (.int i1), .val (.int i2), .val (.int i3), .val (.int i4), .val (.int i5), .val (.int (0 : Int32)), .val (.ref b), .val (.int (((((0 : Int32) + (0 : Int32)) + (0 : Int32)) + (0 : Int32)) + (0 : Int32))), .val (.int (0 : Int32)), .val (.int (1 : Int32))] [(.int (0 : Int32))]))
    refine own_via (fun _ k => XS.iload X23.here hx rfl (hb hby at_228) rfl k) ?_
    show own_G _ _ _ _ (T23.setTop (mkF m 230 #[.val (.int i0), .val (.int i1), .val (.int i2), .val (.int i3), .val (.int i4), .val (.int i5), .val (.int (0 : Int32)), .val (.ref b), .val (.int (((((0 : Int32) + (0 : Int32)) + (0 : Int32)) + (0 : Int32)) + (0 : Int32))), .val (.int (0 : Int32)), .val (.int (1 : Int32))] [(.int (((((0 : Int32) + (0 : Int32)) + (0 : Int32)) + (0 : Int32)) + (0 : Int32))), (.int (0 : Int32))]))
    refine own_via (fun _ k => XS.icmpNo X23.here hx rfl (hb hby at_230) rfl (teq (by decide)).2 k) ?_
    show own_G _ _ _ _ (T23.setTop (mkF m 233 #[.val (.int i0), .val (.int i1), .val (.int i2), .val (.int i3), .val (.int i4), .val (.int i5), .val (.int (0 : Int32)), .val (.ref b), .val (.int (((((0 : Int32) + (0 : Int32)) + (0 : Int32)) + (0 : Int32)) + (0 : Int32))), .val (.int (0 : Int32)), .val (.int (1 : Int32))] []))
    refine own_via (fun _ k => XS.iload X23.here hx rfl (hb hby at_233) rfl k) ?_
    show own_G _ _ _ _ (T23.setTop (mkF m 235 #[.val (.int i0), .val (.int i1), .val (.int i2), .val (.int i3), .val (.int i4), .val (.int i5), .val (.int (0 : Int32)), .val (.ref b), .val (.int (((((0 : Int32) + (0 : Int32)) + (0 : Int32)) + (0 : Int32)) + (0 : Int32))), .val (.int (0 : Int32)), .val (.int (1 : Int32))] [(.int (1 : Int32))]))
    refine own_via (fun _ k => XS.ifNo X23.here hx rfl (hb hby at_235) rfl ((if0 _ _).trans (feq (by decide)).1) k) ?_
    show own_G _ _ _ _ (T23.setTop (mkF m 238 #[.val (.int i0), .val (.int i1), .val (.int i2), .val (.int i3), .val (.int i4), .val (.int i5), .val (.int (0 : Int32)), .val (.ref b), .val (.int (((((0 : Int32) + (0 : Int32)) + (0 : Int32)) + (0 : Int32)) + (0 : Int32))), .val (.int (0 : Int32)), .val (.int (1 : Int32))] []))
    refine own_via (fun _ k => XS.iconst X23.here hx rfl (hb hby at_238) k) ?_
    show own_G _ _ _ _ (T23.setTop (mkF m 239 #[.val (.int i0), .val (.int i1), .val (.int i2), .val (.int i3), .val (.int i4), .val (.int i5), .val (.int (0 : Int32)), .val (.ref b), .val (.int (((((0 : Int32) + (0 : Int32)) + (0 : Int32)) + (0 : Int32)) + (0 : Int32))), .val (.int (0 : Int32)), .val (.int (1 : Int32))] [(.int (1 : Int32))]))
    refine own_via (fun _ k => XS.goto X23.here hx rfl (pc0 := 239) (pc' := 243) rfl (hb hby at_239) (by decide) (by decide) k) ?_
    show own_G _ _ _ _ (T23.setTop (mkF m 243 #[.val (.int i0), .val (.int i1), .val (.int i2), .val (.int i3), .val (.int i4), .val (.int i5), .val (.int (0 : Int32)), .val (.ref b), .val (.int (((((0 : Int32) + (0 : Int32)) + (0 : Int32)) + (0 : Int32)) + (0 : Int32))), .val (.int (0 : Int32)), .val (.int (1 : Int32))] [(.int (1 : Int32))]))
    obtain ⟨fs, hr, hrun, hended, hW, hsame⟩ := X23.leave (v := some (.int (1 : Int32))) (fun h => by rw [Bd.returns] at h; cases h)
    exact ⟨_, _, retN X23 hx (t := .boolean) Bd.returns (by simp) (hb hby at_243) hr, hrun, hended, _, _, rfl, ⟨rfl, N23⟩, ⟨_, rfl⟩, hW, hsame.mono (by decide) (by decide)⟩
  · show own_G _ _ _ _ (s₁.setTop (mkF m 9 #[.val (.int i0), .val (.int i1), .val (.int i2), .val (.int i3), .val (.int i4), .val (.int i5), .val (.int (1 : Int32)), .unset, .unset, .unset, .unset] []))
    refine own_via (fun _ k => XS.iload X0.here hx rfl (hb hby at_9) rfl k) ?_
    show own_G _ _ _ _ (s₁.setTop (mkF m 11 #[.val (.int i0), .val (.int i1), .val (.int i2), .val (.int i3), .val (.int i4), .val (.int i5), .val (.int (1 : Int32)), .unset, .unset, .unset, .unset] [(.int (1 : Int32))]))
    obtain ⟨T25, h25, k_b, X25, e25, E25, A25, st25⟩ := newP X0 hx hZ (hw _ (List.mem_of_getElem? (i := 1) rfl)) e0 (g := (mkF m 11 #[.val (.int i0), .val (.int i1), .val (.int i2), .val (.int i3), .val (.int i4), .val (.int i5), .val (.int (1 : Int32)), .unset, .unset, .unset, .unset] [(.int (1 : Int32))])) rfl (hb hby at_11) rfl (by decide) (cap := 1) (by decide) (by decide) (by decide) (by decide)
    obtain ⟨b, g25⟩ : ∃ z, z = h0.size := ⟨_, rfl⟩
    rw [← g25] at A25 st25
    have g_b : n0 ≤ b := Nat.le_trans Z0 (Nat.le_of_eq g25.symm)
    have Z0 := Nat.le_trans Z0 E25.1
    have V_b : Arv Z h25 b k_b .int (1 : Int32) [(.int (0 : Int32))] (.int (0 : Int32)) := (Arv.new A25 (by decide)).pad (pad_rep [] (.int (0 : Int32)) 1)
    refine own_via st25 ?_
    show own_G _ _ _ _ (T25.setTop (mkF m 13 #[.val (.int i0), .val (.int i1), .val (.int i2), .val (.int i3), .val (.int i4), .val (.int i5), .val (.int (1 : Int32)), .unset, .unset, .unset, .unset] [(.ref b)]))
    refine own_via (fun _ k => XS.astore X25.here hx rfl (hb hby at_13) rfl rfl (l' := #[.val (.int i0), .val (.int i1), .val (.int i2), .val (.int i3), .val (.int i4), .val (.int i5), .val (.int (1 : Int32)), .val (.ref b), .unset, .unset, .unset]) rfl k) ?_
    show own_G _ _ _ _ (T25.setTop (mkF m 15 #[.val (.int i0), .val (.int i1), .val (.int i2), .val (.int i3), .val (.int i4), .val (.int i5), .val (.int (1 : Int32)), .val (.ref b), .unset, .unset, .unset] []))
    refine own_via (fun _ k => XS.iload X25.here hx rfl (hb hby at_15) rfl k) ?_
    show own_G _ _ _ _ (T25.setTop (mkF m 17 #[.val (.int i0), .val (.int i1), .val (.int i2), .val (.int i3), .val (.int i4), .val (.int i5), .val (.int (1 : Int32)), .val (.ref b), .unset, .unset, .unset] [(.int (1 : Int32))]))
    refine own_via (fun _ k => XS.ifNo X25.here hx rfl (hb hby at_17) rfl ((if0 _ _).trans (tlt (by decide)).2.2.2) k) ?_
    show own_G _ _ _ _ (T25.setTop (mkF m 20 #[.val (.int i0), .val (.int i1), .val (.int i2), .val (.int i3), .val (.int i4), .val (.int i5), .val (.int (1 : Int32)), .val (.ref b), .unset, .unset, .unset] []))
    refine own_via (fun _ k => XS.aload X25.here hx rfl (hb hby at_20) rfl rfl k) ?_
    show own_G _ _ _ _ (T25.setTop (mkF m 22 #[.val (.int i0), .val (.int i1), .val (.int i2), .val (.int i3), .val (.int i4), .val (.int i5), .val (.int (1 : Int32)), .val (.ref b), .unset, .unset, .unset] [(.ref b)]))
    refine own_via (fun _ k => XS.iconst X25.here hx rfl (hb hby at_22) k) ?_
    show own_G _ _ _ _ (T25.setTop (mkF m 23 #[.val (.int i0), .val (.int i1), .val (.int i2), .val (.int i3), .val (.int i4), .val (.int i5), .val (.int (1 : Int32)), .val (.ref b), .unset, .unset, .unset] [(.int (0 : Int32)), (.ref b)]))
    refine own_via (fun _ k => XS.iloadN X25.here hx rfl (hb hby at_23) rfl k) ?_
    show own_G _ _ _ _ (T25.setTop (mkF m 24 #[.val (.int i0), .val (.int i1), .val (.int i2), .val (.int i3), .val (.int i4), .val (.int i5), .val (.int (1 : Int32)), .val (.ref b), .unset, .unset, .unset] [(.int i1), (.int (0 : Int32)), (.ref b)]))
    obtain ⟨cl_b, Ar_b, q_b, S_b, Nn_b, H_b, G_b⟩ := V_b
    have hin26 : ¬ ((0 : Int32) < 0 ∨ cl_b.slots.size ≤ ((0 : Int32)).toNatClampNeg) := inb_of S_b ⟨by decide, by decide⟩
    obtain ⟨T26, h26, X26, e26, W26, st26⟩ := stI X25 hx hZ e25 Ar_b (j := (0 : Int32)) hin26 (g := (mkF m 24 #[.val (.int i0), .val (.int i1), .val (.int i2), .val (.int i3), .val (.int i4), .val (.int i5), .val (.int (1 : Int32)), .val (.ref b), .unset, .unset, .unset] [(.int i1), (.int (0 : Int32)), (.ref b)])) rfl rfl (hb hby at_24)
    have V_b : Arv Z h26 b k_b .int (1 : Int32) [(.int i1)] (.int (0 : Int32)) := Arv.set Ar_b q_b S_b Nn_b H_b G_b rfl W26 0 rfl (Nat.le_of_ble_eq_true rfl)
    have Z0 := Nat.le_trans Z0 (Keep.of_wr W26).1
    have N26 := Fr.snoc X26 N0 g_b
    refine own_via st26 ?_
    show own_G _ _ _ _ (T26.setTop (mkF m 25 #[.val (.int i0), .val (.int i1), .val (.int i2), .val (.int i3), .val (.int i4), .val (.int i5), .val (.int (1 : Int32)), .val (.ref b), .unset, .unset, .unset] []))
    refine own_via (fun _ k => XS.iload X26.here hx rfl (hb hby at_25) rfl k) ?_
    show own_G _ _ _ _ (T26.setTop (mkF m 27 #[.val (.int i0), .val (.int i1), .val (.int i2), .val (.int i3), .val (.int i4), .val (.int i5), .val (.int (1 : Int32)), .val (.ref b), .unset, .unset, .unset] [(.int (1 : Int32))]))
    refine own_via (fun _ k => XS.iconst X26.here hx rfl (hb hby at_27) k) ?_
    show own_G _ _ _ _ (T26.setTop (mkF m 28 #[.val (.int i0), .val (.int i1), .val (.int i2), .val (.int i3), .val (.int i4), .val (.int i5), .val (.int (1 : Int32)), .val (.ref b), .unset, .unset, .unset] [(.int (1 : Int32)), (.int (1 : Int32))]))
    refine own_via (fun _ k => XS.icmpYes X26.here hx rfl (pc0 := 28) (pc' := 36) rfl (hb hby at_28) rfl (flt (by decide)).2.2.2 (by decide) (by decide) k) ?_
    show own_G _ _ _ _ (T26.setTop (mkF m 36 #[.val (.int i0), .val (.int i1), .val (.int i2), .val (.int i3), .val (.int i4), .val (.int i5), .val (.int (1 : Int32)), .val (.ref b), .unset, .unset, .unset] []))
    refine own_via (fun _ k => XS.iload X26.here hx rfl (hb hby at_36) rfl k) ?_
    show own_G _ _ _ _ (T26.setTop (mkF m 38 #[.val (.int i0), .val (.int i1), .val (.int i2), .val (.int i3), .val (.int i4), .val (.int i5), .val (.int (1 : Int32)), .val (.ref b), .unset, .unset, .unset] [(.int (1 : Int32))]))
    refine own_via (fun _ k => XS.iconst X26.here hx rfl (hb hby at_38) k) ?_
    show own_G _ _ _ _ (T26.setTop (mkF m 39 #[.val (.int i0), .val (.int i1), .val (.int i2), .val (.int i3), .val (.int i4), .val (.int i5), .val (.int (1 : Int32)), .val (.ref b), .unset, .unset, .unset] [(.int (2 : Int32)), (.int (1 : Int32))]))
    refine own_via (fun _ k => XS.icmpYes X26.here hx rfl (pc0 := 39) (pc' := 47) rfl (hb hby at_39) rfl (flt (by decide)).2.2.2 (by decide) (by decide) k) ?_
    show own_G _ _ _ _ (T26.setTop (mkF m 47 #[.val (.int i0), .val (.int i1), .val (.int i2), .val (.int i3), .val (.int i4), .val (.int i5), .val (.int (1 : Int32)), .val (.ref b), .unset, .unset, .unset] []))
    refine own_via (fun _ k => XS.iload X26.here hx rfl (hb hby at_47) rfl k) ?_
    show own_G _ _ _ _ (T26.setTop (mkF m 49 #[.val (.int i0), .val (.int i1), .val (.int i2), .val (.int i3), .val (.int i4), .val (.int i5), .val (.int (1 : Int32)), .val (.ref b), .unset, .unset, .unset] [(.int (1 : Int32))]))
    refine own_via (fun _ k => XS.iconst X26.here hx rfl (hb hby at_49) k) ?_
    show own_G _ _ _ _ (T26.setTop (mkF m 50 #[.val (.int i0), .val (.int i1), .val (.int i2), .val (.int i3), .val (.int i4), .val (.int i5), .val (.int (1 : Int32)), .val (.ref b), .unset, .unset, .unset] [(.int (3 : Int32)), (.int (1 : Int32))]))
    refine own_via (fun _ k => XS.icmpYes X26.here hx rfl (pc0 := 50) (pc' := 59) rfl (hb hby at_50) rfl (flt (by decide)).2.2.2 (by decide) (by decide) k) ?_
    show own_G _ _ _ _ (T26.setTop (mkF m 59 #[.val (.int i0), .val (.int i1), .val (.int i2), .val (.int i3), .val (.int i4), .val (.int i5), .val (.int (1 : Int32)), .val (.ref b), .unset, .unset, .unset] []))
    refine own_via (fun _ k => XS.iload X26.here hx rfl (hb hby at_59) rfl k) ?_
    show own_G _ _ _ _ (T26.setTop (mkF m 61 #[.val (.int i0), .val (.int i1), .val (.int i2), .val (.int i3), .val (.int i4), .val (.int i5), .val (.int (1 : Int32)), .val (.ref b), .unset, .unset, .unset] [(.int (1 : Int32))]))
    refine own_via (fun _ k => XS.iconst X26.here hx rfl (hb hby at_61) k) ?_
    show own_G _ _ _ _ (T26.setTop (mkF m 62 #[.val (.int i0), .val (.int i1), .val (.int i2), .val (.int i3), .val (.int i4), .val (.int i5), .val (.int (1 : Int32)), .val (.ref b), .unset, .unset, .unset] [(.int (4 : Int32)), (.int (1 : Int32))]))
    refine own_via (fun _ k => XS.icmpYes X26.here hx rfl (pc0 := 62) (pc' := 71) rfl (hb hby at_62) rfl (flt (by decide)).2.2.2 (by decide) (by decide) k) ?_
    show own_G _ _ _ _ (T26.setTop (mkF m 71 #[.val (.int i0), .val (.int i1), .val (.int i2), .val (.int i3), .val (.int i4), .val (.int i5), .val (.int (1 : Int32)), .val (.ref b), .unset, .unset, .unset] []))
    refine own_via (fun _ k => XS.iload X26.here hx rfl (hb hby at_71) rfl k) ?_
    show own_G _ _ _ _ (T26.setTop (mkF m 73 #[.val (.int i0), .val (.int i1), .val (.int i2), .val (.int i3), .val (.int i4), .val (.int i5), .val (.int (1 : Int32)), .val (.ref b), .unset, .unset, .unset] [(.int (1 : Int32))]))
    refine own_via (fun _ k => XS.ifNo X26.here hx rfl (hb hby at_73) rfl ((if0 _ _).trans (tlt (by decide)).2.2.2) k) ?_
    show own_G _ _ _ _ (T26.setTop (mkF m 76 #[.val (.int i0), .val (.int i1), .val (.int i2), .val (.int i3), .val (.int i4), .val (.int i5), .val (.int (1 : Int32)), .val (.ref b), .unset, .unset, .unset] []))
    refine own_via (fun _ k => XS.iloadN X26.here hx rfl (hb hby at_76) rfl k) ?_
    show own_G _ _ _ _ (T26.setTop (mkF m 77 #[.val (.int i0), .val (.int i1), .val (.int i2), .val (.int i3), .val (.int i4), .val (.int i5), .val (.int (1 : Int32)), .val (.ref b), .unset, .unset, .unset] [(.int i1)]))
    refine own_via (fun _ k => XS.goto X26.here hx rfl (pc0 := 77) (pc' := 81) rfl (hb hby at_77) (by decide) (by decide) k) ?_
    show own_G _ _ _ _ (T26.setTop (mkF m 81 #[.val (.int i0), .val (.int i1), .val (.int i2), .val (.int i3), .val (.int i4), .val (.int i5), .val (.int (1 : Int32)), .val (.ref b), .unset, .unset, .unset] [(.int i1)]))
    refine own_via (fun _ k => XS.iload X26.here hx rfl (hb hby at_81) rfl k) ?_
    show own_G _ _ _ _ (T26.setTop (mkF m 83 #[.val (.int i0), .val (.int i1), .val (.int i2), .val (.int i3), .val (.int i4), .val (.int i5), .val (.int (1 : Int32)), .val (.ref b), .unset, .unset, .unset] [(.int (1 : Int32)), (.int i1)]))
    refine own_via (fun _ k => XS.iconst X26.here hx rfl (hb hby at_83) k) ?_
    show own_G _ _ _ _ (T26.setTop (mkF m 84 #[.val (.int i0), .val (.int i1), .val (.int i2), .val (.int i3), .val (.int i4), .val (.int i5), .val (.int (1 : Int32)), .val (.ref b), .unset, .unset, .unset] [(.int (1 : Int32)), (.int (1 : Int32)), (.int i1)]))
    refine own_via (fun _ k => XS.icmpYes X26.here hx rfl (pc0 := 84) (pc' := 91) rfl (hb hby at_84) rfl (flt (by decide)).2.2.2 (by decide) (by decide) k) ?_
    show own_G _ _ _ _ (T26.setTop (mkF m 91 #[.val (.int i0), .val (.int i1), .val (.int i2), .val (.int i3), .val (.int i4), .val (.int i5), .val (.int (1 : Int32)), .val (.ref b), .unset, .unset, .unset] [(.int i1)]))
    refine own_via (fun _ k => XS.iconst X26.here hx rfl (hb hby at_91) k) ?_
    show own_G _ _ _ _ (T26.setTop (mkF m 92 #[.val (.int i0), .val (.int i1), .val (.int i2), .val (.int i3), .val (.int i4), .val (.int i5), .val (.int (1 : Int32)), .val (.ref b), .unset, .unset, .unset] [(.int (0 : Int32)), (.int i1)]))
    refine own_via (fun _ k => XS.iadd X26.here hx rfl (hb hby at_92) rfl k) ?_
    show own_G _ _ _ _ (T26.setTop (mkF m 93 #[.val (.int i0), .val (.int i1), .val (.int i2), .val (.int i3), .val (.int i4), .val (.int i5), .val (.int (1 : Int32)), .val (.ref b), .unset, .unset, .unset] [(.int (i1 + (0 : Int32)))]))
    refine own_via (fun _ k => XS.iload X26.here hx rfl (hb hby at_93) rfl k) ?_
    show own_G _ _ _ _ (T26.setTop (mkF m 95 #[.val (.int i0), .val (.int i1), .val (.int i2), .val (.int i3), .val (.int i4), .val (.int i5), .val (.int (1 : Int32)), .val (.ref b), .unset, .unset, .unset] [(.int (1 : Int32)), (.int (i1 + (0 : Int32)))]))
    refine own_via (fun _ k => XS.iconst X26.here hx rfl (hb hby at_95) k) ?_
    show own_G _ _ _ _ (T26.setTop (mkF m 96 #[.val (.int i0), .val (.int i1), .val (.int i2), .val (.int i3), .val (.int i4), .val (.int i5), .val (.int (1 : Int32)), .val (.ref b), .unset, .unset, .unset] [(.int (2 : Int32)), (.int (1 : Int32)), (.int (i1 + (0 : Int32)))]))
    refine own_via (fun _ k => XS.icmpYes X26.here hx rfl (pc0 := 96) (pc' := 103) rfl (hb hby at_96) rfl (flt (by decide)).2.2.2 (by decide) (by decide) k) ?_
    show own_G _ _ _ _ (T26.setTop (mkF m 103 #[.val (.int i0), .val (.int i1), .val (.int i2), .val (.int i3), .val (.int i4), .val (.int i5), .val (.int (1 : Int32)), .val (.ref b), .unset, .unset, .unset] [(.int (i1 + (0 : Int32)))]))
    refine own_via (fun _ k => XS.iconst X26.here hx rfl (hb hby at_103) k) ?_
    show own_G _ _ _ _ (T26.setTop (mkF m 104 #[.val (.int i0), .val (.int i1), .val (.int i2), .val (.int i3), .val (.int i4), .val (.int i5), .val (.int (1 : Int32)), .val (.ref b), .unset, .unset, .unset] [(.int (0 : Int32)), (.int (i1 + (0 : Int32)))]))
    refine own_via (fun _ k => XS.iadd X26.here hx rfl (hb hby at_104) rfl k) ?_
    show own_G _ _ _ _ (T26.setTop (mkF m 105 #[.val (.int i0), .val (.int i1), .val (.int i2), .val (.int i3), .val (.int i4), .val (.int i5), .val (.int (1 : Int32)), .val (.ref b), .unset, .unset, .unset] [(.int ((i1 + (0 : Int32)) + (0 : Int32)))]))
    refine own_via (fun _ k => XS.iload X26.here hx rfl (hb hby at_105) rfl k) ?_
    show own_G _ _ _ _ (T26.setTop (mkF m 107 #[.val (.int i0), .val (.int i1), .val (.int i2), .val (.int i3), .val (.int i4), .val (.int i5), .val (.int (1 : Int32)), .val (.ref b), .unset, .unset, .unset] [(.int (1 : Int32)), (.int ((i1 + (0 : Int32)) + (0 : Int32)))]))
    refine own_via (fun _ k => XS.iconst X26.here hx rfl (hb hby at_107) k) ?_
    show own_G _ _ _ _ (T26.setTop (mkF m 108 #[.val (.int i0), .val (.int i1), .val (.int i2), .val (.int i3), .val (.int i4), .val (.int i5), .val (.int (1 : Int32)), .val (.ref b), .unset, .unset, .unset] [(.int (3 : Int32)), (.int (1 : Int32)), (.int ((i1 + (0 : Int32)) + (0 : Int32)))]))
    refine own_via (fun _ k => XS.icmpYes X26.here hx rfl (pc0 := 108) (pc' := 116) rfl (hb hby at_108) rfl (flt (by decide)).2.2.2 (by decide) (by decide) k) ?_
    show own_G _ _ _ _ (T26.setTop (mkF m 116 #[.val (.int i0), .val (.int i1), .val (.int i2), .val (.int i3), .val (.int i4), .val (.int i5), .val (.int (1 : Int32)), .val (.ref b), .unset, .unset, .unset] [(.int ((i1 + (0 : Int32)) + (0 : Int32)))]))
    refine own_via (fun _ k => XS.iconst X26.here hx rfl (hb hby at_116) k) ?_
    show own_G _ _ _ _ (T26.setTop (mkF m 117 #[.val (.int i0), .val (.int i1), .val (.int i2), .val (.int i3), .val (.int i4), .val (.int i5), .val (.int (1 : Int32)), .val (.ref b), .unset, .unset, .unset] [(.int (0 : Int32)), (.int ((i1 + (0 : Int32)) + (0 : Int32)))]))
    refine own_via (fun _ k => XS.iadd X26.here hx rfl (hb hby at_117) rfl k) ?_
    show own_G _ _ _ _ (T26.setTop (mkF m 118 #[.val (.int i0), .val (.int i1), .val (.int i2), .val (.int i3), .val (.int i4), .val (.int i5), .val (.int (1 : Int32)), .val (.ref b), .unset, .unset, .unset] [(.int (((i1 + (0 : Int32)) + (0 : Int32)) + (0 : Int32)))]))
    refine own_via (fun _ k => XS.iload X26.here hx rfl (hb hby at_118) rfl k) ?_
    show own_G _ _ _ _ (T26.setTop (mkF m 120 #[.val (.int i0), .val (.int i1), .val (.int i2), .val (.int i3), .val (.int i4), .val (.int i5), .val (.int (1 : Int32)), .val (.ref b), .unset, .unset, .unset] [(.int (1 : Int32)), (.int (((i1 + (0 : Int32)) + (0 : Int32)) + (0 : Int32)))]))
    refine own_via (fun _ k => XS.iconst X26.here hx rfl (hb hby at_120) k) ?_
    show own_G _ _ _ _ (T26.setTop (mkF m 121 #[.val (.int i0), .val (.int i1), .val (.int i2), .val (.int i3), .val (.int i4), .val (.int i5), .val (.int (1 : Int32)), .val (.ref b), .unset, .unset, .unset] [(.int (4 : Int32)), (.int (1 : Int32)), (.int (((i1 + (0 : Int32)) + (0 : Int32)) + (0 : Int32)))]))
    refine own_via (fun _ k => XS.icmpYes X26.here hx rfl (pc0 := 121) (pc' := 129) rfl (hb hby at_121) rfl (flt (by decide)).2.2.2 (by decide) (by decide) k) ?_
    show own_G _ _ _ _ (T26.setTop (mkF m 129 #[.val (.int i0), .val (.int i1), .val (.int i2), .val (.int i3), .val (.int i4), .val (.int i5), .val (.int (1 : Int32)), .val (.ref b), .unset, .unset, .unset] [(.int (((i1 + (0 : Int32)) + (0 : Int32)) + (0 : Int32)))]))
    refine own_via (fun _ k => XS.iconst X26.here hx rfl (hb hby at_129) k) ?_
    show own_G _ _ _ _ (T26.setTop (mkF m 130 #[.val (.int i0), .val (.int i1), .val (.int i2), .val (.int i3), .val (.int i4), .val (.int i5), .val (.int (1 : Int32)), .val (.ref b), .unset, .unset, .unset] [(.int (0 : Int32)), (.int (((i1 + (0 : Int32)) + (0 : Int32)) + (0 : Int32)))]))
    refine own_via (fun _ k => XS.iadd X26.here hx rfl (hb hby at_130) rfl k) ?_
    show own_G _ _ _ _ (T26.setTop (mkF m 131 #[.val (.int i0), .val (.int i1), .val (.int i2), .val (.int i3), .val (.int i4), .val (.int i5), .val (.int (1 : Int32)), .val (.ref b), .unset, .unset, .unset] [(.int ((((i1 + (0 : Int32)) + (0 : Int32)) + (0 : Int32)) + (0 : Int32)))]))
    refine own_via (fun _ k => XS.istore X26.here hx rfl (hb hby at_131) rfl (l' := #[.val (.int i0), .val (.int i1), .val (.int i2), .val (.int i3), .val (.int i4), .val (.int i5), .val (.int (1 : Int32)), .val (.ref b), .val (.int ((((i1 + (0 : Int32)) + (0 : Int32)) + (0 : Int32)) + (0 : Int32))), .unset, .unset]) rfl k) ?_
    show own_G _ _ _ _ (T26.setTop (mkF m 133 #[.val (.int i0), .val (.int i1), .val (.int i2), .val (.int i3), .val (.int i4), .val (.int i5), .val (.int (1 : Int32)), .val (.ref b), .val (.int ((((i1 + (0 : Int32)) + (0 : Int32)) + (0 : Int32)) + (0 : Int32))), .unset, .unset] []))
    refine own_via (fun _ k => XS.aload X26.here hx rfl (hb hby at_133) rfl rfl k) ?_
    show own_G _ _ _ _ (T26.setTop (mkF m 135 #[.val (.int i0), .val (.int i1), .val (.int i2), .val (.int i3), .val (.int i4), .val (.int i5), .val (.int (1 : Int32)), .val (.ref b), .val (.int ((((i1 + (0 : Int32)) + (0 : Int32)) + (0 : Int32)) + (0 : Int32))), .unset, .unset] [(.ref b)]))
    obtain ⟨_, _, ⟨T27, L27, k27, n27⟩, -, X27, ⟨Lc27, hQ27, l27, y27, z27⟩, st27⟩ := Jvm.LawKit.callS X26 hx (y := (⟨"com/example/vanon/vanon/lattice/Lattice", "height", "([I)I"⟩ : MethodName)) hown (mvT hZ (hw _ (List.mem_of_getElem? (i := 2) rfl))) (mvT hZ (hw _ (List.mem_of_getElem? (i := 3) rfl))) (mvT hZ (hw _ (List.mem_of_getElem? (i := 4) rfl))) (mvT hZ (hw _ (List.mem_of_getElem? (i := 5) rfl))) (by decide) (backOf (W := 0) (rmh1 l Z a0 hw [] b k_b i1 h26 n0 Z0 V_b) hZ (hw _ (List.mem_of_getElem? (i := 5) rfl)) (hw _ (List.mem_of_getElem? (i := 4) rfl)) (by decide) (by decide)) (g := (mkF m 135 #[.val (.int i0), .val (.int i1), .val (.int i2), .val (.int i3), .val (.int i4), .val (.int i5), .val (.int (1 : Int32)), .val (.ref b), .val (.int ((((i1 + (0 : Int32)) + (0 : Int32)) + (0 : Int32)) + (0 : Int32))), .unset, .unset] [(.ref b)])) rfl (by rw [hml]; rfl) (argsL := [(.ref b)]) (rest := []) (lenOf pd_0 rfl) rfl (by show 2 * 0 + _ ≤ _; exact Nat.le_of_eq rfl) (hb hby at_135) (fun _ _ => ⟨rfl, e26, Nat.le_of_ble_eq_true rfl, Nat.le_of_ble_eq_true rfl⟩)
    dsimp only [Pt.U, Pt.locs, Pt.cells, Pt.slots] at X27 l27 y27 z27 st27 hQ27
    subst l27 y27 z27
    obtain ⟨rfl, N27q, e27⟩ := hQ27
    have N27 := Fr.app N26 N27q
    refine own_via st27 ?_
    show own_G _ _ _ _ (T27.setTop (mkF m 138 #[.val (.int i0), .val (.int i1), .val (.int i2), .val (.int i3), .val (.int i4), .val (.int i5), .val (.int (1 : Int32)), .val (.ref b), .val (.int ((((i1 + (0 : Int32)) + (0 : Int32)) + (0 : Int32)) + (0 : Int32))), .unset, .unset] [(.int ((0 : Int32) + i1))]))
    refine own_via (fun _ k => XS.istore X27.here hx rfl (hb hby at_138) rfl (l' := #[.val (.int i0), .val (.int i1), .val (.int i2), .val (.int i3), .val (.int i4), .val (.int i5), .val (.int (1 : Int32)), .val (.ref b), .val (.int ((((i1 + (0 : Int32)) + (0 : Int32)) + (0 : Int32)) + (0 : Int32))), .val (.int ((0 : Int32) + i1)), .unset]) rfl k) ?_
    show own_G _ _ _ _ (T27.setTop (mkF m 140 #[.val (.int i0), .val (.int i1), .val (.int i2), .val (.int i3), .val (.int i4), .val (.int i5), .val (.int (1 : Int32)), .val (.ref b), .val (.int ((((i1 + (0 : Int32)) + (0 : Int32)) + (0 : Int32)) + (0 : Int32))), .val (.int ((0 : Int32) + i1)), .unset] []))
    refine own_via (fun _ k => XS.aload X27.here hx rfl (hb hby at_140) rfl rfl k) ?_
    show own_G _ _ _ _ (T27.setTop (mkF m 142 #[.val (.int i0), .val (.int i1), .val (.int i2), .val (.int i3), .val (.int i4), .val (.int i5), .val (.int (1 : Int32)), .val (.ref b), .val (.int ((((i1 + (0 : Int32)) + (0 : Int32)) + (0 : Int32)) + (0 : Int32))), .val (.int ((0 : Int32) + i1)), .unset] [(.ref b)]))
    obtain ⟨cl28, Ar28, -, Sz28, Nn28, -, -⟩ := id V_b
    refine own_via (fun _ k => X27.arraylength hx (by rw [e27]; exact Ar28.1) (State.isArrayOf_alike hZ.alike Ar28.2.1) (g := (mkF m 142 #[.val (.int i0), .val (.int i1), .val (.int i2), .val (.int i3), .val (.int i4), .val (.int i5), .val (.int (1 : Int32)), .val (.ref b), .val (.int ((((i1 + (0 : Int32)) + (0 : Int32)) + (0 : Int32)) + (0 : Int32))), .val (.int ((0 : Int32) + i1)), .unset] [(.ref b)])) rfl rfl (hb hby at_142) _ k) ?_
    rw [len_of Sz28 Nn28]
    show own_G _ _ _ _ (T27.setTop (mkF m 143 #[.val (.int i0), .val (.int i1), .val (.int i2), .val (.int i3), .val (.int i4), .val (.int i5), .val (.int (1 : Int32)), .val (.ref b), .val (.int ((((i1 + (0 : Int32)) + (0 : Int32)) + (0 : Int32)) + (0 : Int32))), .val (.int ((0 : Int32) + i1)), .unset] [(.int (1 : Int32))]))
    refine own_via (fun _ k => XS.iload X27.here hx rfl (hb hby at_143) rfl k) ?_
    show own_G _ _ _ _ (T27.setTop (mkF m 145 #[.val (.int i0), .val (.int i1), .val (.int i2), .val (.int i3), .val (.int i4), .val (.int i5), .val (.int (1 : Int32)), .val (.ref b), .val (.int ((((i1 + (0 : Int32)) + (0 : Int32)) + (0 : Int32)) + (0 : Int32))), .val (.int ((0 : Int32) + i1)), .unset] [(.int (1 : Int32)), (.int (1 : Int32))]))
    refine own_via (fun _ k => XS.icmpNo X27.here hx rfl (hb hby at_145) rfl (teq (by decide)).2 k) ?_
    show own_G _ _ _ _ (T27.setTop (mkF m 148 #[.val (.int i0), .val (.int i1), .val (.int i2), .val (.int i3), .val (.int i4), .val (.int i5), .val (.int (1 : Int32)), .val (.ref b), .val (.int ((((i1 + (0 : Int32)) + (0 : Int32)) + (0 : Int32)) + (0 : Int32))), .val (.int ((0 : Int32) + i1)), .unset] []))
    refine own_via (fun _ k => XS.iload X27.here hx rfl (hb hby at_148) rfl k) ?_
    show own_G _ _ _ _ (T27.setTop (mkF m 150 #[.val (.int i0), .val (.int i1), .val (.int i2), .val (.int i3), .val (.int i4), .val (.int i5), .val (.int (1 : Int32)), .val (.ref b), .val (.int ((((i1 + (0 : Int32)) + (0 : Int32)) + (0 : Int32)) + (0 : Int32))), .val (.int ((0 : Int32) + i1)), .unset] [(.int (1 : Int32))]))
    refine own_via (fun _ k => XS.ifNo X27.here hx rfl (hb hby at_150) rfl ((if0 _ _).trans (tlt (by decide)).2.2.2) k) ?_
    show own_G _ _ _ _ (T27.setTop (mkF m 153 #[.val (.int i0), .val (.int i1), .val (.int i2), .val (.int i3), .val (.int i4), .val (.int i5), .val (.int (1 : Int32)), .val (.ref b), .val (.int ((((i1 + (0 : Int32)) + (0 : Int32)) + (0 : Int32)) + (0 : Int32))), .val (.int ((0 : Int32) + i1)), .unset] []))
    refine own_via (fun _ k => XS.aload X27.here hx rfl (hb hby at_153) rfl rfl k) ?_
    show own_G _ _ _ _ (T27.setTop (mkF m 155 #[.val (.int i0), .val (.int i1), .val (.int i2), .val (.int i3), .val (.int i4), .val (.int i5), .val (.int (1 : Int32)), .val (.ref b), .val (.int ((((i1 + (0 : Int32)) + (0 : Int32)) + (0 : Int32)) + (0 : Int32))), .val (.int ((0 : Int32) + i1)), .unset] [(.ref b)]))
    refine own_via (fun _ k => XS.iconst X27.here hx rfl (hb hby at_155) k) ?_
    show own_G _ _ _ _ (T27.setTop (mkF m 156 #[.val (.int i0), .val (.int i1), .val (.int i2), .val (.int i3), .val (.int i4), .val (.int i5), .val (.int (1 : Int32)), .val (.ref b), .val (.int ((((i1 + (0 : Int32)) + (0 : Int32)) + (0 : Int32)) + (0 : Int32))), .val (.int ((0 : Int32) + i1)), .unset] [(.int (0 : Int32)), (.ref b)]))
    obtain ⟨cl29, Ar29, -, Sz29, Nn29, Hh29, -⟩ := id V_b
    have hin29 : ¬ ((0 : Int32) < 0 ∨ cl29.slots.size ≤ ((0 : Int32)).toNatClampNeg) := inb_of Sz29 ⟨by decide, by decide⟩
    have hat29 : cl29.slots[((0 : Int32)).toNatClampNeg]? = some (.int i1) := Has.at Hh29 hin29 rfl
    refine own_via (fun _ k => X27.iaload hx (j := (0 : Int32)) (v := (.int i1)) (by rw [e27]; exact Ar29.1) (State.isArrayOf_alike hZ.alike Ar29.2.1) Ar29.2.2 hin29 hat29 (g := (mkF m 156 #[.val (.int i0), .val (.int i1), .val (.int i2), .val (.int i3), .val (.int i4), .val (.int i5), .val (.int (1 : Int32)), .val (.ref b), .val (.int ((((i1 + (0 : Int32)) + (0 : Int32)) + (0 : Int32)) + (0 : Int32))), .val (.int ((0 : Int32) + i1)), .unset] [(.int (0 : Int32)), (.ref b)])) rfl rfl (hb hby at_156) _ k) ?_
    show own_G _ _ _ _ (T27.setTop (mkF m 157 #[.val (.int i0), .val (.int i1), .val (.int i2), .val (.int i3), .val (.int i4), .val (.int i5), .val (.int (1 : Int32)), .val (.ref b), .val (.int ((((i1 + (0 : Int32)) + (0 : Int32)) + (0 : Int32)) + (0 : Int32))), .val (.int ((0 : Int32) + i1)), .unset] [(.int i1)]))
    refine own_via (fun _ k => XS.iloadN X27.here hx rfl (hb hby at_157) rfl k) ?_
    show own_G _ _ _ _ (T27.setTop (mkF m 158 #[.val (.int i0), .val (.int i1), .val (.int i2), .val (.int i3), .val (.int i4), .val (.int i5), .val (.int (1 : Int32)), .val (.ref b), .val (.int ((((i1 + (0 : Int32)) + (0 : Int32)) + (0 : Int32)) + (0 : Int32))), .val (.int ((0 : Int32) + i1)), .unset] [(.int i1), (.int i1)]))
    refine own_via (fun _ k => XS.icmpNo X27.here hx rfl (hb hby at_158) rfl (teq rfl).2 k) ?_
    show own_G _ _ _ _ (T27.setTop (mkF m 161 #[.val (.int i0), .val (.int i1), .val (.int i2), .val (.int i3), .val (.int i4), .val (.int i5), .val (.int (1 : Int32)), .val (.ref b), .val (.int ((((i1 + (0 : Int32)) + (0 : Int32)) + (0 : Int32)) + (0 : Int32))), .val (.int ((0 : Int32) + i1)), .unset] []))
    refine own_via (fun _ k => XS.iload X27.here hx rfl (hb hby at_161) rfl k) ?_
    show own_G _ _ _ _ (T27.setTop (mkF m 163 #[.val (.int i0), .val (.int i1), .val (.int i2), .val (.int i3), .val (.int i4), .val (.int i5), .val (.int (1 : Int32)), .val (.ref b), .val (.int ((((i1 + (0 : Int32)) + (0 : Int32)) + (0 : Int32)) + (0 : Int32))), .val (.int ((0 : Int32) + i1)), .unset] [(.int (1 : Int32))]))
    refine own_via (fun _ k => XS.iconst X27.here hx rfl (hb hby at_163) k) ?_
    show own_G _ _ _ _ (T27.setTop (mkF m 164 #[.val (.int i0), .val (.int i1), .val (.int i2), .val (.int i3), .val (.int i4), .val (.int i5), .val (.int (1 : Int32)), .val (.ref b), .val (.int ((((i1 + (0 : Int32)) + (0 : Int32)) + (0 : Int32)) + (0 : Int32))), .val (.int ((0 : Int32) + i1)), .unset] [(.int (1 : Int32)), (.int (1 : Int32))]))
    refine own_via (fun _ k => XS.icmpYes X27.here hx rfl (pc0 := 164) (pc' := 175) rfl (hb hby at_164) rfl (flt (by decide)).2.2.2 (by decide) (by decide) k) ?_
    show own_G _ _ _ _ (T27.setTop (mkF m 175 #[.val (.int i0), .val (.int i1), .val (.int i2), .val (.int i3), .val (.int i4), .val (.int i5), .val (.int (1 : Int32)), .val (.ref b), .val (.int ((((i1 + (0 : Int32)) + (0 : Int32)) + (0 : Int32)) + (0 : Int32))), .val (.int ((0 : Int32) + i1)), .unset] []))
    refine own_via (fun _ k => XS.iload X27.here hx rfl (hb hby at_175) rfl k) ?_
    show own_G _ _ _ _ (T27.setTop (mkF m 177 #[.val (.int i0), .val (.int i1), .val (.int i2), .val (.int i3), .val (.int i4), .val (.int i5), .val (.int (1 : Int32)), .val (.ref b), .val (.int ((((i1 + (0 : Int32)) + (0 : Int32)) + (0 : Int32)) + (0 : Int32))), .val (.int ((0 : Int32) + i1)), .unset] [(.int (1 : Int32))]))
    refine own_via (fun _ k => XS.iconst X27.here hx rfl (hb hby at_177) k) ?_
    show own_G _ _ _ _ (T27.setTop (mkF m 178 #[.val (.int i0), .val (.int i1), .val (.int i2), .val (.int i3), .val (.int i4), .val (.int i5), .val (.int (1 : Int32)), .val (.ref b), .val (.int ((((i1 + (0 : Int32)) + (0 : Int32)) + (0 : Int32)) + (0 : Int32))), .val (.int ((0 : Int32) + i1)), .unset] [(.int (2 : Int32)), (.int (1 : Int32))]))
    refine own_via (fun _ k => XS.icmpYes X27.here hx rfl (pc0 := 178) (pc' := 189) rfl (hb hby at_178) rfl (flt (by decide)).2.2.2 (by decide) (by decide) k) ?_
    show own_G _ _ _ _ (T27.setTop (mkF m 189 #[.val (.int i0), .val (.int i1), .val (.int i2), .val (.int i3), .val (.int i4), .val (.int i5), .val (.int (1 : Int32)), .val (.ref b), .val (.int ((((i1 + (0 : Int32)) + (0 : Int32)) + (0 : Int32)) + (0 : Int32))), .val (.int ((0 : Int32) + i1)), .unset] []))
    refine own_via (fun _ k => XS.iload X27.here hx rfl (hb hby at_189) rfl k) ?_
    show own_G _ _ _ _ (T27.setTop (mkF m 191 #[.val (.int i0), .val (.int i1), .val (.int i2), .val (.int i3), .val (.int i4), .val (.int i5), .val (.int (1 : Int32)), .val (.ref b), .val (.int ((((i1 + (0 : Int32)) + (0 : Int32)) + (0 : Int32)) + (0 : Int32))), .val (.int ((0 : Int32) + i1)), .unset] [(.int (1 : Int32))]))
    refine own_via (fun _ k => XS.iconst X27.here hx rfl (hb hby at_191) k) ?_
    show own_G _ _ _ _ (T27.setTop (mkF m 192 #[.val (.int i0), .val (.int i1), .val (.int i2), .val (.int i3), .val (.int i4), .val (.int i5), .val (.int (1 : Int32)), .val (.ref b), .val (.int ((((i1 + (0 : Int32)) + (0 : Int32)) + (0 : Int32)) + (0 : Int32))), .val (.int ((0 : Int32) + i1)), .unset] [(.int (3 : Int32)), (.int (1 : Int32))]))
    refine own_via (fun _ k => XS.icmpYes X27.here hx rfl (pc0 := 192) (pc' := 204) rfl (hb hby at_192) rfl (flt (by decide)).2.2.2 (by decide) (by decide) k) ?_
    show own_G _ _ _ _ (T27.setTop (mkF m 204 #[.val (.int i0), .val (.int i1), .val (.int i2), .val (.int i3), .val (.int i4), .val (.int i5), .val (.int (1 : Int32)), .val (.ref b), .val (.int ((((i1 + (0 : Int32)) + (0 : Int32)) + (0 : Int32)) + (0 : Int32))), .val (.int ((0 : Int32) + i1)), .unset] []))
    refine own_via (fun _ k => XS.iload X27.here hx rfl (hb hby at_204) rfl k) ?_
    show own_G _ _ _ _ (T27.setTop (mkF m 206 #[.val (.int i0), .val (.int i1), .val (.int i2), .val (.int i3), .val (.int i4), .val (.int i5), .val (.int (1 : Int32)), .val (.ref b), .val (.int ((((i1 + (0 : Int32)) + (0 : Int32)) + (0 : Int32)) + (0 : Int32))), .val (.int ((0 : Int32) + i1)), .unset] [(.int (1 : Int32))]))
    refine own_via (fun _ k => XS.iconst X27.here hx rfl (hb hby at_206) k) ?_
    show own_G _ _ _ _ (T27.setTop (mkF m 207 #[.val (.int i0), .val (.int i1), .val (.int i2), .val (.int i3), .val (.int i4), .val (.int i5), .val (.int (1 : Int32)), .val (.ref b), .val (.int ((((i1 + (0 : Int32)) + (0 : Int32)) + (0 : Int32)) + (0 : Int32))), .val (.int ((0 : Int32) + i1)), .unset] [(.int (4 : Int32)), (.int (1 : Int32))]))
    refine own_via (fun _ k => XS.icmpYes X27.here hx rfl (pc0 := 207) (pc' := 219) rfl (hb hby at_207) rfl (flt (by decide)).2.2.2 (by decide) (by decide) k) ?_
    show own_G _ _ _ _ (T27.setTop (mkF m 219 #[.val (.int i0), .val (.int i1), .val (.int i2), .val (.int i3), .val (.int i4), .val (.int i5), .val (.int (1 : Int32)), .val (.ref b), .val (.int ((((i1 + (0 : Int32)) + (0 : Int32)) + (0 : Int32)) + (0 : Int32))), .val (.int ((0 : Int32) + i1)), .unset] []))
    refine own_via (fun _ k => XS.iconst X27.here hx rfl (hb hby at_219) k) ?_
    show own_G _ _ _ _ (T27.setTop (mkF m 220 #[.val (.int i0), .val (.int i1), .val (.int i2), .val (.int i3), .val (.int i4), .val (.int i5), .val (.int (1 : Int32)), .val (.ref b), .val (.int ((((i1 + (0 : Int32)) + (0 : Int32)) + (0 : Int32)) + (0 : Int32))), .val (.int ((0 : Int32) + i1)), .unset] [(.int (1 : Int32))]))
    refine own_via (fun _ k => XS.goto X27.here hx rfl (pc0 := 220) (pc' := 224) rfl (hb hby at_220) (by decide) (by decide) k) ?_
    show own_G _ _ _ _ (T27.setTop (mkF m 224 #[.val (.int i0), .val (.int i1), .val (.int i2), .val (.int i3), .val (.int i4), .val (.int i5), .val (.int (1 : Int32)), .val (.ref b), .val (.int ((((i1 + (0 : Int32)) + (0 : Int32)) + (0 : Int32)) + (0 : Int32))), .val (.int ((0 : Int32) + i1)), .unset] [(.int (1 : Int32))]))
    refine own_via (fun _ k => XS.istore X27.here hx rfl (hb hby at_224) rfl (l' := #[.val (.int i0), .val (.int i1), .val (.int i2), .val (.int i3), .val (.int i4), .val (.int i5), .val (.int (1 : Int32)), .val (.ref b), .val (.int ((((i1 + (0 : Int32)) + (0 : Int32)) + (0 : Int32)) + (0 : Int32))), .val (.int ((0 : Int32) + i1)), .val (.int (1 : Int32))]) rfl k) ?_
    show own_G _ _ _ _ (T27.setTop (mkF m 226 #[.val (.int i0), .val (.int i1), .val (.int i2), .val (.int i3), .val (.int i4), .val (.int i5), .val (.int (1 : Int32)), .val (.ref b), .val (.int ((((i1 + (0 : Int32)) + (0 : Int32)) + (0 : Int32)) + (0 : Int32))), .val (.int ((0 : Int32) + i1)), .val (.int (1 : Int32))] []))
    refine own_via (fun _ k => XS.iload X27.here hx rfl (hb hby at_226) rfl k) ?_
    show own_G _ _ _ _ (T27.setTop (mkF m 228 #[.val (.int i0), .val (.int i1), .val (.int i2), .val (.int i3), .val (.int i4), .val (.int i5), .val (.int (1 : Int32)), .val (.ref b), .val (.int ((((i1 + (0 : Int32)) + (0 : Int32)) + (0 : Int32)) + (0 : Int32))), .val (.int ((0 : Int32) + i1)), .val (.int (1 : Int32))] [(.int ((0 : Int32) + i1))]))
    refine own_via (fun _ k => XS.iload X27.here hx rfl (hb hby at_228) rfl k) ?_
    show own_G _ _ _ _ (T27.setTop (mkF m 230 #[.val (.int i0), .val (.int i1), .val (.int i2), .val (.int i3), .val (.int i4), .val (.int i5), .val (.int (1 : Int32)), .val (.ref b), .val (.int ((((i1 + (0 : Int32)) + (0 : Int32)) + (0 : Int32)) + (0 : Int32))), .val (.int ((0 : Int32) + i1)), .val (.int (1 : Int32))] [(.int ((((i1 + (0 : Int32)) + (0 : Int32)) + (0 : Int32)) + (0 : Int32))), (.int ((0 : Int32) + i1))]))
    refine own_via (fun _ k => XS.icmpNo X27.here hx rfl (hb hby at_230) rfl (teq (by simp [Int32.zero_add, Int32.add_zero])).2 k) ?_
    show own_G _ _ _ _ (T27.setTop (mkF m 233 #[.val (.int i0), .val (.int i1), .val (.int i2), .val (.int i3), .val (.int i4), .val (.int i5), .val (.int (1 : Int32)), .val (.ref b), .val (.int ((((i1 + (0 : Int32)) + (0 : Int32)) + (0 : Int32)) + (0 : Int32))), .val (.int ((0 : Int32) + i1)), .val (.int (1 : Int32))] []))
    refine own_via (fun _ k => XS.iload X27.here hx rfl (hb hby at_233) rfl k) ?_
    show own_G _ _ _ _ (T27.setTop (mkF m 235 #[.val (.int i0), .val (.int i1), .val (.int i2), .val (.int i3), .val (.int i4), .val (.int i5), .val (.int (1 : Int32)), .val (.ref b), .val (.int ((((i1 + (0 : Int32)) + (0 : Int32)) + (0 : Int32)) + (0 : Int32))), .val (.int ((0 : Int32) + i1)), .val (.int (1 : Int32))] [(.int (1 : Int32))]))
    refine own_via (fun _ k => XS.ifNo X27.here hx rfl (hb hby at_235) rfl ((if0 _ _).trans (feq (by decide)).1) k) ?_
    show own_G _ _ _ _ (T27.setTop (mkF m 238 #[.val (.int i0), .val (.int i1), .val (.int i2), .val (.int i3), .val (.int i4), .val (.int i5), .val (.int (1 : Int32)), .val (.ref b), .val (.int ((((i1 + (0 : Int32)) + (0 : Int32)) + (0 : Int32)) + (0 : Int32))), .val (.int ((0 : Int32) + i1)), .val (.int (1 : Int32))] []))
    refine own_via (fun _ k => XS.iconst X27.here hx rfl (hb hby at_238) k) ?_
    show own_G _ _ _ _ (T27.setTop (mkF m 239 #[.val (.int i0), .val (.int i1), .val (.int i2), .val (.int i3), .val (.int i4), .val (.int i5), .val (.int (1 : Int32)), .val (.ref b), .val (.int ((((i1 + (0 : Int32)) + (0 : Int32)) + (0 : Int32)) + (0 : Int32))), .val (.int ((0 : Int32) + i1)), .val (.int (1 : Int32))] [(.int (1 : Int32))]))
    refine own_via (fun _ k => XS.goto X27.here hx rfl (pc0 := 239) (pc' := 243) rfl (hb hby at_239) (by decide) (by decide) k) ?_
    show own_G _ _ _ _ (T27.setTop (mkF m 243 #[.val (.int i0), .val (.int i1), .val (.int i2), .val (.int i3), .val (.int i4), .val (.int i5), .val (.int (1 : Int32)), .val (.ref b), .val (.int ((((i1 + (0 : Int32)) + (0 : Int32)) + (0 : Int32)) + (0 : Int32))), .val (.int ((0 : Int32) + i1)), .val (.int (1 : Int32))] [(.int (1 : Int32))]))
    obtain ⟨fs, hr, hrun, hended, hW, hsame⟩ := X27.leave (v := some (.int (1 : Int32))) (fun h => by rw [Bd.returns] at h; cases h)
    exact ⟨_, _, retN X27 hx (t := .boolean) Bd.returns (by simp) (hb hby at_243) hr, hrun, hended, _, _, rfl, ⟨rfl, N27⟩, ⟨_, rfl⟩, hW, hsame.mono (by decide) (by decide)⟩
  · show own_G _ _ _ _ (s₁.setTop (mkF m 9 #[.val (.int i0), .val (.int i1), .val (.int i2), .val (.int i3), .val (.int i4), .val (.int i5), .val (.int (2 : Int32)), .unset, .unset, .unset, .unset] []))
    refine own_via (fun _ k => XS.iload X0.here hx rfl (hb hby at_9) rfl k) ?_
    show own_G _ _ _ _ (s₁.setTop (mkF m 11 #[.val (.int i0), .val (.int i1), .val (.int i2), .val (.int i3), .val (.int i4), .val (.int i5), .val (.int (2 : Int32)), .unset, .unset, .unset, .unset] [(.int (2 : Int32))]))
    obtain ⟨T30, h30, k_b, X30, e30, E30, A30, st30⟩ := newP X0 hx hZ (hw _ (List.mem_of_getElem? (i := 1) rfl)) e0 (g := (mkF m 11 #[.val (.int i0), .val (.int i1), .val (.int i2), .val (.int i3), .val (.int i4), .val (.int i5), .val (.int (2 : Int32)), .unset, .unset, .unset, .unset] [(.int (2 : Int32))])) rfl (hb hby at_11) rfl (by decide) (cap := 2) (by decide) (by decide) (by decide) (by decide)
    obtain ⟨b, g30⟩ : ∃ z, z = h0.size := ⟨_, rfl⟩
    rw [← g30] at A30 st30
    have g_b : n0 ≤ b := Nat.le_trans Z0 (Nat.le_of_eq g30.symm)
    have Z0 := Nat.le_trans Z0 E30.1
    have V_b : Arv Z h30 b k_b .int (2 : Int32) [(.int (0 : Int32)), (.int (0 : Int32))] (.int (0 : Int32)) := (Arv.new A30 (by decide)).pad (pad_rep [] (.int (0 : Int32)) 2)
    refine own_via st30 ?_
    show own_G _ _ _ _ (T30.setTop (mkF m 13 #[.val (.int i0), .val (.int i1), .val (.int i2), .val (.int i3), .val (.int i4), .val (.int i5), .val (.int (2 : Int32)), .unset, .unset, .unset, .unset] [(.ref b)]))
    refine own_via (fun _ k => XS.astore X30.here hx rfl (hb hby at_13) rfl rfl (l' := #[.val (.int i0), .val (.int i1), .val (.int i2), .val (.int i3), .val (.int i4), .val (.int i5), .val (.int (2 : Int32)), .val (.ref b), .unset, .unset, .unset]) rfl k) ?_
    show own_G _ _ _ _ (T30.setTop (mkF m 15 #[.val (.int i0), .val (.int i1), .val (.int i2), .val (.int i3), .val (.int i4), .val (.int i5), .val (.int (2 : Int32)), .val (.ref b), .unset, .unset, .unset] []))
    refine own_via (fun _ k => XS.iload X30.here hx rfl (hb hby at_15) rfl k) ?_
    show own_G _ _ _ _ (T30.setTop (mkF m 17 #[.val (.int i0), .val (.int i1), .val (.int i2), .val (.int i3), .val (.int i4), .val (.int i5), .val (.int (2 : Int32)), .val (.ref b), .unset, .unset, .unset] [(.int (2 : Int32))]))
    refine own_via (fun _ k => XS.ifNo X30.here hx rfl (hb hby at_17) rfl ((if0 _ _).trans (tlt (by decide)).2.2.2) k) ?_
    show own_G _ _ _ _ (T30.setTop (mkF m 20 #[.val (.int i0), .val (.int i1), .val (.int i2), .val (.int i3), .val (.int i4), .val (.int i5), .val (.int (2 : Int32)), .val (.ref b), .unset, .unset, .unset] []))
    refine own_via (fun _ k => XS.aload X30.here hx rfl (hb hby at_20) rfl rfl k) ?_
    show own_G _ _ _ _ (T30.setTop (mkF m 22 #[.val (.int i0), .val (.int i1), .val (.int i2), .val (.int i3), .val (.int i4), .val (.int i5), .val (.int (2 : Int32)), .val (.ref b), .unset, .unset, .unset] [(.ref b)]))
    refine own_via (fun _ k => XS.iconst X30.here hx rfl (hb hby at_22) k) ?_
    show own_G _ _ _ _ (T30.setTop (mkF m 23 #[.val (.int i0), .val (.int i1), .val (.int i2), .val (.int i3), .val (.int i4), .val (.int i5), .val (.int (2 : Int32)), .val (.ref b), .unset, .unset, .unset] [(.int (0 : Int32)), (.ref b)]))
    refine own_via (fun _ k => XS.iloadN X30.here hx rfl (hb hby at_23) rfl k) ?_
    show own_G _ _ _ _ (T30.setTop (mkF m 24 #[.val (.int i0), .val (.int i1), .val (.int i2), .val (.int i3), .val (.int i4), .val (.int i5), .val (.int (2 : Int32)), .val (.ref b), .unset, .unset, .unset] [(.int i1), (.int (0 : Int32)), (.ref b)]))
    obtain ⟨cl_b, Ar_b, q_b, S_b, Nn_b, H_b, G_b⟩ := V_b
    have hin31 : ¬ ((0 : Int32) < 0 ∨ cl_b.slots.size ≤ ((0 : Int32)).toNatClampNeg) := inb_of S_b ⟨by decide, by decide⟩
    obtain ⟨T31, h31, X31, e31, W31, st31⟩ := stI X30 hx hZ e30 Ar_b (j := (0 : Int32)) hin31 (g := (mkF m 24 #[.val (.int i0), .val (.int i1), .val (.int i2), .val (.int i3), .val (.int i4), .val (.int i5), .val (.int (2 : Int32)), .val (.ref b), .unset, .unset, .unset] [(.int i1), (.int (0 : Int32)), (.ref b)])) rfl rfl (hb hby at_24)
    have V_b : Arv Z h31 b k_b .int (2 : Int32) [(.int i1), (.int (0 : Int32))] (.int (0 : Int32)) := Arv.set Ar_b q_b S_b Nn_b H_b G_b rfl W31 0 rfl (Nat.le_of_ble_eq_true rfl)
    have Z0 := Nat.le_trans Z0 (Keep.of_wr W31).1
    have N31 := Fr.snoc X31 N0 g_b
    refine own_via st31 ?_
    show own_G _ _ _ _ (T31.setTop (mkF m 25 #[.val (.int i0), .val (.int i1), .val (.int i2), .val (.int i3), .val (.int i4), .val (.int i5), .val (.int (2 : Int32)), .val (.ref b), .unset, .unset, .unset] []))
    refine own_via (fun _ k => XS.iload X31.here hx rfl (hb hby at_25) rfl k) ?_
    show own_G _ _ _ _ (T31.setTop (mkF m 27 #[.val (.int i0), .val (.int i1), .val (.int i2), .val (.int i3), .val (.int i4), .val (.int i5), .val (.int (2 : Int32)), .val (.ref b), .unset, .unset, .unset] [(.int (2 : Int32))]))
    refine own_via (fun _ k => XS.iconst X31.here hx rfl (hb hby at_27) k) ?_
    show own_G _ _ _ _ (T31.setTop (mkF m 28 #[.val (.int i0), .val (.int i1), .val (.int i2), .val (.int i3), .val (.int i4), .val (.int i5), .val (.int (2 : Int32)), .val (.ref b), .unset, .unset, .unset] [(.int (1 : Int32)), (.int (2 : Int32))]))
    refine own_via (fun _ k => XS.icmpNo X31.here hx rfl (hb hby at_28) rfl (tlt (by decide)).2.2.2 k) ?_
    show own_G _ _ _ _ (T31.setTop (mkF m 31 #[.val (.int i0), .val (.int i1), .val (.int i2), .val (.int i3), .val (.int i4), .val (.int i5), .val (.int (2 : Int32)), .val (.ref b), .unset, .unset, .unset] []))
    refine own_via (fun _ k => XS.aload X31.here hx rfl (hb hby at_31) rfl rfl k) ?_
    show own_G _ _ _ _ (T31.setTop (mkF m 33 #[.val (.int i0), .val (.int i1), .val (.int i2), .val (.int i3), .val (.int i4), .val (.int i5), .val (.int (2 : Int32)), .val (.ref b), .unset, .unset, .unset] [(.ref b)]))
    refine own_via (fun _ k => XS.iconst X31.here hx rfl (hb hby at_33) k) ?_
    show own_G _ _ _ _ (T31.setTop (mkF m 34 #[.val (.int i0), .val (.int i1), .val (.int i2), .val (.int i3), .val (.int i4), .val (.int i5), .val (.int (2 : Int32)), .val (.ref b), .unset, .unset, .unset] [(.int (1 : Int32)), (.ref b)]))
    refine own_via (fun _ k => XS.iloadN X31.here hx rfl (hb hby at_34) rfl k) ?_
    show own_G _ _ _ _ (T31.setTop (mkF m 35 #[.val (.int i0), .val (.int i1), .val (.int i2), .val (.int i3), .val (.int i4), .val (.int i5), .val (.int (2 : Int32)), .val (.ref b), .unset, .unset, .unset] [(.int i2), (.int (1 : Int32)), (.ref b)]))
    obtain ⟨cl_b, Ar_b, q_b, S_b, Nn_b, H_b, G_b⟩ := V_b
    have hin32 : ¬ ((1 : Int32) < 0 ∨ cl_b.slots.size ≤ ((1 : Int32)).toNatClampNeg) := inb_of S_b ⟨by decide, by decide⟩
    obtain ⟨T32, h32, X32, e32, W32, st32⟩ := stI X31 hx hZ e31 Ar_b (j := (1 : Int32)) hin32 (g := (mkF m 35 #[.val (.int i0), .val (.int i1), .val (.int i2), .val (.int i3), .val (.int i4), .val (.int i5), .val (.int (2 : Int32)), .val (.ref b), .unset, .unset, .unset] [(.int i2), (.int (1 : Int32)), (.ref b)])) rfl rfl (hb hby at_35)
    have V_b : Arv Z h32 b k_b .int (2 : Int32) [(.int i1), (.int i2)] (.int (0 : Int32)) := Arv.set Ar_b q_b S_b Nn_b H_b G_b rfl W32 1 rfl (Nat.le_of_ble_eq_true rfl)
    have Z0 := Nat.le_trans Z0 (Keep.of_wr W32).1
    have N32 := Fr.snoc X32 N31 g_b
    refine own_via st32 ?_
    show own_G _ _ _ _ (T32.setTop (mkF m 36 #[.val (.int i0), .val (.int i1), .val (.int i2), .val (.int i3), .val (.int i4), .val (.int i5), .val (.int (2 : Int32)), .val (.ref b), .unset, .unset, .unset] []))
    refine own_via (fun _ k => XS.iload X32.here hx rfl (hb hby at_36) rfl k) ?_
    show own_G _ _ _ _ (T32.setTop (mkF m 38 #[.val (.int i0), .val (.int i1), .val (.int i2), .val (.int i3), .val (.int i4), .val (.int i5), .val (.int (2 : Int32)), .val (.ref b), .unset, .unset, .unset] [(.int (2 : Int32))]))
    refine own_via (fun _ k => XS.iconst X32.here hx rfl (hb hby at_38) k) ?_
    show own_G _ _ _ _ (T32.setTop (mkF m 39 #[.val (.int i0), .val (.int i1), .val (.int i2), .val (.int i3), .val (.int i4), .val (.int i5), .val (.int (2 : Int32)), .val (.ref b), .unset, .unset, .unset] [(.int (2 : Int32)), (.int (2 : Int32))]))
    refine own_via (fun _ k => XS.icmpYes X32.here hx rfl (pc0 := 39) (pc' := 47) rfl (hb hby at_39) rfl (flt (by decide)).2.2.2 (by decide) (by decide) k) ?_
    show own_G _ _ _ _ (T32.setTop (mkF m 47 #[.val (.int i0), .val (.int i1), .val (.int i2), .val (.int i3), .val (.int i4), .val (.int i5), .val (.int (2 : Int32)), .val (.ref b), .unset, .unset, .unset] []))
    refine own_via (fun _ k => XS.iload X32.here hx rfl (hb hby at_47) rfl k) ?_
    show own_G _ _ _ _ (T32.setTop (mkF m 49 #[.val (.int i0), .val (.int i1), .val (.int i2), .val (.int i3), .val (.int i4), .val (.int i5), .val (.int (2 : Int32)), .val (.ref b), .unset, .unset, .unset] [(.int (2 : Int32))]))
    refine own_via (fun _ k => XS.iconst X32.here hx rfl (hb hby at_49) k) ?_
    show own_G _ _ _ _ (T32.setTop (mkF m 50 #[.val (.int i0), .val (.int i1), .val (.int i2), .val (.int i3), .val (.int i4), .val (.int i5), .val (.int (2 : Int32)), .val (.ref b), .unset, .unset, .unset] [(.int (3 : Int32)), (.int (2 : Int32))]))
    refine own_via (fun _ k => XS.icmpYes X32.here hx rfl (pc0 := 50) (pc' := 59) rfl (hb hby at_50) rfl (flt (by decide)).2.2.2 (by decide) (by decide) k) ?_
    show own_G _ _ _ _ (T32.setTop (mkF m 59 #[.val (.int i0), .val (.int i1), .val (.int i2), .val (.int i3), .val (.int i4), .val (.int i5), .val (.int (2 : Int32)), .val (.ref b), .unset, .unset, .unset] []))
    refine own_via (fun _ k => XS.iload X32.here hx rfl (hb hby at_59) rfl k) ?_
    show own_G _ _ _ _ (T32.setTop (mkF m 61 #[.val (.int i0), .val (.int i1), .val (.int i2), .val (.int i3), .val (.int i4), .val (.int i5), .val (.int (2 : Int32)), .val (.ref b), .unset, .unset, .unset] [(.int (2 : Int32))]))
    refine own_via (fun _ k => XS.iconst X32.here hx rfl (hb hby at_61) k) ?_
    show own_G _ _ _ _ (T32.setTop (mkF m 62 #[.val (.int i0), .val (.int i1), .val (.int i2), .val (.int i3), .val (.int i4), .val (.int i5), .val (.int (2 : Int32)), .val (.ref b), .unset, .unset, .unset] [(.int (4 : Int32)), (.int (2 : Int32))]))
    refine own_via (fun _ k => XS.icmpYes X32.here hx rfl (pc0 := 62) (pc' := 71) rfl (hb hby at_62) rfl (flt (by decide)).2.2.2 (by decide) (by decide) k) ?_
    show own_G _ _ _ _ (T32.setTop (mkF m 71 #[.val (.int i0), .val (.int i1), .val (.int i2), .val (.int i3), .val (.int i4), .val (.int i5), .val (.int (2 : Int32)), .val (.ref b), .unset, .unset, .unset] []))
    refine own_via (fun _ k => XS.iload X32.here hx rfl (hb hby at_71) rfl k) ?_
    show own_G _ _ _ _ (T32.setTop (mkF m 73 #[.val (.int i0), .val (.int i1), .val (.int i2), .val (.int i3), .val (.int i4), .val (.int i5), .val (.int (2 : Int32)), .val (.ref b), .unset, .unset, .unset] [(.int (2 : Int32))]))
    refine own_via (fun _ k => XS.ifNo X32.here hx rfl (hb hby at_73) rfl ((if0 _ _).trans (tlt (by decide)).2.2.2) k) ?_
    show own_G _ _ _ _ (T32.setTop (mkF m 76 #[.val (.int i0), .val (.int i1), .val (.int i2), .val (.int i3), .val (.int i4), .val (.int i5), .val (.int (2 : Int32)), .val (.ref b), .unset, .unset, .unset] []))
    refine own_via (fun _ k => XS.iloadN X32.here hx rfl (hb hby at_76) rfl k) ?_
    show own_G _ _ _ _ (T32.setTop (mkF m 77 #[.val (.int i0), .val (.int i1), .val (.int i2), .val (.int i3), .val (.int i4), .val (.int i5), .val (.int (2 : Int32)), .val (.ref b), .unset, .unset, .unset] [(.int i1)]))
    refine own_via (fun _ k => XS.goto X32.here hx rfl (pc0 := 77) (pc' := 81) rfl (hb hby at_77) (by decide) (by decide) k) ?_
    show own_G _ _ _ _ (T32.setTop (mkF m 81 #[.val (.int i0), .val (.int i1), .val (.int i2), .val (.int i3), .val (.int i4), .val (.int i5), .val (.int (2 : Int32)), .val (.ref b), .unset, .unset, .unset] [(.int i1)]))
    refine own_via (fun _ k => XS.iload X32.here hx rfl (hb hby at_81) rfl k) ?_
    show own_G _ _ _ _ (T32.setTop (mkF m 83 #[.val (.int i0), .val (.int i1), .val (.int i2), .val (.int i3), .val (.int i4), .val (.int i5), .val (.int (2 : Int32)), .val (.ref b), .unset, .unset, .unset] [(.int (2 : Int32)), (.int i1)]))
    refine own_via (fun _ k => XS.iconst X32.here hx rfl (hb hby at_83) k) ?_
    show own_G _ _ _ _ (T32.setTop (mkF m 84 #[.val (.int i0), .val (.int i1), .val (.int i2), .val (.int i3), .val (.int i4), .val (.int i5), .val (.int (2 : Int32)), .val (.ref b), .unset, .unset, .unset] [(.int (1 : Int32)), (.int (2 : Int32)), (.int i1)]))
    refine own_via (fun _ k => XS.icmpNo X32.here hx rfl (hb hby at_84) rfl (tlt (by decide)).2.2.2 k) ?_
    show own_G _ _ _ _ (T32.setTop (mkF m 87 #[.val (.int i0), .val (.int i1), .val (.int i2), .val (.int i3), .val (.int i4), .val (.int i5), .val (.int (2 : Int32)), .val (.ref b), .unset, .unset, .unset] [(.int i1)]))
    refine own_via (fun _ k => XS.iloadN X32.here hx rfl (hb hby at_87) rfl k) ?_
    show own_G _ _ _ _ (T32.setTop (mkF m 88 #[.val (.int i0), .val (.int i1), .val (.int i2), .val (.int i3), .val (.int i4), .val (.int i5), .val (.int (2 : Int32)), .val (.ref b), .unset, .unset, .unset] [(.int i2), (.int i1)]))
    refine own_via (fun _ k => XS.goto X32.here hx rfl (pc0 := 88) (pc' := 92) rfl (hb hby at_88) (by decide) (by decide) k) ?_
    show own_G _ _ _ _ (T32.setTop (mkF m 92 #[.val (.int i0), .val (.int i1), .val (.int i2), .val (.int i3), .val (.int i4), .val (.int i5), .val (.int (2 : Int32)), .val (.ref b), .unset, .unset, .unset] [(.int i2), (.int i1)]))
    refine own_via (fun _ k => XS.iadd X32.here hx rfl (hb hby at_92) rfl k) ?_
    show own_G _ _ _ _ (T32.setTop (mkF m 93 #[.val (.int i0), .val (.int i1), .val (.int i2), .val (.int i3), .val (.int i4), .val (.int i5), .val (.int (2 : Int32)), .val (.ref b), .unset, .unset, .unset] [(.int (i1 + i2))]))
    refine own_via (fun _ k => XS.iload X32.here hx rfl (hb hby at_93) rfl k) ?_
    show own_G _ _ _ _ (T32.setTop (mkF m 95 #[.val (.int i0), .val (.int i1), .val (.int i2), .val (.int i3), .val (.int i4), .val (.int i5), .val (.int (2 : Int32)), .val (.ref b), .unset, .unset, .unset] [(.int (2 : Int32)), (.int (i1 + i2))]))
    refine own_via (fun _ k => XS.iconst X32.here hx rfl (hb hby at_95) k) ?_
    show own_G _ _ _ _ (T32.setTop (mkF m 96 #[.val (.int i0), .val (.int i1), .val (.int i2), .val (.int i3), .val (.int i4), .val (.int i5), .val (.int (2 : Int32)), .val (.ref b), .unset, .unset, .unset] [(.int (2 : Int32)), (.int (2 : Int32)), (.int (i1 + i2))]))
    refine own_via (fun _ k => XS.icmpYes X32.here hx rfl (pc0 := 96) (pc' := 103) rfl (hb hby at_96) rfl (flt (by decide)).2.2.2 (by decide) (by decide) k) ?_
    show own_G _ _ _ _ (T32.setTop (mkF m 103 #[.val (.int i0), .val (.int i1), .val (.int i2), .val (.int i3), .val (.int i4), .val (.int i5), .val (.int (2 : Int32)), .val (.ref b), .unset, .unset, .unset] [(.int (i1 + i2))]))
    refine own_via (fun _ k => XS.iconst X32.here hx rfl (hb hby at_103) k) ?_
    show own_G _ _ _ _ (T32.setTop (mkF m 104 #[.val (.int i0), .val (.int i1), .val (.int i2), .val (.int i3), .val (.int i4), .val (.int i5), .val (.int (2 : Int32)), .val (.ref b), .unset, .unset, .unset] [(.int (0 : Int32)), (.int (i1 + i2))]))
    refine own_via (fun _ k => XS.iadd X32.here hx rfl (hb hby at_104) rfl k) ?_
    show own_G _ _ _ _ (T32.setTop (mkF m 105 #[.val (.int i0), .val (.int i1), .val (.int i2), .val (.int i3), .val (.int i4), .val (.int i5), .val (.int (2 : Int32)), .val (.ref b), .unset, .unset, .unset] [(.int ((i1 + i2) + (0 : Int32)))]))
    refine own_via (fun _ k => XS.iload X32.here hx rfl (hb hby at_105) rfl k) ?_
    show own_G _ _ _ _ (T32.setTop (mkF m 107 #[.val (.int i0), .val (.int i1), .val (.int i2), .val (.int i3), .val (.int i4), .val (.int i5), .val (.int (2 : Int32)), .val (.ref b), .unset, .unset, .unset] [(.int (2 : Int32)), (.int ((i1 + i2) + (0 : Int32)))]))
    refine own_via (fun _ k => XS.iconst X32.here hx rfl (hb hby at_107) k) ?_
    show own_G _ _ _ _ (T32.setTop (mkF m 108 #[.val (.int i0), .val (.int i1), .val (.int i2), .val (.int i3), .val (.int i4), .val (.int i5), .val (.int (2 : Int32)), .val (.ref b), .unset, .unset, .unset] [(.int (3 : Int32)), (.int (2 : Int32)), (.int ((i1 + i2) + (0 : Int32)))]))
    refine own_via (fun _ k => XS.icmpYes X32.here hx rfl (pc0 := 108) (pc' := 116) rfl (hb hby at_108) rfl (flt (by decide)).2.2.2 (by decide) (by decide) k) ?_
    show own_G _ _ _ _ (T32.setTop (mkF m 116 #[.val (.int i0), .val (.int i1), .val (.int i2), .val (.int i3), .val (.int i4), .val (.int i5), .val (.int (2 : Int32)), .val (.ref b), .unset, .unset, .unset] [(.int ((i1 + i2) + (0 : Int32)))]))
    refine own_via (fun _ k => XS.iconst X32.here hx rfl (hb hby at_116) k) ?_
    show own_G _ _ _ _ (T32.setTop (mkF m 117 #[.val (.int i0), .val (.int i1), .val (.int i2), .val (.int i3), .val (.int i4), .val (.int i5), .val (.int (2 : Int32)), .val (.ref b), .unset, .unset, .unset] [(.int (0 : Int32)), (.int ((i1 + i2) + (0 : Int32)))]))
    refine own_via (fun _ k => XS.iadd X32.here hx rfl (hb hby at_117) rfl k) ?_
    show own_G _ _ _ _ (T32.setTop (mkF m 118 #[.val (.int i0), .val (.int i1), .val (.int i2), .val (.int i3), .val (.int i4), .val (.int i5), .val (.int (2 : Int32)), .val (.ref b), .unset, .unset, .unset] [(.int (((i1 + i2) + (0 : Int32)) + (0 : Int32)))]))
    refine own_via (fun _ k => XS.iload X32.here hx rfl (hb hby at_118) rfl k) ?_
    show own_G _ _ _ _ (T32.setTop (mkF m 120 #[.val (.int i0), .val (.int i1), .val (.int i2), .val (.int i3), .val (.int i4), .val (.int i5), .val (.int (2 : Int32)), .val (.ref b), .unset, .unset, .unset] [(.int (2 : Int32)), (.int (((i1 + i2) + (0 : Int32)) + (0 : Int32)))]))
    refine own_via (fun _ k => XS.iconst X32.here hx rfl (hb hby at_120) k) ?_
    show own_G _ _ _ _ (T32.setTop (mkF m 121 #[.val (.int i0), .val (.int i1), .val (.int i2), .val (.int i3), .val (.int i4), .val (.int i5), .val (.int (2 : Int32)), .val (.ref b), .unset, .unset, .unset] [(.int (4 : Int32)), (.int (2 : Int32)), (.int (((i1 + i2) + (0 : Int32)) + (0 : Int32)))]))
    refine own_via (fun _ k => XS.icmpYes X32.here hx rfl (pc0 := 121) (pc' := 129) rfl (hb hby at_121) rfl (flt (by decide)).2.2.2 (by decide) (by decide) k) ?_
    show own_G _ _ _ _ (T32.setTop (mkF m 129 #[.val (.int i0), .val (.int i1), .val (.int i2), .val (.int i3), .val (.int i4), .val (.int i5), .val (.int (2 : Int32)), .val (.ref b), .unset, .unset, .unset] [(.int (((i1 + i2) + (0 : Int32)) + (0 : Int32)))]))
    refine own_via (fun _ k => XS.iconst X32.here hx rfl (hb hby at_129) k) ?_
    show own_G _ _ _ _ (T32.setTop (mkF m 130 #[.val (.int i0), .val (.int i1), .val (.int i2), .val (.int i3), .val (.int i4), .val (.int i5), .val (.int (2 : Int32)), .val (.ref b), .unset, .unset, .unset] [(.int (0 : Int32)), (.int (((i1 + i2) + (0 : Int32)) + (0 : Int32)))]))
    refine own_via (fun _ k => XS.iadd X32.here hx rfl (hb hby at_130) rfl k) ?_
    show own_G _ _ _ _ (T32.setTop (mkF m 131 #[.val (.int i0), .val (.int i1), .val (.int i2), .val (.int i3), .val (.int i4), .val (.int i5), .val (.int (2 : Int32)), .val (.ref b), .unset, .unset, .unset] [(.int ((((i1 + i2) + (0 : Int32)) + (0 : Int32)) + (0 : Int32)))]))
    refine own_via (fun _ k => XS.istore X32.here hx rfl (hb hby at_131) rfl (l' := #[.val (.int i0), .val (.int i1), .val (.int i2), .val (.int i3), .val (.int i4), .val (.int i5), .val (.int (2 : Int32)), .val (.ref b), .val (.int ((((i1 + i2) + (0 : Int32)) + (0 : Int32)) + (0 : Int32))), .unset, .unset]) rfl k) ?_
    show own_G _ _ _ _ (T32.setTop (mkF m 133 #[.val (.int i0), .val (.int i1), .val (.int i2), .val (.int i3), .val (.int i4), .val (.int i5), .val (.int (2 : Int32)), .val (.ref b), .val (.int ((((i1 + i2) + (0 : Int32)) + (0 : Int32)) + (0 : Int32))), .unset, .unset] []))
    refine own_via (fun _ k => XS.aload X32.here hx rfl (hb hby at_133) rfl rfl k) ?_
    show own_G _ _ _ _ (T32.setTop (mkF m 135 #[.val (.int i0), .val (.int i1), .val (.int i2), .val (.int i3), .val (.int i4), .val (.int i5), .val (.int (2 : Int32)), .val (.ref b), .val (.int ((((i1 + i2) + (0 : Int32)) + (0 : Int32)) + (0 : Int32))), .unset, .unset] [(.ref b)]))
    obtain ⟨_, _, ⟨T33, L33, k33, n33⟩, -, X33, ⟨Lc33, hQ33, l33, y33, z33⟩, st33⟩ := Jvm.LawKit.callS X32 hx (y := (⟨"com/example/vanon/vanon/lattice/Lattice", "height", "([I)I"⟩ : MethodName)) hown (mvT hZ (hw _ (List.mem_of_getElem? (i := 2) rfl))) (mvT hZ (hw _ (List.mem_of_getElem? (i := 3) rfl))) (mvT hZ (hw _ (List.mem_of_getElem? (i := 4) rfl))) (mvT hZ (hw _ (List.mem_of_getElem? (i := 5) rfl))) (by decide) (backOf (W := 0) (rmh2 l Z a0 hw [] b k_b i1 i2 h32 n0 Z0 V_b) hZ (hw _ (List.mem_of_getElem? (i := 5) rfl)) (hw _ (List.mem_of_getElem? (i := 4) rfl)) (by decide) (by decide)) (g := (mkF m 135 #[.val (.int i0), .val (.int i1), .val (.int i2), .val (.int i3), .val (.int i4), .val (.int i5), .val (.int (2 : Int32)), .val (.ref b), .val (.int ((((i1 + i2) + (0 : Int32)) + (0 : Int32)) + (0 : Int32))), .unset, .unset] [(.ref b)])) rfl (by rw [hml]; rfl) (argsL := [(.ref b)]) (rest := []) (lenOf pd_0 rfl) rfl (by show 2 * 0 + _ ≤ _; exact Nat.le_of_eq rfl) (hb hby at_135) (fun _ _ => ⟨rfl, e32, Nat.le_of_ble_eq_true rfl, Nat.le_of_ble_eq_true rfl⟩)
    dsimp only [Pt.U, Pt.locs, Pt.cells, Pt.slots] at X33 l33 y33 z33 st33 hQ33
    subst l33 y33 z33
    obtain ⟨rfl, N33q, e33⟩ := hQ33
    have N33 := Fr.app N32 N33q
    refine own_via st33 ?_
    show own_G _ _ _ _ (T33.setTop (mkF m 138 #[.val (.int i0), .val (.int i1), .val (.int i2), .val (.int i3), .val (.int i4), .val (.int i5), .val (.int (2 : Int32)), .val (.ref b), .val (.int ((((i1 + i2) + (0 : Int32)) + (0 : Int32)) + (0 : Int32))), .unset, .unset] [(.int (((0 : Int32) + i1) + i2))]))
    refine own_via (fun _ k => XS.istore X33.here hx rfl (hb hby at_138) rfl (l' := #[.val (.int i0), .val (.int i1), .val (.int i2), .val (.int i3), .val (.int i4), .val (.int i5), .val (.int (2 : Int32)), .val (.ref b), .val (.int ((((i1 + i2) + (0 : Int32)) + (0 : Int32)) + (0 : Int32))), .val (.int (((0 : Int32) + i1) + i2)), .unset]) rfl k) ?_
    show own_G _ _ _ _ (T33.setTop (mkF m 140 #[.val (.int i0), .val (.int i1), .val (.int i2), .val (.int i3), .val (.int i4), .val (.int i5), .val (.int (2 : Int32)), .val (.ref b), .val (.int ((((i1 + i2) + (0 : Int32)) + (0 : Int32)) + (0 : Int32))), .val (.int (((0 : Int32) + i1) + i2)), .unset] []))
    refine own_via (fun _ k => XS.aload X33.here hx rfl (hb hby at_140) rfl rfl k) ?_
    show own_G _ _ _ _ (T33.setTop (mkF m 142 #[.val (.int i0), .val (.int i1), .val (.int i2), .val (.int i3), .val (.int i4), .val (.int i5), .val (.int (2 : Int32)), .val (.ref b), .val (.int ((((i1 + i2) + (0 : Int32)) + (0 : Int32)) + (0 : Int32))), .val (.int (((0 : Int32) + i1) + i2)), .unset] [(.ref b)]))
    obtain ⟨cl34, Ar34, -, Sz34, Nn34, -, -⟩ := id V_b
    refine own_via (fun _ k => X33.arraylength hx (by rw [e33]; exact Ar34.1) (State.isArrayOf_alike hZ.alike Ar34.2.1) (g := (mkF m 142 #[.val (.int i0), .val (.int i1), .val (.int i2), .val (.int i3), .val (.int i4), .val (.int i5), .val (.int (2 : Int32)), .val (.ref b), .val (.int ((((i1 + i2) + (0 : Int32)) + (0 : Int32)) + (0 : Int32))), .val (.int (((0 : Int32) + i1) + i2)), .unset] [(.ref b)])) rfl rfl (hb hby at_142) _ k) ?_
    rw [len_of Sz34 Nn34]
    show own_G _ _ _ _ (T33.setTop (mkF m 143 #[.val (.int i0), .val (.int i1), .val (.int i2), .val (.int i3), .val (.int i4), .val (.int i5), .val (.int (2 : Int32)), .val (.ref b), .val (.int ((((i1 + i2) + (0 : Int32)) + (0 : Int32)) + (0 : Int32))), .val (.int (((0 : Int32) + i1) + i2)), .unset] [(.int (2 : Int32))]))
    refine own_via (fun _ k => XS.iload X33.here hx rfl (hb hby at_143) rfl k) ?_
    show own_G _ _ _ _ (T33.setTop (mkF m 145 #[.val (.int i0), .val (.int i1), .val (.int i2), .val (.int i3), .val (.int i4), .val (.int i5), .val (.int (2 : Int32)), .val (.ref b), .val (.int ((((i1 + i2) + (0 : Int32)) + (0 : Int32)) + (0 : Int32))), .val (.int (((0 : Int32) + i1) + i2)), .unset] [(.int (2 : Int32)), (.int (2 : Int32))]))
    refine own_via (fun _ k => XS.icmpNo X33.here hx rfl (hb hby at_145) rfl (teq (by decide)).2 k) ?_
    show own_G _ _ _ _ (T33.setTop (mkF m 148 #[.val (.int i0), .val (.int i1), .val (.int i2), .val (.int i3), .val (.int i4), .val (.int i5), .val (.int (2 : Int32)), .val (.ref b), .val (.int ((((i1 + i2) + (0 : Int32)) + (0 : Int32)) + (0 : Int32))), .val (.int (((0 : Int32) + i1) + i2)), .unset] []))
    refine own_via (fun _ k => XS.iload X33.here hx rfl (hb hby at_148) rfl k) ?_
    show own_G _ _ _ _ (T33.setTop (mkF m 150 #[.val (.int i0), .val (.int i1), .val (.int i2), .val (.int i3), .val (.int i4), .val (.int i5), .val (.int (2 : Int32)), .val (.ref b), .val (.int ((((i1 + i2) + (0 : Int32)) + (0 : Int32)) + (0 : Int32))), .val (.int (((0 : Int32) + i1) + i2)), .unset] [(.int (2 : Int32))]))
    refine own_via (fun _ k => XS.ifNo X33.here hx rfl (hb hby at_150) rfl ((if0 _ _).trans (tlt (by decide)).2.2.2) k) ?_
    show own_G _ _ _ _ (T33.setTop (mkF m 153 #[.val (.int i0), .val (.int i1), .val (.int i2), .val (.int i3), .val (.int i4), .val (.int i5), .val (.int (2 : Int32)), .val (.ref b), .val (.int ((((i1 + i2) + (0 : Int32)) + (0 : Int32)) + (0 : Int32))), .val (.int (((0 : Int32) + i1) + i2)), .unset] []))
    refine own_via (fun _ k => XS.aload X33.here hx rfl (hb hby at_153) rfl rfl k) ?_
    show own_G _ _ _ _ (T33.setTop (mkF m 155 #[.val (.int i0), .val (.int i1), .val (.int i2), .val (.int i3), .val (.int i4), .val (.int i5), .val (.int (2 : Int32)), .val (.ref b), .val (.int ((((i1 + i2) + (0 : Int32)) + (0 : Int32)) + (0 : Int32))), .val (.int (((0 : Int32) + i1) + i2)), .unset] [(.ref b)]))
    refine own_via (fun _ k => XS.iconst X33.here hx rfl (hb hby at_155) k) ?_
    show own_G _ _ _ _ (T33.setTop (mkF m 156 #[.val (.int i0), .val (.int i1), .val (.int i2), .val (.int i3), .val (.int i4), .val (.int i5), .val (.int (2 : Int32)), .val (.ref b), .val (.int ((((i1 + i2) + (0 : Int32)) + (0 : Int32)) + (0 : Int32))), .val (.int (((0 : Int32) + i1) + i2)), .unset] [(.int (0 : Int32)), (.ref b)]))
    obtain ⟨cl35, Ar35, -, Sz35, Nn35, Hh35, -⟩ := id V_b
    have hin35 : ¬ ((0 : Int32) < 0 ∨ cl35.slots.size ≤ ((0 : Int32)).toNatClampNeg) := inb_of Sz35 ⟨by decide, by decide⟩
    have hat35 : cl35.slots[((0 : Int32)).toNatClampNeg]? = some (.int i1) := Has.at Hh35 hin35 rfl
    refine own_via (fun _ k => X33.iaload hx (j := (0 : Int32)) (v := (.int i1)) (by rw [e33]; exact Ar35.1) (State.isArrayOf_alike hZ.alike Ar35.2.1) Ar35.2.2 hin35 hat35 (g := (mkF m 156 #[.val (.int i0), .val (.int i1), .val (.int i2), .val (.int i3), .val (.int i4), .val (.int i5), .val (.int (2 : Int32)), .val (.ref b), .val (.int ((((i1 + i2) + (0 : Int32)) + (0 : Int32)) + (0 : Int32))), .val (.int (((0 : Int32) + i1) + i2)), .unset] [(.int (0 : Int32)), (.ref b)])) rfl rfl (hb hby at_156) _ k) ?_
    show own_G _ _ _ _ (T33.setTop (mkF m 157 #[.val (.int i0), .val (.int i1), .val (.int i2), .val (.int i3), .val (.int i4), .val (.int i5), .val (.int (2 : Int32)), .val (.ref b), .val (.int ((((i1 + i2) + (0 : Int32)) + (0 : Int32)) + (0 : Int32))), .val (.int (((0 : Int32) + i1) + i2)), .unset] [(.int i1)]))
    refine own_via (fun _ k => XS.iloadN X33.here hx rfl (hb hby at_157) rfl k) ?_
    show own_G _ _ _ _ (T33.setTop (mkF m 158 #[.val (.int i0), .val (.int i1), .val (.int i2), .val (.int i3), .val (.int i4), .val (.int i5), .val (.int (2 : Int32)), .val (.ref b), .val (.int ((((i1 + i2) + (0 : Int32)) + (0 : Int32)) + (0 : Int32))), .val (.int (((0 : Int32) + i1) + i2)), .unset] [(.int i1), (.int i1)]))
    refine own_via (fun _ k => XS.icmpNo X33.here hx rfl (hb hby at_158) rfl (teq rfl).2 k) ?_
    show own_G _ _ _ _ (T33.setTop (mkF m 161 #[.val (.int i0), .val (.int i1), .val (.int i2), .val (.int i3), .val (.int i4), .val (.int i5), .val (.int (2 : Int32)), .val (.ref b), .val (.int ((((i1 + i2) + (0 : Int32)) + (0 : Int32)) + (0 : Int32))), .val (.int (((0 : Int32) + i1) + i2)), .unset] []))
    refine own_via (fun _ k => XS.iload X33.here hx rfl (hb hby at_161) rfl k) ?_
    show own_G _ _ _ _ (T33.setTop (mkF m 163 #[.val (.int i0), .val (.int i1), .val (.int i2), .val (.int i3), .val (.int i4), .val (.int i5), .val (.int (2 : Int32)), .val (.ref b), .val (.int ((((i1 + i2) + (0 : Int32)) + (0 : Int32)) + (0 : Int32))), .val (.int (((0 : Int32) + i1) + i2)), .unset] [(.int (2 : Int32))]))
    refine own_via (fun _ k => XS.iconst X33.here hx rfl (hb hby at_163) k) ?_
    show own_G _ _ _ _ (T33.setTop (mkF m 164 #[.val (.int i0), .val (.int i1), .val (.int i2), .val (.int i3), .val (.int i4), .val (.int i5), .val (.int (2 : Int32)), .val (.ref b), .val (.int ((((i1 + i2) + (0 : Int32)) + (0 : Int32)) + (0 : Int32))), .val (.int (((0 : Int32) + i1) + i2)), .unset] [(.int (1 : Int32)), (.int (2 : Int32))]))
    refine own_via (fun _ k => XS.icmpNo X33.here hx rfl (hb hby at_164) rfl (tlt (by decide)).2.2.2 k) ?_
    show own_G _ _ _ _ (T33.setTop (mkF m 167 #[.val (.int i0), .val (.int i1), .val (.int i2), .val (.int i3), .val (.int i4), .val (.int i5), .val (.int (2 : Int32)), .val (.ref b), .val (.int ((((i1 + i2) + (0 : Int32)) + (0 : Int32)) + (0 : Int32))), .val (.int (((0 : Int32) + i1) + i2)), .unset] []))
    refine own_via (fun _ k => XS.aload X33.here hx rfl (hb hby at_167) rfl rfl k) ?_
    show own_G _ _ _ _ (T33.setTop (mkF m 169 #[.val (.int i0), .val (.int i1), .val (.int i2), .val (.int i3), .val (.int i4), .val (.int i5), .val (.int (2 : Int32)), .val (.ref b), .val (.int ((((i1 + i2) + (0 : Int32)) + (0 : Int32)) + (0 : Int32))), .val (.int (((0 : Int32) + i1) + i2)), .unset] [(.ref b)]))
    refine own_via (fun _ k => XS.iconst X33.here hx rfl (hb hby at_169) k) ?_
    show own_G _ _ _ _ (T33.setTop (mkF m 170 #[.val (.int i0), .val (.int i1), .val (.int i2), .val (.int i3), .val (.int i4), .val (.int i5), .val (.int (2 : Int32)), .val (.ref b), .val (.int ((((i1 + i2) + (0 : Int32)) + (0 : Int32)) + (0 : Int32))), .val (.int (((0 : Int32) + i1) + i2)), .unset] [(.int (1 : Int32)), (.ref b)]))
    obtain ⟨cl36, Ar36, -, Sz36, Nn36, Hh36, -⟩ := id V_b
    have hin36 : ¬ ((1 : Int32) < 0 ∨ cl36.slots.size ≤ ((1 : Int32)).toNatClampNeg) := inb_of Sz36 ⟨by decide, by decide⟩
    have hat36 : cl36.slots[((1 : Int32)).toNatClampNeg]? = some (.int i2) := Has.at Hh36 hin36 rfl
    refine own_via (fun _ k => X33.iaload hx (j := (1 : Int32)) (v := (.int i2)) (by rw [e33]; exact Ar36.1) (State.isArrayOf_alike hZ.alike Ar36.2.1) Ar36.2.2 hin36 hat36 (g := (mkF m 170 #[.val (.int i0), .val (.int i1), .val (.int i2), .val (.int i3), .val (.int i4), .val (.int i5), .val (.int (2 : Int32)), .val (.ref b), .val (.int ((((i1 + i2) + (0 : Int32)) + (0 : Int32)) + (0 : Int32))), .val (.int (((0 : Int32) + i1) + i2)), .unset] [(.int (1 : Int32)), (.ref b)])) rfl rfl (hb hby at_170) _ k) ?_
    show own_G _ _ _ _ (T33.setTop (mkF m 171 #[.val (.int i0), .val (.int i1), .val (.int i2), .val (.int i3), .val (.int i4), .val (.int i5), .val (.int (2 : Int32)), .val (.ref b), .val (.int ((((i1 + i2) + (0 : Int32)) + (0 : Int32)) + (0 : Int32))), .val (.int (((0 : Int32) + i1) + i2)), .unset] [(.int i2)]))
    refine own_via (fun _ k => XS.iloadN X33.here hx rfl (hb hby at_171) rfl k) ?_
    show own_G _ _ _ _ (T33.setTop (mkF m 172 #[.val (.int i0), .val (.int i1), .val (.int i2), .val (.int i3), .val (.int i4), .val (.int i5), .val (.int (2 : Int32)), .val (.ref b), .val (.int ((((i1 + i2) + (0 : Int32)) + (0 : Int32)) + (0 : Int32))), .val (.int (((0 : Int32) + i1) + i2)), .unset] [(.int i2), (.int i2)]))
    refine own_via (fun _ k => XS.icmpNo X33.here hx rfl (hb hby at_172) rfl (teq rfl).2 k) ?_
    show own_G _ _ _ _ (T33.setTop (mkF m 175 #[.val (.int i0), .val (.int i1), .val (.int i2), .val (.int i3), .val (.int i4), .val (.int i5), .val (.int (2 : Int32)), .val (.ref b), .val (.int ((((i1 + i2) + (0 : Int32)) + (0 : Int32)) + (0 : Int32))), .val (.int (((0 : Int32) + i1) + i2)), .unset] []))
    refine own_via (fun _ k => XS.iload X33.here hx rfl (hb hby at_175) rfl k) ?_
    show own_G _ _ _ _ (T33.setTop (mkF m 177 #[.val (.int i0), .val (.int i1), .val (.int i2), .val (.int i3), .val (.int i4), .val (.int i5), .val (.int (2 : Int32)), .val (.ref b), .val (.int ((((i1 + i2) + (0 : Int32)) + (0 : Int32)) + (0 : Int32))), .val (.int (((0 : Int32) + i1) + i2)), .unset] [(.int (2 : Int32))]))
    refine own_via (fun _ k => XS.iconst X33.here hx rfl (hb hby at_177) k) ?_
    show own_G _ _ _ _ (T33.setTop (mkF m 178 #[.val (.int i0), .val (.int i1), .val (.int i2), .val (.int i3), .val (.int i4), .val (.int i5), .val (.int (2 : Int32)), .val (.ref b), .val (.int ((((i1 + i2) + (0 : Int32)) + (0 : Int32)) + (0 : Int32))), .val (.int (((0 : Int32) + i1) + i2)), .unset] [(.int (2 : Int32)), (.int (2 : Int32))]))
    refine own_via (fun _ k => XS.icmpYes X33.here hx rfl (pc0 := 178) (pc' := 189) rfl (hb hby at_178) rfl (flt (by decide)).2.2.2 (by decide) (by decide) k) ?_
    show own_G _ _ _ _ (T33.setTop (mkF m 189 #[.val (.int i0), .val (.int i1), .val (.int i2), .val (.int i3), .val (.int i4), .val (.int i5), .val (.int (2 : Int32)), .val (.ref b), .val (.int ((((i1 + i2) + (0 : Int32)) + (0 : Int32)) + (0 : Int32))), .val (.int (((0 : Int32) + i1) + i2)), .unset] []))
    refine own_via (fun _ k => XS.iload X33.here hx rfl (hb hby at_189) rfl k) ?_
    show own_G _ _ _ _ (T33.setTop (mkF m 191 #[.val (.int i0), .val (.int i1), .val (.int i2), .val (.int i3), .val (.int i4), .val (.int i5), .val (.int (2 : Int32)), .val (.ref b), .val (.int ((((i1 + i2) + (0 : Int32)) + (0 : Int32)) + (0 : Int32))), .val (.int (((0 : Int32) + i1) + i2)), .unset] [(.int (2 : Int32))]))
    refine own_via (fun _ k => XS.iconst X33.here hx rfl (hb hby at_191) k) ?_
    show own_G _ _ _ _ (T33.setTop (mkF m 192 #[.val (.int i0), .val (.int i1), .val (.int i2), .val (.int i3), .val (.int i4), .val (.int i5), .val (.int (2 : Int32)), .val (.ref b), .val (.int ((((i1 + i2) + (0 : Int32)) + (0 : Int32)) + (0 : Int32))), .val (.int (((0 : Int32) + i1) + i2)), .unset] [(.int (3 : Int32)), (.int (2 : Int32))]))
    refine own_via (fun _ k => XS.icmpYes X33.here hx rfl (pc0 := 192) (pc' := 204) rfl (hb hby at_192) rfl (flt (by decide)).2.2.2 (by decide) (by decide) k) ?_
    show own_G _ _ _ _ (T33.setTop (mkF m 204 #[.val (.int i0), .val (.int i1), .val (.int i2), .val (.int i3), .val (.int i4), .val (.int i5), .val (.int (2 : Int32)), .val (.ref b), .val (.int ((((i1 + i2) + (0 : Int32)) + (0 : Int32)) + (0 : Int32))), .val (.int (((0 : Int32) + i1) + i2)), .unset] []))
    refine own_via (fun _ k => XS.iload X33.here hx rfl (hb hby at_204) rfl k) ?_
    show own_G _ _ _ _ (T33.setTop (mkF m 206 #[.val (.int i0), .val (.int i1), .val (.int i2), .val (.int i3), .val (.int i4), .val (.int i5), .val (.int (2 : Int32)), .val (.ref b), .val (.int ((((i1 + i2) + (0 : Int32)) + (0 : Int32)) + (0 : Int32))), .val (.int (((0 : Int32) + i1) + i2)), .unset] [(.int (2 : Int32))]))
    refine own_via (fun _ k => XS.iconst X33.here hx rfl (hb hby at_206) k) ?_
    show own_G _ _ _ _ (T33.setTop (mkF m 207 #[.val (.int i0), .val (.int i1), .val (.int i2), .val (.int i3), .val (.int i4), .val (.int i5), .val (.int (2 : Int32)), .val (.ref b), .val (.int ((((i1 + i2) + (0 : Int32)) + (0 : Int32)) + (0 : Int32))), .val (.int (((0 : Int32) + i1) + i2)), .unset] [(.int (4 : Int32)), (.int (2 : Int32))]))
    refine own_via (fun _ k => XS.icmpYes X33.here hx rfl (pc0 := 207) (pc' := 219) rfl (hb hby at_207) rfl (flt (by decide)).2.2.2 (by decide) (by decide) k) ?_
    show own_G _ _ _ _ (T33.setTop (mkF m 219 #[.val (.int i0), .val (.int i1), .val (.int i2), .val (.int i3), .val (.int i4), .val (.int i5), .val (.int (2 : Int32)), .val (.ref b), .val (.int ((((i1 + i2) + (0 : Int32)) + (0 : Int32)) + (0 : Int32))), .val (.int (((0 : Int32) + i1) + i2)), .unset] []))
    refine own_via (fun _ k => XS.iconst X33.here hx rfl (hb hby at_219) k) ?_
    show own_G _ _ _ _ (T33.setTop (mkF m 220 #[.val (.int i0), .val (.int i1), .val (.int i2), .val (.int i3), .val (.int i4), .val (.int i5), .val (.int (2 : Int32)), .val (.ref b), .val (.int ((((i1 + i2) + (0 : Int32)) + (0 : Int32)) + (0 : Int32))), .val (.int (((0 : Int32) + i1) + i2)), .unset] [(.int (1 : Int32))]))
    refine own_via (fun _ k => XS.goto X33.here hx rfl (pc0 := 220) (pc' := 224) rfl (hb hby at_220) (by decide) (by decide) k) ?_
    show own_G _ _ _ _ (T33.setTop (mkF m 224 #[.val (.int i0), .val (.int i1), .val (.int i2), .val (.int i3), .val (.int i4), .val (.int i5), .val (.int (2 : Int32)), .val (.ref b), .val (.int ((((i1 + i2) + (0 : Int32)) + (0 : Int32)) + (0 : Int32))), .val (.int (((0 : Int32) + i1) + i2)), .unset] [(.int (1 : Int32))]))
    refine own_via (fun _ k => XS.istore X33.here hx rfl (hb hby at_224) rfl (l' := #[.val (.int i0), .val (.int i1), .val (.int i2), .val (.int i3), .val (.int i4), .val (.int i5), .val (.int (2 : Int32)), .val (.ref b), .val (.int ((((i1 + i2) + (0 : Int32)) + (0 : Int32)) + (0 : Int32))), .val (.int (((0 : Int32) + i1) + i2)), .val (.int (1 : Int32))]) rfl k) ?_
    show own_G _ _ _ _ (T33.setTop (mkF m 226 #[.val (.int i0), .val (.int i1), .val (.int i2), .val (.int i3), .val (.int i4), .val (.int i5), .val (.int (2 : Int32)), .val (.ref b), .val (.int ((((i1 + i2) + (0 : Int32)) + (0 : Int32)) + (0 : Int32))), .val (.int (((0 : Int32) + i1) + i2)), .val (.int (1 : Int32))] []))
    refine own_via (fun _ k => XS.iload X33.here hx rfl (hb hby at_226) rfl k) ?_
    show own_G _ _ _ _ (T33.setTop (mkF m 228 #[.val (.int i0), .val (.int i1), .val (.int i2), .val (.int i3), .val (.int i4), .val (.int i5), .val (.int (2 : Int32)), .val (.ref b), .val (.int ((((i1 + i2) + (0 : Int32)) + (0 : Int32)) + (0 : Int32))), .val (.int (((0 : Int32) + i1) + i2)), .val (.int (1 : Int32))] [(.int (((0 : Int32) + i1) + i2))]))
    refine own_via (fun _ k => XS.iload X33.here hx rfl (hb hby at_228) rfl k) ?_
    show own_G _ _ _ _ (T33.setTop (mkF m 230 #[.val (.int i0), .val (.int i1), .val (.int i2), .val (.int i3), .val (.int i4), .val (.int i5), .val (.int (2 : Int32)), .val (.ref b), .val (.int ((((i1 + i2) + (0 : Int32)) + (0 : Int32)) + (0 : Int32))), .val (.int (((0 : Int32) + i1) + i2)), .val (.int (1 : Int32))] [(.int ((((i1 + i2) + (0 : Int32)) + (0 : Int32)) + (0 : Int32))), (.int (((0 : Int32) + i1) + i2))]))
    refine own_via (fun _ k => XS.icmpNo X33.here hx rfl (hb hby at_230) rfl (teq (by simp [Int32.zero_add, Int32.add_zero])).2 k) ?_
    show own_G _ _ _ _ (T33.setTop (mkF m 233 #[.val (.int i0), .val (.int i1), .val (.int i2), .val (.int i3), .val (.int i4), .val (.int i5), .val (.int (2 : Int32)), .val (.ref b), .val (.int ((((i1 + i2) + (0 : Int32)) + (0 : Int32)) + (0 : Int32))), .val (.int (((0 : Int32) + i1) + i2)), .val (.int (1 : Int32))] []))
    refine own_via (fun _ k => XS.iload X33.here hx rfl (hb hby at_233) rfl k) ?_
    show own_G _ _ _ _ (T33.setTop (mkF m 235 #[.val (.int i0), .val (.int i1), .val (.int i2), .val (.int i3), .val (.int i4), .val (.int i5), .val (.int (2 : Int32)), .val (.ref b), .val (.int ((((i1 + i2) + (0 : Int32)) + (0 : Int32)) + (0 : Int32))), .val (.int (((0 : Int32) + i1) + i2)), .val (.int (1 : Int32))] [(.int (1 : Int32))]))
    refine own_via (fun _ k => XS.ifNo X33.here hx rfl (hb hby at_235) rfl ((if0 _ _).trans (feq (by decide)).1) k) ?_
    show own_G _ _ _ _ (T33.setTop (mkF m 238 #[.val (.int i0), .val (.int i1), .val (.int i2), .val (.int i3), .val (.int i4), .val (.int i5), .val (.int (2 : Int32)), .val (.ref b), .val (.int ((((i1 + i2) + (0 : Int32)) + (0 : Int32)) + (0 : Int32))), .val (.int (((0 : Int32) + i1) + i2)), .val (.int (1 : Int32))] []))
    refine own_via (fun _ k => XS.iconst X33.here hx rfl (hb hby at_238) k) ?_
    show own_G _ _ _ _ (T33.setTop (mkF m 239 #[.val (.int i0), .val (.int i1), .val (.int i2), .val (.int i3), .val (.int i4), .val (.int i5), .val (.int (2 : Int32)), .val (.ref b), .val (.int ((((i1 + i2) + (0 : Int32)) + (0 : Int32)) + (0 : Int32))), .val (.int (((0 : Int32) + i1) + i2)), .val (.int (1 : Int32))] [(.int (1 : Int32))]))
    refine own_via (fun _ k => XS.goto X33.here hx rfl (pc0 := 239) (pc' := 243) rfl (hb hby at_239) (by decide) (by decide) k) ?_
    show own_G _ _ _ _ (T33.setTop (mkF m 243 #[.val (.int i0), .val (.int i1), .val (.int i2), .val (.int i3), .val (.int i4), .val (.int i5), .val (.int (2 : Int32)), .val (.ref b), .val (.int ((((i1 + i2) + (0 : Int32)) + (0 : Int32)) + (0 : Int32))), .val (.int (((0 : Int32) + i1) + i2)), .val (.int (1 : Int32))] [(.int (1 : Int32))]))
    obtain ⟨fs, hr, hrun, hended, hW, hsame⟩ := X33.leave (v := some (.int (1 : Int32))) (fun h => by rw [Bd.returns] at h; cases h)
    exact ⟨_, _, retN X33 hx (t := .boolean) Bd.returns (by simp) (hb hby at_243) hr, hrun, hended, _, _, rfl, ⟨rfl, N33⟩, ⟨_, rfl⟩, hW, hsame.mono (by decide) (by decide)⟩
  · show own_G _ _ _ _ (s₁.setTop (mkF m 9 #[.val (.int i0), .val (.int i1), .val (.int i2), .val (.int i3), .val (.int i4), .val (.int i5), .val (.int (3 : Int32)), .unset, .unset, .unset, .unset] []))
    refine own_via (fun _ k => XS.iload X0.here hx rfl (hb hby at_9) rfl k) ?_
    show own_G _ _ _ _ (s₁.setTop (mkF m 11 #[.val (.int i0), .val (.int i1), .val (.int i2), .val (.int i3), .val (.int i4), .val (.int i5), .val (.int (3 : Int32)), .unset, .unset, .unset, .unset] [(.int (3 : Int32))]))
    obtain ⟨T37, h37, k_b, X37, e37, E37, A37, st37⟩ := newP X0 hx hZ (hw _ (List.mem_of_getElem? (i := 1) rfl)) e0 (g := (mkF m 11 #[.val (.int i0), .val (.int i1), .val (.int i2), .val (.int i3), .val (.int i4), .val (.int i5), .val (.int (3 : Int32)), .unset, .unset, .unset, .unset] [(.int (3 : Int32))])) rfl (hb hby at_11) rfl (by decide) (cap := 3) (by decide) (by decide) (by decide) (by decide)
    obtain ⟨b, g37⟩ : ∃ z, z = h0.size := ⟨_, rfl⟩
    rw [← g37] at A37 st37
    have g_b : n0 ≤ b := Nat.le_trans Z0 (Nat.le_of_eq g37.symm)
    have Z0 := Nat.le_trans Z0 E37.1
    have V_b : Arv Z h37 b k_b .int (3 : Int32) [(.int (0 : Int32)), (.int (0 : Int32)), (.int (0 : Int32))] (.int (0 : Int32)) := (Arv.new A37 (by decide)).pad (pad_rep [] (.int (0 : Int32)) 3)
    refine own_via st37 ?_
    show own_G _ _ _ _ (T37.setTop (mkF m 13 #[.val (.int i0), .val (.int i1), .val (.int i2), .val (.int i3), .val (.int i4), .val (.int i5), .val (.int (3 : Int32)), .unset, .unset, .unset, .unset] [(.ref b)]))
    refine own_via (fun _ k => XS.astore X37.here hx rfl (hb hby at_13) rfl rfl (l' := #[.val (.int i0), .val (.int i1), .val (.int i2), .val (.int i3), .val (.int i4), .val (.int i5), .val (.int (3 : Int32)), .val (.ref b), .unset, .unset, .unset]) rfl k) ?_
    show own_G _ _ _ _ (T37.setTop (mkF m 15 #[.val (.int i0), .val (.int i1), .val (.int i2), .val (.int i3), .val (.int i4), .val (.int i5), .val (.int (3 : Int32)), .val (.ref b), .unset, .unset, .unset] []))
    refine own_via (fun _ k => XS.iload X37.here hx rfl (hb hby at_15) rfl k) ?_
    show own_G _ _ _ _ (T37.setTop (mkF m 17 #[.val (.int i0), .val (.int i1), .val (.int i2), .val (.int i3), .val (.int i4), .val (.int i5), .val (.int (3 : Int32)), .val (.ref b), .unset, .unset, .unset] [(.int (3 : Int32))]))
    refine own_via (fun _ k => XS.ifNo X37.here hx rfl (hb hby at_17) rfl ((if0 _ _).trans (tlt (by decide)).2.2.2) k) ?_
    show own_G _ _ _ _ (T37.setTop (mkF m 20 #[.val (.int i0), .val (.int i1), .val (.int i2), .val (.int i3), .val (.int i4), .val (.int i5), .val (.int (3 : Int32)), .val (.ref b), .unset, .unset, .unset] []))
    refine own_via (fun _ k => XS.aload X37.here hx rfl (hb hby at_20) rfl rfl k) ?_
    show own_G _ _ _ _ (T37.setTop (mkF m 22 #[.val (.int i0), .val (.int i1), .val (.int i2), .val (.int i3), .val (.int i4), .val (.int i5), .val (.int (3 : Int32)), .val (.ref b), .unset, .unset, .unset] [(.ref b)]))
    refine own_via (fun _ k => XS.iconst X37.here hx rfl (hb hby at_22) k) ?_
    show own_G _ _ _ _ (T37.setTop (mkF m 23 #[.val (.int i0), .val (.int i1), .val (.int i2), .val (.int i3), .val (.int i4), .val (.int i5), .val (.int (3 : Int32)), .val (.ref b), .unset, .unset, .unset] [(.int (0 : Int32)), (.ref b)]))
    refine own_via (fun _ k => XS.iloadN X37.here hx rfl (hb hby at_23) rfl k) ?_
    show own_G _ _ _ _ (T37.setTop (mkF m 24 #[.val (.int i0), .val (.int i1), .val (.int i2), .val (.int i3), .val (.int i4), .val (.int i5), .val (.int (3 : Int32)), .val (.ref b), .unset, .unset, .unset] [(.int i1), (.int (0 : Int32)), (.ref b)]))
    obtain ⟨cl_b, Ar_b, q_b, S_b, Nn_b, H_b, G_b⟩ := V_b
    have hin38 : ¬ ((0 : Int32) < 0 ∨ cl_b.slots.size ≤ ((0 : Int32)).toNatClampNeg) := inb_of S_b ⟨by decide, by decide⟩
    obtain ⟨T38, h38, X38, e38, W38, st38⟩ := stI X37 hx hZ e37 Ar_b (j := (0 : Int32)) hin38 (g := (mkF m 24 #[.val (.int i0), .val (.int i1), .val (.int i2), .val (.int i3), .val (.int i4), .val (.int i5), .val (.int (3 : Int32)), .val (.ref b), .unset, .unset, .unset] [(.int i1), (.int (0 : Int32)), (.ref b)])) rfl rfl (hb hby at_24)
    have V_b : Arv Z h38 b k_b .int (3 : Int32) [(.int i1), (.int (0 : Int32)), (.int (0 : Int32))] (.int (0 : Int32)) := Arv.set Ar_b q_b S_b Nn_b H_b G_b rfl W38 0 rfl (Nat.le_of_ble_eq_true rfl)
    have Z0 := Nat.le_trans Z0 (Keep.of_wr W38).1
    have N38 := Fr.snoc X38 N0 g_b
    refine own_via st38 ?_
    show own_G _ _ _ _ (T38.setTop (mkF m 25 #[.val (.int i0), .val (.int i1), .val (.int i2), .val (.int i3), .val (.int i4), .val (.int i5), .val (.int (3 : Int32)), .val (.ref b), .unset, .unset, .unset] []))
    refine own_via (fun _ k => XS.iload X38.here hx rfl (hb hby at_25) rfl k) ?_
    show own_G _ _ _ _ (T38.setTop (mkF m 27 #[.val (.int i0), .val (.int i1), .val (.int i2), .val (.int i3), .val (.int i4), .val (.int i5), .val (.int (3 : Int32)), .val (.ref b), .unset, .unset, .unset] [(.int (3 : Int32))]))
    refine own_via (fun _ k => XS.iconst X38.here hx rfl (hb hby at_27) k) ?_
    show own_G _ _ _ _ (T38.setTop (mkF m 28 #[.val (.int i0), .val (.int i1), .val (.int i2), .val (.int i3), .val (.int i4), .val (.int i5), .val (.int (3 : Int32)), .val (.ref b), .unset, .unset, .unset] [(.int (1 : Int32)), (.int (3 : Int32))]))
    refine own_via (fun _ k => XS.icmpNo X38.here hx rfl (hb hby at_28) rfl (tlt (by decide)).2.2.2 k) ?_
    show own_G _ _ _ _ (T38.setTop (mkF m 31 #[.val (.int i0), .val (.int i1), .val (.int i2), .val (.int i3), .val (.int i4), .val (.int i5), .val (.int (3 : Int32)), .val (.ref b), .unset, .unset, .unset] []))
    refine own_via (fun _ k => XS.aload X38.here hx rfl (hb hby at_31) rfl rfl k) ?_
    show own_G _ _ _ _ (T38.setTop (mkF m 33 #[.val (.int i0), .val (.int i1), .val (.int i2), .val (.int i3), .val (.int i4), .val (.int i5), .val (.int (3 : Int32)), .val (.ref b), .unset, .unset, .unset] [(.ref b)]))
    refine own_via (fun _ k => XS.iconst X38.here hx rfl (hb hby at_33) k) ?_
    show own_G _ _ _ _ (T38.setTop (mkF m 34 #[.val (.int i0), .val (.int i1), .val (.int i2), .val (.int i3), .val (.int i4), .val (.int i5), .val (.int (3 : Int32)), .val (.ref b), .unset, .unset, .unset] [(.int (1 : Int32)), (.ref b)]))
    refine own_via (fun _ k => XS.iloadN X38.here hx rfl (hb hby at_34) rfl k) ?_
    show own_G _ _ _ _ (T38.setTop (mkF m 35 #[.val (.int i0), .val (.int i1), .val (.int i2), .val (.int i3), .val (.int i4), .val (.int i5), .val (.int (3 : Int32)), .val (.ref b), .unset, .unset, .unset] [(.int i2), (.int (1 : Int32)), (.ref b)]))
    obtain ⟨cl_b, Ar_b, q_b, S_b, Nn_b, H_b, G_b⟩ := V_b
    have hin39 : ¬ ((1 : Int32) < 0 ∨ cl_b.slots.size ≤ ((1 : Int32)).toNatClampNeg) := inb_of S_b ⟨by decide, by decide⟩
    obtain ⟨T39, h39, X39, e39, W39, st39⟩ := stI X38 hx hZ e38 Ar_b (j := (1 : Int32)) hin39 (g := (mkF m 35 #[.val (.int i0), .val (.int i1), .val (.int i2), .val (.int i3), .val (.int i4), .val (.int i5), .val (.int (3 : Int32)), .val (.ref b), .unset, .unset, .unset] [(.int i2), (.int (1 : Int32)), (.ref b)])) rfl rfl (hb hby at_35)
    have V_b : Arv Z h39 b k_b .int (3 : Int32) [(.int i1), (.int i2), (.int (0 : Int32))] (.int (0 : Int32)) := Arv.set Ar_b q_b S_b Nn_b H_b G_b rfl W39 1 rfl (Nat.le_of_ble_eq_true rfl)
    have Z0 := Nat.le_trans Z0 (Keep.of_wr W39).1
    have N39 := Fr.snoc X39 N38 g_b
    refine own_via st39 ?_
    show own_G _ _ _ _ (T39.setTop (mkF m 36 #[.val (.int i0), .val (.int i1), .val (.int i2), .val (.int i3), .val (.int i4), .val (.int i5), .val (.int (3 : Int32)), .val (.ref b), .unset, .unset, .unset] []))
    refine own_via (fun _ k => XS.iload X39.here hx rfl (hb hby at_36) rfl k) ?_
    show own_G _ _ _ _ (T39.setTop (mkF m 38 #[.val (.int i0), .val (.int i1), .val (.int i2), .val (.int i3), .val (.int i4), .val (.int i5), .val (.int (3 : Int32)), .val (.ref b), .unset, .unset, .unset] [(.int (3 : Int32))]))
    refine own_via (fun _ k => XS.iconst X39.here hx rfl (hb hby at_38) k) ?_
    show own_G _ _ _ _ (T39.setTop (mkF m 39 #[.val (.int i0), .val (.int i1), .val (.int i2), .val (.int i3), .val (.int i4), .val (.int i5), .val (.int (3 : Int32)), .val (.ref b), .unset, .unset, .unset] [(.int (2 : Int32)), (.int (3 : Int32))]))
    refine own_via (fun _ k => XS.icmpNo X39.here hx rfl (hb hby at_39) rfl (tlt (by decide)).2.2.2 k) ?_
    show own_G _ _ _ _ (T39.setTop (mkF m 42 #[.val (.int i0), .val (.int i1), .val (.int i2), .val (.int i3), .val (.int i4), .val (.int i5), .val (.int (3 : Int32)), .val (.ref b), .unset, .unset, .unset] []))
    refine own_via (fun _ k => XS.aload X39.here hx rfl (hb hby at_42) rfl rfl k) ?_
    show own_G _ _ _ _ (T39.setTop (mkF m 44 #[.val (.int i0), .val (.int i1), .val (.int i2), .val (.int i3), .val (.int i4), .val (.int i5), .val (.int (3 : Int32)), .val (.ref b), .unset, .unset, .unset] [(.ref b)]))
    refine own_via (fun _ k => XS.iconst X39.here hx rfl (hb hby at_44) k) ?_
    show own_G _ _ _ _ (T39.setTop (mkF m 45 #[.val (.int i0), .val (.int i1), .val (.int i2), .val (.int i3), .val (.int i4), .val (.int i5), .val (.int (3 : Int32)), .val (.ref b), .unset, .unset, .unset] [(.int (2 : Int32)), (.ref b)]))
    refine own_via (fun _ k => XS.iloadN X39.here hx rfl (hb hby at_45) rfl k) ?_
    show own_G _ _ _ _ (T39.setTop (mkF m 46 #[.val (.int i0), .val (.int i1), .val (.int i2), .val (.int i3), .val (.int i4), .val (.int i5), .val (.int (3 : Int32)), .val (.ref b), .unset, .unset, .unset] [(.int i3), (.int (2 : Int32)), (.ref b)]))
    obtain ⟨cl_b, Ar_b, q_b, S_b, Nn_b, H_b, G_b⟩ := V_b
    have hin40 : ¬ ((2 : Int32) < 0 ∨ cl_b.slots.size ≤ ((2 : Int32)).toNatClampNeg) := inb_of S_b ⟨by decide, by decide⟩
    obtain ⟨T40, h40, X40, e40, W40, st40⟩ := stI X39 hx hZ e39 Ar_b (j := (2 : Int32)) hin40 (g := (mkF m 46 #[.val (.int i0), .val (.int i1), .val (.int i2), .val (.int i3), .val (.int i4), .val (.int i5), .val (.int (3 : Int32)), .val (.ref b), .unset, .unset, .unset] [(.int i3), (.int (2 : Int32)), (.ref b)])) rfl rfl (hb hby at_46)
    have V_b : Arv Z h40 b k_b .int (3 : Int32) [(.int i1), (.int i2), (.int i3)] (.int (0 : Int32)) := Arv.set Ar_b q_b S_b Nn_b H_b G_b rfl W40 2 rfl (Nat.le_of_ble_eq_true rfl)
    have Z0 := Nat.le_trans Z0 (Keep.of_wr W40).1
    have N40 := Fr.snoc X40 N39 g_b
    refine own_via st40 ?_
    show own_G _ _ _ _ (T40.setTop (mkF m 47 #[.val (.int i0), .val (.int i1), .val (.int i2), .val (.int i3), .val (.int i4), .val (.int i5), .val (.int (3 : Int32)), .val (.ref b), .unset, .unset, .unset] []))
    refine own_via (fun _ k => XS.iload X40.here hx rfl (hb hby at_47) rfl k) ?_
    show own_G _ _ _ _ (T40.setTop (mkF m 49 #[.val (.int i0), .val (.int i1), .val (.int i2), .val (.int i3), .val (.int i4), .val (.int i5), .val (.int (3 : Int32)), .val (.ref b), .unset, .unset, .unset] [(.int (3 : Int32))]))
    refine own_via (fun _ k => XS.iconst X40.here hx rfl (hb hby at_49) k) ?_
    show own_G _ _ _ _ (T40.setTop (mkF m 50 #[.val (.int i0), .val (.int i1), .val (.int i2), .val (.int i3), .val (.int i4), .val (.int i5), .val (.int (3 : Int32)), .val (.ref b), .unset, .unset, .unset] [(.int (3 : Int32)), (.int (3 : Int32))]))
    refine own_via (fun _ k => XS.icmpYes X40.here hx rfl (pc0 := 50) (pc' := 59) rfl (hb hby at_50) rfl (flt (by decide)).2.2.2 (by decide) (by decide) k) ?_
    show own_G _ _ _ _ (T40.setTop (mkF m 59 #[.val (.int i0), .val (.int i1), .val (.int i2), .val (.int i3), .val (.int i4), .val (.int i5), .val (.int (3 : Int32)), .val (.ref b), .unset, .unset, .unset] []))
    refine own_via (fun _ k => XS.iload X40.here hx rfl (hb hby at_59) rfl k) ?_
    show own_G _ _ _ _ (T40.setTop (mkF m 61 #[.val (.int i0), .val (.int i1), .val (.int i2), .val (.int i3), .val (.int i4), .val (.int i5), .val (.int (3 : Int32)), .val (.ref b), .unset, .unset, .unset] [(.int (3 : Int32))]))
    refine own_via (fun _ k => XS.iconst X40.here hx rfl (hb hby at_61) k) ?_
    show own_G _ _ _ _ (T40.setTop (mkF m 62 #[.val (.int i0), .val (.int i1), .val (.int i2), .val (.int i3), .val (.int i4), .val (.int i5), .val (.int (3 : Int32)), .val (.ref b), .unset, .unset, .unset] [(.int (4 : Int32)), (.int (3 : Int32))]))
    refine own_via (fun _ k => XS.icmpYes X40.here hx rfl (pc0 := 62) (pc' := 71) rfl (hb hby at_62) rfl (flt (by decide)).2.2.2 (by decide) (by decide) k) ?_
    show own_G _ _ _ _ (T40.setTop (mkF m 71 #[.val (.int i0), .val (.int i1), .val (.int i2), .val (.int i3), .val (.int i4), .val (.int i5), .val (.int (3 : Int32)), .val (.ref b), .unset, .unset, .unset] []))
    refine own_via (fun _ k => XS.iload X40.here hx rfl (hb hby at_71) rfl k) ?_
    show own_G _ _ _ _ (T40.setTop (mkF m 73 #[.val (.int i0), .val (.int i1), .val (.int i2), .val (.int i3), .val (.int i4), .val (.int i5), .val (.int (3 : Int32)), .val (.ref b), .unset, .unset, .unset] [(.int (3 : Int32))]))
    refine own_via (fun _ k => XS.ifNo X40.here hx rfl (hb hby at_73) rfl ((if0 _ _).trans (tlt (by decide)).2.2.2) k) ?_
    show own_G _ _ _ _ (T40.setTop (mkF m 76 #[.val (.int i0), .val (.int i1), .val (.int i2), .val (.int i3), .val (.int i4), .val (.int i5), .val (.int (3 : Int32)), .val (.ref b), .unset, .unset, .unset] []))
    refine own_via (fun _ k => XS.iloadN X40.here hx rfl (hb hby at_76) rfl k) ?_
    show own_G _ _ _ _ (T40.setTop (mkF m 77 #[.val (.int i0), .val (.int i1), .val (.int i2), .val (.int i3), .val (.int i4), .val (.int i5), .val (.int (3 : Int32)), .val (.ref b), .unset, .unset, .unset] [(.int i1)]))
    refine own_via (fun _ k => XS.goto X40.here hx rfl (pc0 := 77) (pc' := 81) rfl (hb hby at_77) (by decide) (by decide) k) ?_
    show own_G _ _ _ _ (T40.setTop (mkF m 81 #[.val (.int i0), .val (.int i1), .val (.int i2), .val (.int i3), .val (.int i4), .val (.int i5), .val (.int (3 : Int32)), .val (.ref b), .unset, .unset, .unset] [(.int i1)]))
    refine own_via (fun _ k => XS.iload X40.here hx rfl (hb hby at_81) rfl k) ?_
    show own_G _ _ _ _ (T40.setTop (mkF m 83 #[.val (.int i0), .val (.int i1), .val (.int i2), .val (.int i3), .val (.int i4), .val (.int i5), .val (.int (3 : Int32)), .val (.ref b), .unset, .unset, .unset] [(.int (3 : Int32)), (.int i1)]))
    refine own_via (fun _ k => XS.iconst X40.here hx rfl (hb hby at_83) k) ?_
    show own_G _ _ _ _ (T40.setTop (mkF m 84 #[.val (.int i0), .val (.int i1), .val (.int i2), .val (.int i3), .val (.int i4), .val (.int i5), .val (.int (3 : Int32)), .val (.ref b), .unset, .unset, .unset] [(.int (1 : Int32)), (.int (3 : Int32)), (.int i1)]))
    refine own_via (fun _ k => XS.icmpNo X40.here hx rfl (hb hby at_84) rfl (tlt (by decide)).2.2.2 k) ?_
    show own_G _ _ _ _ (T40.setTop (mkF m 87 #[.val (.int i0), .val (.int i1), .val (.int i2), .val (.int i3), .val (.int i4), .val (.int i5), .val (.int (3 : Int32)), .val (.ref b), .unset, .unset, .unset] [(.int i1)]))
    refine own_via (fun _ k => XS.iloadN X40.here hx rfl (hb hby at_87) rfl k) ?_
    show own_G _ _ _ _ (T40.setTop (mkF m 88 #[.val (.int i0), .val (.int i1), .val (.int i2), .val (.int i3), .val (.int i4), .val (.int i5), .val (.int (3 : Int32)), .val (.ref b), .unset, .unset, .unset] [(.int i2), (.int i1)]))
    refine own_via (fun _ k => XS.goto X40.here hx rfl (pc0 := 88) (pc' := 92) rfl (hb hby at_88) (by decide) (by decide) k) ?_
    show own_G _ _ _ _ (T40.setTop (mkF m 92 #[.val (.int i0), .val (.int i1), .val (.int i2), .val (.int i3), .val (.int i4), .val (.int i5), .val (.int (3 : Int32)), .val (.ref b), .unset, .unset, .unset] [(.int i2), (.int i1)]))
    refine own_via (fun _ k => XS.iadd X40.here hx rfl (hb hby at_92) rfl k) ?_
    show own_G _ _ _ _ (T40.setTop (mkF m 93 #[.val (.int i0), .val (.int i1), .val (.int i2), .val (.int i3), .val (.int i4), .val (.int i5), .val (.int (3 : Int32)), .val (.ref b), .unset, .unset, .unset] [(.int (i1 + i2))]))
    refine own_via (fun _ k => XS.iload X40.here hx rfl (hb hby at_93) rfl k) ?_
    show own_G _ _ _ _ (T40.setTop (mkF m 95 #[.val (.int i0), .val (.int i1), .val (.int i2), .val (.int i3), .val (.int i4), .val (.int i5), .val (.int (3 : Int32)), .val (.ref b), .unset, .unset, .unset] [(.int (3 : Int32)), (.int (i1 + i2))]))
    refine own_via (fun _ k => XS.iconst X40.here hx rfl (hb hby at_95) k) ?_
    show own_G _ _ _ _ (T40.setTop (mkF m 96 #[.val (.int i0), .val (.int i1), .val (.int i2), .val (.int i3), .val (.int i4), .val (.int i5), .val (.int (3 : Int32)), .val (.ref b), .unset, .unset, .unset] [(.int (2 : Int32)), (.int (3 : Int32)), (.int (i1 + i2))]))
    refine own_via (fun _ k => XS.icmpNo X40.here hx rfl (hb hby at_96) rfl (tlt (by decide)).2.2.2 k) ?_
    show own_G _ _ _ _ (T40.setTop (mkF m 99 #[.val (.int i0), .val (.int i1), .val (.int i2), .val (.int i3), .val (.int i4), .val (.int i5), .val (.int (3 : Int32)), .val (.ref b), .unset, .unset, .unset] [(.int (i1 + i2))]))
    refine own_via (fun _ k => XS.iloadN X40.here hx rfl (hb hby at_99) rfl k) ?_
    show own_G _ _ _ _ (T40.setTop (mkF m 100 #[.val (.int i0), .val (.int i1), .val (.int i2), .val (.int i3), .val (.int i4), .val (.int i5), .val (.int (3 : Int32)), .val (.ref b), .unset, .unset, .unset] [(.int i3), (.int (i1 + i2))]))
    refine own_via (fun _ k => XS.goto X40.here hx rfl (pc0 := 100) (pc' := 104) rfl (hb hby at_100) (by decide) (by decide) k) ?_
    show own_G _ _ _ _ (T40.setTop (mkF m 104 #[.val (.int i0), .val (.int i1), .val (.int i2), .val (.int i3), .val (.int i4), .val (.int i5), .val (.int (3 : Int32)), .val (.ref b), .unset, .unset, .unset] [(.int i3), (.int (i1 + i2))]))
    refine own_via (fun _ k => XS.iadd X40.here hx rfl (hb hby at_104) rfl k) ?_
    show own_G _ _ _ _ (T40.setTop (mkF m 105 #[.val (.int i0), .val (.int i1), .val (.int i2), .val (.int i3), .val (.int i4), .val (.int i5), .val (.int (3 : Int32)), .val (.ref b), .unset, .unset, .unset] [(.int ((i1 + i2) + i3))]))
    refine own_via (fun _ k => XS.iload X40.here hx rfl (hb hby at_105) rfl k) ?_
    show own_G _ _ _ _ (T40.setTop (mkF m 107 #[.val (.int i0), .val (.int i1), .val (.int i2), .val (.int i3), .val (.int i4), .val (.int i5), .val (.int (3 : Int32)), .val (.ref b), .unset, .unset, .unset] [(.int (3 : Int32)), (.int ((i1 + i2) + i3))]))
    refine own_via (fun _ k => XS.iconst X40.here hx rfl (hb hby at_107) k) ?_
    show own_G _ _ _ _ (T40.setTop (mkF m 108 #[.val (.int i0), .val (.int i1), .val (.int i2), .val (.int i3), .val (.int i4), .val (.int i5), .val (.int (3 : Int32)), .val (.ref b), .unset, .unset, .unset] [(.int (3 : Int32)), (.int (3 : Int32)), (.int ((i1 + i2) + i3))]))
    refine own_via (fun _ k => XS.icmpYes X40.here hx rfl (pc0 := 108) (pc' := 116) rfl (hb hby at_108) rfl (flt (by decide)).2.2.2 (by decide) (by decide) k) ?_
    show own_G _ _ _ _ (T40.setTop (mkF m 116 #[.val (.int i0), .val (.int i1), .val (.int i2), .val (.int i3), .val (.int i4), .val (.int i5), .val (.int (3 : Int32)), .val (.ref b), .unset, .unset, .unset] [(.int ((i1 + i2) + i3))]))
    refine own_via (fun _ k => XS.iconst X40.here hx rfl (hb hby at_116) k) ?_
    show own_G _ _ _ _ (T40.setTop (mkF m 117 #[.val (.int i0), .val (.int i1), .val (.int i2), .val (.int i3), .val (.int i4), .val (.int i5), .val (.int (3 : Int32)), .val (.ref b), .unset, .unset, .unset] [(.int (0 : Int32)), (.int ((i1 + i2) + i3))]))
    refine own_via (fun _ k => XS.iadd X40.here hx rfl (hb hby at_117) rfl k) ?_
    show own_G _ _ _ _ (T40.setTop (mkF m 118 #[.val (.int i0), .val (.int i1), .val (.int i2), .val (.int i3), .val (.int i4), .val (.int i5), .val (.int (3 : Int32)), .val (.ref b), .unset, .unset, .unset] [(.int (((i1 + i2) + i3) + (0 : Int32)))]))
    refine own_via (fun _ k => XS.iload X40.here hx rfl (hb hby at_118) rfl k) ?_
    show own_G _ _ _ _ (T40.setTop (mkF m 120 #[.val (.int i0), .val (.int i1), .val (.int i2), .val (.int i3), .val (.int i4), .val (.int i5), .val (.int (3 : Int32)), .val (.ref b), .unset, .unset, .unset] [(.int (3 : Int32)), (.int (((i1 + i2) + i3) + (0 : Int32)))]))
    refine own_via (fun _ k => XS.iconst X40.here hx rfl (hb hby at_120) k) ?_
    show own_G _ _ _ _ (T40.setTop (mkF m 121 #[.val (.int i0), .val (.int i1), .val (.int i2), .val (.int i3), .val (.int i4), .val (.int i5), .val (.int (3 : Int32)), .val (.ref b), .unset, .unset, .unset] [(.int (4 : Int32)), (.int (3 : Int32)), (.int (((i1 + i2) + i3) + (0 : Int32)))]))
    refine own_via (fun _ k => XS.icmpYes X40.here hx rfl (pc0 := 121) (pc' := 129) rfl (hb hby at_121) rfl (flt (by decide)).2.2.2 (by decide) (by decide) k) ?_
    show own_G _ _ _ _ (T40.setTop (mkF m 129 #[.val (.int i0), .val (.int i1), .val (.int i2), .val (.int i3), .val (.int i4), .val (.int i5), .val (.int (3 : Int32)), .val (.ref b), .unset, .unset, .unset] [(.int (((i1 + i2) + i3) + (0 : Int32)))]))
    refine own_via (fun _ k => XS.iconst X40.here hx rfl (hb hby at_129) k) ?_
    show own_G _ _ _ _ (T40.setTop (mkF m 130 #[.val (.int i0), .val (.int i1), .val (.int i2), .val (.int i3), .val (.int i4), .val (.int i5), .val (.int (3 : Int32)), .val (.ref b), .unset, .unset, .unset] [(.int (0 : Int32)), (.int (((i1 + i2) + i3) + (0 : Int32)))]))
    refine own_via (fun _ k => XS.iadd X40.here hx rfl (hb hby at_130) rfl k) ?_
    show own_G _ _ _ _ (T40.setTop (mkF m 131 #[.val (.int i0), .val (.int i1), .val (.int i2), .val (.int i3), .val (.int i4), .val (.int i5), .val (.int (3 : Int32)), .val (.ref b), .unset, .unset, .unset] [(.int ((((i1 + i2) + i3) + (0 : Int32)) + (0 : Int32)))]))
    refine own_via (fun _ k => XS.istore X40.here hx rfl (hb hby at_131) rfl (l' := #[.val (.int i0), .val (.int i1), .val (.int i2), .val (.int i3), .val (.int i4), .val (.int i5), .val (.int (3 : Int32)), .val (.ref b), .val (.int ((((i1 + i2) + i3) + (0 : Int32)) + (0 : Int32))), .unset, .unset]) rfl k) ?_
    show own_G _ _ _ _ (T40.setTop (mkF m 133 #[.val (.int i0), .val (.int i1), .val (.int i2), .val (.int i3), .val (.int i4), .val (.int i5), .val (.int (3 : Int32)), .val (.ref b), .val (.int ((((i1 + i2) + i3) + (0 : Int32)) + (0 : Int32))), .unset, .unset] []))
    refine own_via (fun _ k => XS.aload X40.here hx rfl (hb hby at_133) rfl rfl k) ?_
    show own_G _ _ _ _ (T40.setTop (mkF m 135 #[.val (.int i0), .val (.int i1), .val (.int i2), .val (.int i3), .val (.int i4), .val (.int i5), .val (.int (3 : Int32)), .val (.ref b), .val (.int ((((i1 + i2) + i3) + (0 : Int32)) + (0 : Int32))), .unset, .unset] [(.ref b)]))
    obtain ⟨_, _, ⟨T41, L41, k41, n41⟩, -, X41, ⟨Lc41, hQ41, l41, y41, z41⟩, st41⟩ := Jvm.LawKit.callS X40 hx (y := (⟨"com/example/vanon/vanon/lattice/Lattice", "height", "([I)I"⟩ : MethodName)) hown (mvT hZ (hw _ (List.mem_of_getElem? (i := 2) rfl))) (mvT hZ (hw _ (List.mem_of_getElem? (i := 3) rfl))) (mvT hZ (hw _ (List.mem_of_getElem? (i := 4) rfl))) (mvT hZ (hw _ (List.mem_of_getElem? (i := 5) rfl))) (by decide) (backOf (W := 0) (rmh3 l Z a0 hw [] b k_b i1 i2 i3 h40 n0 Z0 V_b) hZ (hw _ (List.mem_of_getElem? (i := 5) rfl)) (hw _ (List.mem_of_getElem? (i := 4) rfl)) (by decide) (by decide)) (g := (mkF m 135 #[.val (.int i0), .val (.int i1), .val (.int i2), .val (.int i3), .val (.int i4), .val (.int i5), .val (.int (3 : Int32)), .val (.ref b), .val (.int ((((i1 + i2) + i3) + (0 : Int32)) + (0 : Int32))), .unset, .unset] [(.ref b)])) rfl (by rw [hml]; rfl) (argsL := [(.ref b)]) (rest := []) (lenOf pd_0 rfl) rfl (by show 2 * 0 + _ ≤ _; exact Nat.le_of_eq rfl) (hb hby at_135) (fun _ _ => ⟨rfl, e40, Nat.le_of_ble_eq_true rfl, Nat.le_of_ble_eq_true rfl⟩)
    dsimp only [Pt.U, Pt.locs, Pt.cells, Pt.slots] at X41 l41 y41 z41 st41 hQ41
    subst l41 y41 z41
    obtain ⟨rfl, N41q, e41⟩ := hQ41
    have N41 := Fr.app N40 N41q
    refine own_via st41 ?_
    show own_G _ _ _ _ (T41.setTop (mkF m 138 #[.val (.int i0), .val (.int i1), .val (.int i2), .val (.int i3), .val (.int i4), .val (.int i5), .val (.int (3 : Int32)), .val (.ref b), .val (.int ((((i1 + i2) + i3) + (0 : Int32)) + (0 : Int32))), .unset, .unset] [(.int ((((0 : Int32) + i1) + i2) + i3))]))
    refine own_via (fun _ k => XS.istore X41.here hx rfl (hb hby at_138) rfl (l' := #[.val (.int i0), .val (.int i1), .val (.int i2), .val (.int i3), .val (.int i4), .val (.int i5), .val (.int (3 : Int32)), .val (.ref b), .val (.int ((((i1 + i2) + i3) + (0 : Int32)) + (0 : Int32))), .val (.int ((((0 : Int32) + i1) + i2) + i3)), .unset]) rfl k) ?_
    show own_G _ _ _ _ (T41.setTop (mkF m 140 #[.val (.int i0), .val (.int i1), .val (.int i2), .val (.int i3), .val (.int i4), .val (.int i5), .val (.int (3 : Int32)), .val (.ref b), .val (.int ((((i1 + i2) + i3) + (0 : Int32)) + (0 : Int32))), .val (.int ((((0 : Int32) + i1) + i2) + i3)), .unset] []))
    refine own_via (fun _ k => XS.aload X41.here hx rfl (hb hby at_140) rfl rfl k) ?_
    show own_G _ _ _ _ (T41.setTop (mkF m 142 #[.val (.int i0), .val (.int i1), .val (.int i2), .val (.int i3), .val (.int i4), .val (.int i5), .val (.int (3 : Int32)), .val (.ref b), .val (.int ((((i1 + i2) + i3) + (0 : Int32)) + (0 : Int32))), .val (.int ((((0 : Int32) + i1) + i2) + i3)), .unset] [(.ref b)]))
    obtain ⟨cl42, Ar42, -, Sz42, Nn42, -, -⟩ := id V_b
    refine own_via (fun _ k => X41.arraylength hx (by rw [e41]; exact Ar42.1) (State.isArrayOf_alike hZ.alike Ar42.2.1) (g := (mkF m 142 #[.val (.int i0), .val (.int i1), .val (.int i2), .val (.int i3), .val (.int i4), .val (.int i5), .val (.int (3 : Int32)), .val (.ref b), .val (.int ((((i1 + i2) + i3) + (0 : Int32)) + (0 : Int32))), .val (.int ((((0 : Int32) + i1) + i2) + i3)), .unset] [(.ref b)])) rfl rfl (hb hby at_142) _ k) ?_
    rw [len_of Sz42 Nn42]
    show own_G _ _ _ _ (T41.setTop (mkF m 143 #[.val (.int i0), .val (.int i1), .val (.int i2), .val (.int i3), .val (.int i4), .val (.int i5), .val (.int (3 : Int32)), .val (.ref b), .val (.int ((((i1 + i2) + i3) + (0 : Int32)) + (0 : Int32))), .val (.int ((((0 : Int32) + i1) + i2) + i3)), .unset] [(.int (3 : Int32))]))
    refine own_via (fun _ k => XS.iload X41.here hx rfl (hb hby at_143) rfl k) ?_
    show own_G _ _ _ _ (T41.setTop (mkF m 145 #[.val (.int i0), .val (.int i1), .val (.int i2), .val (.int i3), .val (.int i4), .val (.int i5), .val (.int (3 : Int32)), .val (.ref b), .val (.int ((((i1 + i2) + i3) + (0 : Int32)) + (0 : Int32))), .val (.int ((((0 : Int32) + i1) + i2) + i3)), .unset] [(.int (3 : Int32)), (.int (3 : Int32))]))
    refine own_via (fun _ k => XS.icmpNo X41.here hx rfl (hb hby at_145) rfl (teq (by decide)).2 k) ?_
    show own_G _ _ _ _ (T41.setTop (mkF m 148 #[.val (.int i0), .val (.int i1), .val (.int i2), .val (.int i3), .val (.int i4), .val (.int i5), .val (.int (3 : Int32)), .val (.ref b), .val (.int ((((i1 + i2) + i3) + (0 : Int32)) + (0 : Int32))), .val (.int ((((0 : Int32) + i1) + i2) + i3)), .unset] []))
    refine own_via (fun _ k => XS.iload X41.here hx rfl (hb hby at_148) rfl k) ?_
    show own_G _ _ _ _ (T41.setTop (mkF m 150 #[.val (.int i0), .val (.int i1), .val (.int i2), .val (.int i3), .val (.int i4), .val (.int i5), .val (.int (3 : Int32)), .val (.ref b), .val (.int ((((i1 + i2) + i3) + (0 : Int32)) + (0 : Int32))), .val (.int ((((0 : Int32) + i1) + i2) + i3)), .unset] [(.int (3 : Int32))]))
    refine own_via (fun _ k => XS.ifNo X41.here hx rfl (hb hby at_150) rfl ((if0 _ _).trans (tlt (by decide)).2.2.2) k) ?_
    show own_G _ _ _ _ (T41.setTop (mkF m 153 #[.val (.int i0), .val (.int i1), .val (.int i2), .val (.int i3), .val (.int i4), .val (.int i5), .val (.int (3 : Int32)), .val (.ref b), .val (.int ((((i1 + i2) + i3) + (0 : Int32)) + (0 : Int32))), .val (.int ((((0 : Int32) + i1) + i2) + i3)), .unset] []))
    refine own_via (fun _ k => XS.aload X41.here hx rfl (hb hby at_153) rfl rfl k) ?_
    show own_G _ _ _ _ (T41.setTop (mkF m 155 #[.val (.int i0), .val (.int i1), .val (.int i2), .val (.int i3), .val (.int i4), .val (.int i5), .val (.int (3 : Int32)), .val (.ref b), .val (.int ((((i1 + i2) + i3) + (0 : Int32)) + (0 : Int32))), .val (.int ((((0 : Int32) + i1) + i2) + i3)), .unset] [(.ref b)]))
    refine own_via (fun _ k => XS.iconst X41.here hx rfl (hb hby at_155) k) ?_
    show own_G _ _ _ _ (T41.setTop (mkF m 156 #[.val (.int i0), .val (.int i1), .val (.int i2), .val (.int i3), .val (.int i4), .val (.int i5), .val (.int (3 : Int32)), .val (.ref b), .val (.int ((((i1 + i2) + i3) + (0 : Int32)) + (0 : Int32))), .val (.int ((((0 : Int32) + i1) + i2) + i3)), .unset] [(.int (0 : Int32)), (.ref b)]))
    obtain ⟨cl43, Ar43, -, Sz43, Nn43, Hh43, -⟩ := id V_b
    have hin43 : ¬ ((0 : Int32) < 0 ∨ cl43.slots.size ≤ ((0 : Int32)).toNatClampNeg) := inb_of Sz43 ⟨by decide, by decide⟩
    have hat43 : cl43.slots[((0 : Int32)).toNatClampNeg]? = some (.int i1) := Has.at Hh43 hin43 rfl
    refine own_via (fun _ k => X41.iaload hx (j := (0 : Int32)) (v := (.int i1)) (by rw [e41]; exact Ar43.1) (State.isArrayOf_alike hZ.alike Ar43.2.1) Ar43.2.2 hin43 hat43 (g := (mkF m 156 #[.val (.int i0), .val (.int i1), .val (.int i2), .val (.int i3), .val (.int i4), .val (.int i5), .val (.int (3 : Int32)), .val (.ref b), .val (.int ((((i1 + i2) + i3) + (0 : Int32)) + (0 : Int32))), .val (.int ((((0 : Int32) + i1) + i2) + i3)), .unset] [(.int (0 : Int32)), (.ref b)])) rfl rfl (hb hby at_156) _ k) ?_
    show own_G _ _ _ _ (T41.setTop (mkF m 157 #[.val (.int i0), .val (.int i1), .val (.int i2), .val (.int i3), .val (.int i4), .val (.int i5), .val (.int (3 : Int32)), .val (.ref b), .val (.int ((((i1 + i2) + i3) + (0 : Int32)) + (0 : Int32))), .val (.int ((((0 : Int32) + i1) + i2) + i3)), .unset] [(.int i1)]))
    refine own_via (fun _ k => XS.iloadN X41.here hx rfl (hb hby at_157) rfl k) ?_
    show own_G _ _ _ _ (T41.setTop (mkF m 158 #[.val (.int i0), .val (.int i1), .val (.int i2), .val (.int i3), .val (.int i4), .val (.int i5), .val (.int (3 : Int32)), .val (.ref b), .val (.int ((((i1 + i2) + i3) + (0 : Int32)) + (0 : Int32))), .val (.int ((((0 : Int32) + i1) + i2) + i3)), .unset] [(.int i1), (.int i1)]))
    refine own_via (fun _ k => XS.icmpNo X41.here hx rfl (hb hby at_158) rfl (teq rfl).2 k) ?_
    show own_G _ _ _ _ (T41.setTop (mkF m 161 #[.val (.int i0), .val (.int i1), .val (.int i2), .val (.int i3), .val (.int i4), .val (.int i5), .val (.int (3 : Int32)), .val (.ref b), .val (.int ((((i1 + i2) + i3) + (0 : Int32)) + (0 : Int32))), .val (.int ((((0 : Int32) + i1) + i2) + i3)), .unset] []))
    refine own_via (fun _ k => XS.iload X41.here hx rfl (hb hby at_161) rfl k) ?_
    show own_G _ _ _ _ (T41.setTop (mkF m 163 #[.val (.int i0), .val (.int i1), .val (.int i2), .val (.int i3), .val (.int i4), .val (.int i5), .val (.int (3 : Int32)), .val (.ref b), .val (.int ((((i1 + i2) + i3) + (0 : Int32)) + (0 : Int32))), .val (.int ((((0 : Int32) + i1) + i2) + i3)), .unset] [(.int (3 : Int32))]))
    refine own_via (fun _ k => XS.iconst X41.here hx rfl (hb hby at_163) k) ?_
    show own_G _ _ _ _ (T41.setTop (mkF m 164 #[.val (.int i0), .val (.int i1), .val (.int i2), .val (.int i3), .val (.int i4), .val (.int i5), .val (.int (3 : Int32)), .val (.ref b), .val (.int ((((i1 + i2) + i3) + (0 : Int32)) + (0 : Int32))), .val (.int ((((0 : Int32) + i1) + i2) + i3)), .unset] [(.int (1 : Int32)), (.int (3 : Int32))]))
    refine own_via (fun _ k => XS.icmpNo X41.here hx rfl (hb hby at_164) rfl (tlt (by decide)).2.2.2 k) ?_
    show own_G _ _ _ _ (T41.setTop (mkF m 167 #[.val (.int i0), .val (.int i1), .val (.int i2), .val (.int i3), .val (.int i4), .val (.int i5), .val (.int (3 : Int32)), .val (.ref b), .val (.int ((((i1 + i2) + i3) + (0 : Int32)) + (0 : Int32))), .val (.int ((((0 : Int32) + i1) + i2) + i3)), .unset] []))
    refine own_via (fun _ k => XS.aload X41.here hx rfl (hb hby at_167) rfl rfl k) ?_
    show own_G _ _ _ _ (T41.setTop (mkF m 169 #[.val (.int i0), .val (.int i1), .val (.int i2), .val (.int i3), .val (.int i4), .val (.int i5), .val (.int (3 : Int32)), .val (.ref b), .val (.int ((((i1 + i2) + i3) + (0 : Int32)) + (0 : Int32))), .val (.int ((((0 : Int32) + i1) + i2) + i3)), .unset] [(.ref b)]))
    refine own_via (fun _ k => XS.iconst X41.here hx rfl (hb hby at_169) k) ?_
    show own_G _ _ _ _ (T41.setTop (mkF m 170 #[.val (.int i0), .val (.int i1), .val (.int i2), .val (.int i3), .val (.int i4), .val (.int i5), .val (.int (3 : Int32)), .val (.ref b), .val (.int ((((i1 + i2) + i3) + (0 : Int32)) + (0 : Int32))), .val (.int ((((0 : Int32) + i1) + i2) + i3)), .unset] [(.int (1 : Int32)), (.ref b)]))
    obtain ⟨cl44, Ar44, -, Sz44, Nn44, Hh44, -⟩ := id V_b
    have hin44 : ¬ ((1 : Int32) < 0 ∨ cl44.slots.size ≤ ((1 : Int32)).toNatClampNeg) := inb_of Sz44 ⟨by decide, by decide⟩
    have hat44 : cl44.slots[((1 : Int32)).toNatClampNeg]? = some (.int i2) := Has.at Hh44 hin44 rfl
    refine own_via (fun _ k => X41.iaload hx (j := (1 : Int32)) (v := (.int i2)) (by rw [e41]; exact Ar44.1) (State.isArrayOf_alike hZ.alike Ar44.2.1) Ar44.2.2 hin44 hat44 (g := (mkF m 170 #[.val (.int i0), .val (.int i1), .val (.int i2), .val (.int i3), .val (.int i4), .val (.int i5), .val (.int (3 : Int32)), .val (.ref b), .val (.int ((((i1 + i2) + i3) + (0 : Int32)) + (0 : Int32))), .val (.int ((((0 : Int32) + i1) + i2) + i3)), .unset] [(.int (1 : Int32)), (.ref b)])) rfl rfl (hb hby at_170) _ k) ?_
    show own_G _ _ _ _ (T41.setTop (mkF m 171 #[.val (.int i0), .val (.int i1), .val (.int i2), .val (.int i3), .val (.int i4), .val (.int i5), .val (.int (3 : Int32)), .val (.ref b), .val (.int ((((i1 + i2) + i3) + (0 : Int32)) + (0 : Int32))), .val (.int ((((0 : Int32) + i1) + i2) + i3)), .unset] [(.int i2)]))
    refine own_via (fun _ k => XS.iloadN X41.here hx rfl (hb hby at_171) rfl k) ?_
    show own_G _ _ _ _ (T41.setTop (mkF m 172 #[.val (.int i0), .val (.int i1), .val (.int i2), .val (.int i3), .val (.int i4), .val (.int i5), .val (.int (3 : Int32)), .val (.ref b), .val (.int ((((i1 + i2) + i3) + (0 : Int32)) + (0 : Int32))), .val (.int ((((0 : Int32) + i1) + i2) + i3)), .unset] [(.int i2), (.int i2)]))
    refine own_via (fun _ k => XS.icmpNo X41.here hx rfl (hb hby at_172) rfl (teq rfl).2 k) ?_
    show own_G _ _ _ _ (T41.setTop (mkF m 175 #[.val (.int i0), .val (.int i1), .val (.int i2), .val (.int i3), .val (.int i4), .val (.int i5), .val (.int (3 : Int32)), .val (.ref b), .val (.int ((((i1 + i2) + i3) + (0 : Int32)) + (0 : Int32))), .val (.int ((((0 : Int32) + i1) + i2) + i3)), .unset] []))
    refine own_via (fun _ k => XS.iload X41.here hx rfl (hb hby at_175) rfl k) ?_
    show own_G _ _ _ _ (T41.setTop (mkF m 177 #[.val (.int i0), .val (.int i1), .val (.int i2), .val (.int i3), .val (.int i4), .val (.int i5), .val (.int (3 : Int32)), .val (.ref b), .val (.int ((((i1 + i2) + i3) + (0 : Int32)) + (0 : Int32))), .val (.int ((((0 : Int32) + i1) + i2) + i3)), .unset] [(.int (3 : Int32))]))
    refine own_via (fun _ k => XS.iconst X41.here hx rfl (hb hby at_177) k) ?_
    show own_G _ _ _ _ (T41.setTop (mkF m 178 #[.val (.int i0), .val (.int i1), .val (.int i2), .val (.int i3), .val (.int i4), .val (.int i5), .val (.int (3 : Int32)), .val (.ref b), .val (.int ((((i1 + i2) + i3) + (0 : Int32)) + (0 : Int32))), .val (.int ((((0 : Int32) + i1) + i2) + i3)), .unset] [(.int (2 : Int32)), (.int (3 : Int32))]))
    refine own_via (fun _ k => XS.icmpNo X41.here hx rfl (hb hby at_178) rfl (tlt (by decide)).2.2.2 k) ?_
    show own_G _ _ _ _ (T41.setTop (mkF m 181 #[.val (.int i0), .val (.int i1), .val (.int i2), .val (.int i3), .val (.int i4), .val (.int i5), .val (.int (3 : Int32)), .val (.ref b), .val (.int ((((i1 + i2) + i3) + (0 : Int32)) + (0 : Int32))), .val (.int ((((0 : Int32) + i1) + i2) + i3)), .unset] []))
    refine own_via (fun _ k => XS.aload X41.here hx rfl (hb hby at_181) rfl rfl k) ?_
    show own_G _ _ _ _ (T41.setTop (mkF m 183 #[.val (.int i0), .val (.int i1), .val (.int i2), .val (.int i3), .val (.int i4), .val (.int i5), .val (.int (3 : Int32)), .val (.ref b), .val (.int ((((i1 + i2) + i3) + (0 : Int32)) + (0 : Int32))), .val (.int ((((0 : Int32) + i1) + i2) + i3)), .unset] [(.ref b)]))
    refine own_via (fun _ k => XS.iconst X41.here hx rfl (hb hby at_183) k) ?_
    show own_G _ _ _ _ (T41.setTop (mkF m 184 #[.val (.int i0), .val (.int i1), .val (.int i2), .val (.int i3), .val (.int i4), .val (.int i5), .val (.int (3 : Int32)), .val (.ref b), .val (.int ((((i1 + i2) + i3) + (0 : Int32)) + (0 : Int32))), .val (.int ((((0 : Int32) + i1) + i2) + i3)), .unset] [(.int (2 : Int32)), (.ref b)]))
    obtain ⟨cl45, Ar45, -, Sz45, Nn45, Hh45, -⟩ := id V_b
    have hin45 : ¬ ((2 : Int32) < 0 ∨ cl45.slots.size ≤ ((2 : Int32)).toNatClampNeg) := inb_of Sz45 ⟨by decide, by decide⟩
    have hat45 : cl45.slots[((2 : Int32)).toNatClampNeg]? = some (.int i3) := Has.at Hh45 hin45 rfl
    refine own_via (fun _ k => X41.iaload hx (j := (2 : Int32)) (v := (.int i3)) (by rw [e41]; exact Ar45.1) (State.isArrayOf_alike hZ.alike Ar45.2.1) Ar45.2.2 hin45 hat45 (g := (mkF m 184 #[.val (.int i0), .val (.int i1), .val (.int i2), .val (.int i3), .val (.int i4), .val (.int i5), .val (.int (3 : Int32)), .val (.ref b), .val (.int ((((i1 + i2) + i3) + (0 : Int32)) + (0 : Int32))), .val (.int ((((0 : Int32) + i1) + i2) + i3)), .unset] [(.int (2 : Int32)), (.ref b)])) rfl rfl (hb hby at_184) _ k) ?_
    show own_G _ _ _ _ (T41.setTop (mkF m 185 #[.val (.int i0), .val (.int i1), .val (.int i2), .val (.int i3), .val (.int i4), .val (.int i5), .val (.int (3 : Int32)), .val (.ref b), .val (.int ((((i1 + i2) + i3) + (0 : Int32)) + (0 : Int32))), .val (.int ((((0 : Int32) + i1) + i2) + i3)), .unset] [(.int i3)]))
    refine own_via (fun _ k => XS.iloadN X41.here hx rfl (hb hby at_185) rfl k) ?_
    show own_G _ _ _ _ (T41.setTop (mkF m 186 #[.val (.int i0), .val (.int i1), .val (.int i2), .val (.int i3), .val (.int i4), .val (.int i5), .val (.int (3 : Int32)), .val (.ref b), .val (.int ((((i1 + i2) + i3) + (0 : Int32)) + (0 : Int32))), .val (.int ((((0 : Int32) + i1) + i2) + i3)), .unset] [(.int i3), (.int i3)]))
    refine own_via (fun _ k => XS.icmpNo X41.here hx rfl (hb hby at_186) rfl (teq rfl).2 k) ?_
    show own_G _ _ _ _ (T41.setTop (mkF m 189 #[.val (.int i0), .val (.int i1), .val (.int i2), .val (.int i3), .val (.int i4), .val (.int i5), .val (.int (3 : Int32)), .val (.ref b), .val (.int ((((i1 + i2) + i3) + (0 : Int32)) + (0 : Int32))), .val (.int ((((0 : Int32) + i1) + i2) + i3)), .unset] []))
    refine own_via (fun _ k => XS.iload X41.here hx rfl (hb hby at_189) rfl k) ?_
    show own_G _ _ _ _ (T41.setTop (mkF m 191 #[.val (.int i0), .val (.int i1), .val (.int i2), .val (.int i3), .val (.int i4), .val (.int i5), .val (.int (3 : Int32)), .val (.ref b), .val (.int ((((i1 + i2) + i3) + (0 : Int32)) + (0 : Int32))), .val (.int ((((0 : Int32) + i1) + i2) + i3)), .unset] [(.int (3 : Int32))]))
    refine own_via (fun _ k => XS.iconst X41.here hx rfl (hb hby at_191) k) ?_
    show own_G _ _ _ _ (T41.setTop (mkF m 192 #[.val (.int i0), .val (.int i1), .val (.int i2), .val (.int i3), .val (.int i4), .val (.int i5), .val (.int (3 : Int32)), .val (.ref b), .val (.int ((((i1 + i2) + i3) + (0 : Int32)) + (0 : Int32))), .val (.int ((((0 : Int32) + i1) + i2) + i3)), .unset] [(.int (3 : Int32)), (.int (3 : Int32))]))
    refine own_via (fun _ k => XS.icmpYes X41.here hx rfl (pc0 := 192) (pc' := 204) rfl (hb hby at_192) rfl (flt (by decide)).2.2.2 (by decide) (by decide) k) ?_
    show own_G _ _ _ _ (T41.setTop (mkF m 204 #[.val (.int i0), .val (.int i1), .val (.int i2), .val (.int i3), .val (.int i4), .val (.int i5), .val (.int (3 : Int32)), .val (.ref b), .val (.int ((((i1 + i2) + i3) + (0 : Int32)) + (0 : Int32))), .val (.int ((((0 : Int32) + i1) + i2) + i3)), .unset] []))
    refine own_via (fun _ k => XS.iload X41.here hx rfl (hb hby at_204) rfl k) ?_
    show own_G _ _ _ _ (T41.setTop (mkF m 206 #[.val (.int i0), .val (.int i1), .val (.int i2), .val (.int i3), .val (.int i4), .val (.int i5), .val (.int (3 : Int32)), .val (.ref b), .val (.int ((((i1 + i2) + i3) + (0 : Int32)) + (0 : Int32))), .val (.int ((((0 : Int32) + i1) + i2) + i3)), .unset] [(.int (3 : Int32))]))
    refine own_via (fun _ k => XS.iconst X41.here hx rfl (hb hby at_206) k) ?_
    show own_G _ _ _ _ (T41.setTop (mkF m 207 #[.val (.int i0), .val (.int i1), .val (.int i2), .val (.int i3), .val (.int i4), .val (.int i5), .val (.int (3 : Int32)), .val (.ref b), .val (.int ((((i1 + i2) + i3) + (0 : Int32)) + (0 : Int32))), .val (.int ((((0 : Int32) + i1) + i2) + i3)), .unset] [(.int (4 : Int32)), (.int (3 : Int32))]))
    refine own_via (fun _ k => XS.icmpYes X41.here hx rfl (pc0 := 207) (pc' := 219) rfl (hb hby at_207) rfl (flt (by decide)).2.2.2 (by decide) (by decide) k) ?_
    show own_G _ _ _ _ (T41.setTop (mkF m 219 #[.val (.int i0), .val (.int i1), .val (.int i2), .val (.int i3), .val (.int i4), .val (.int i5), .val (.int (3 : Int32)), .val (.ref b), .val (.int ((((i1 + i2) + i3) + (0 : Int32)) + (0 : Int32))), .val (.int ((((0 : Int32) + i1) + i2) + i3)), .unset] []))
    refine own_via (fun _ k => XS.iconst X41.here hx rfl (hb hby at_219) k) ?_
    show own_G _ _ _ _ (T41.setTop (mkF m 220 #[.val (.int i0), .val (.int i1), .val (.int i2), .val (.int i3), .val (.int i4), .val (.int i5), .val (.int (3 : Int32)), .val (.ref b), .val (.int ((((i1 + i2) + i3) + (0 : Int32)) + (0 : Int32))), .val (.int ((((0 : Int32) + i1) + i2) + i3)), .unset] [(.int (1 : Int32))]))
    refine own_via (fun _ k => XS.goto X41.here hx rfl (pc0 := 220) (pc' := 224) rfl (hb hby at_220) (by decide) (by decide) k) ?_
    show own_G _ _ _ _ (T41.setTop (mkF m 224 #[.val (.int i0), .val (.int i1), .val (.int i2), .val (.int i3), .val (.int i4), .val (.int i5), .val (.int (3 : Int32)), .val (.ref b), .val (.int ((((i1 + i2) + i3) + (0 : Int32)) + (0 : Int32))), .val (.int ((((0 : Int32) + i1) + i2) + i3)), .unset] [(.int (1 : Int32))]))
    refine own_via (fun _ k => XS.istore X41.here hx rfl (hb hby at_224) rfl (l' := #[.val (.int i0), .val (.int i1), .val (.int i2), .val (.int i3), .val (.int i4), .val (.int i5), .val (.int (3 : Int32)), .val (.ref b), .val (.int ((((i1 + i2) + i3) + (0 : Int32)) + (0 : Int32))), .val (.int ((((0 : Int32) + i1) + i2) + i3)), .val (.int (1 : Int32))]) rfl k) ?_
    show own_G _ _ _ _ (T41.setTop (mkF m 226 #[.val (.int i0), .val (.int i1), .val (.int i2), .val (.int i3), .val (.int i4), .val (.int i5), .val (.int (3 : Int32)), .val (.ref b), .val (.int ((((i1 + i2) + i3) + (0 : Int32)) + (0 : Int32))), .val (.int ((((0 : Int32) + i1) + i2) + i3)), .val (.int (1 : Int32))] []))
    refine own_via (fun _ k => XS.iload X41.here hx rfl (hb hby at_226) rfl k) ?_
    show own_G _ _ _ _ (T41.setTop (mkF m 228 #[.val (.int i0), .val (.int i1), .val (.int i2), .val (.int i3), .val (.int i4), .val (.int i5), .val (.int (3 : Int32)), .val (.ref b), .val (.int ((((i1 + i2) + i3) + (0 : Int32)) + (0 : Int32))), .val (.int ((((0 : Int32) + i1) + i2) + i3)), .val (.int (1 : Int32))] [(.int ((((0 : Int32) + i1) + i2) + i3))]))
    refine own_via (fun _ k => XS.iload X41.here hx rfl (hb hby at_228) rfl k) ?_
    show own_G _ _ _ _ (T41.setTop (mkF m 230 #[.val (.int i0), .val (.int i1), .val (.int i2), .val (.int i3), .val (.int i4), .val (.int i5), .val (.int (3 : Int32)), .val (.ref b), .val (.int ((((i1 + i2) + i3) + (0 : Int32)) + (0 : Int32))), .val (.int ((((0 : Int32) + i1) + i2) + i3)), .val (.int (1 : Int32))] [(.int ((((i1 + i2) + i3) + (0 : Int32)) + (0 : Int32))), (.int ((((0 : Int32) + i1) + i2) + i3))]))
    refine own_via (fun _ k => XS.icmpNo X41.here hx rfl (hb hby at_230) rfl (teq (by simp [Int32.zero_add, Int32.add_zero])).2 k) ?_
    show own_G _ _ _ _ (T41.setTop (mkF m 233 #[.val (.int i0), .val (.int i1), .val (.int i2), .val (.int i3), .val (.int i4), .val (.int i5), .val (.int (3 : Int32)), .val (.ref b), .val (.int ((((i1 + i2) + i3) + (0 : Int32)) + (0 : Int32))), .val (.int ((((0 : Int32) + i1) + i2) + i3)), .val (.int (1 : Int32))] []))
    refine own_via (fun _ k => XS.iload X41.here hx rfl (hb hby at_233) rfl k) ?_
    show own_G _ _ _ _ (T41.setTop (mkF m 235 #[.val (.int i0), .val (.int i1), .val (.int i2), .val (.int i3), .val (.int i4), .val (.int i5), .val (.int (3 : Int32)), .val (.ref b), .val (.int ((((i1 + i2) + i3) + (0 : Int32)) + (0 : Int32))), .val (.int ((((0 : Int32) + i1) + i2) + i3)), .val (.int (1 : Int32))] [(.int (1 : Int32))]))
    refine own_via (fun _ k => XS.ifNo X41.here hx rfl (hb hby at_235) rfl ((if0 _ _).trans (feq (by decide)).1) k) ?_
    show own_G _ _ _ _ (T41.setTop (mkF m 238 #[.val (.int i0), .val (.int i1), .val (.int i2), .val (.int i3), .val (.int i4), .val (.int i5), .val (.int (3 : Int32)), .val (.ref b), .val (.int ((((i1 + i2) + i3) + (0 : Int32)) + (0 : Int32))), .val (.int ((((0 : Int32) + i1) + i2) + i3)), .val (.int (1 : Int32))] []))
    refine own_via (fun _ k => XS.iconst X41.here hx rfl (hb hby at_238) k) ?_
    show own_G _ _ _ _ (T41.setTop (mkF m 239 #[.val (.int i0), .val (.int i1), .val (.int i2), .val (.int i3), .val (.int i4), .val (.int i5), .val (.int (3 : Int32)), .val (.ref b), .val (.int ((((i1 + i2) + i3) + (0 : Int32)) + (0 : Int32))), .val (.int ((((0 : Int32) + i1) + i2) + i3)), .val (.int (1 : Int32))] [(.int (1 : Int32))]))
    refine own_via (fun _ k => XS.goto X41.here hx rfl (pc0 := 239) (pc' := 243) rfl (hb hby at_239) (by decide) (by decide) k) ?_
    show own_G _ _ _ _ (T41.setTop (mkF m 243 #[.val (.int i0), .val (.int i1), .val (.int i2), .val (.int i3), .val (.int i4), .val (.int i5), .val (.int (3 : Int32)), .val (.ref b), .val (.int ((((i1 + i2) + i3) + (0 : Int32)) + (0 : Int32))), .val (.int ((((0 : Int32) + i1) + i2) + i3)), .val (.int (1 : Int32))] [(.int (1 : Int32))]))
    obtain ⟨fs, hr, hrun, hended, hW, hsame⟩ := X41.leave (v := some (.int (1 : Int32))) (fun h => by rw [Bd.returns] at h; cases h)
    exact ⟨_, _, retN X41 hx (t := .boolean) Bd.returns (by simp) (hb hby at_243) hr, hrun, hended, _, _, rfl, ⟨rfl, N41⟩, ⟨_, rfl⟩, hW, hsame.mono (by decide) (by decide)⟩
  · show own_G _ _ _ _ (s₁.setTop (mkF m 9 #[.val (.int i0), .val (.int i1), .val (.int i2), .val (.int i3), .val (.int i4), .val (.int i5), .val (.int (4 : Int32)), .unset, .unset, .unset, .unset] []))
    refine own_via (fun _ k => XS.iload X0.here hx rfl (hb hby at_9) rfl k) ?_
    show own_G _ _ _ _ (s₁.setTop (mkF m 11 #[.val (.int i0), .val (.int i1), .val (.int i2), .val (.int i3), .val (.int i4), .val (.int i5), .val (.int (4 : Int32)), .unset, .unset, .unset, .unset] [(.int (4 : Int32))]))
    obtain ⟨T46, h46, k_b, X46, e46, E46, A46, st46⟩ := newP X0 hx hZ (hw _ (List.mem_of_getElem? (i := 1) rfl)) e0 (g := (mkF m 11 #[.val (.int i0), .val (.int i1), .val (.int i2), .val (.int i3), .val (.int i4), .val (.int i5), .val (.int (4 : Int32)), .unset, .unset, .unset, .unset] [(.int (4 : Int32))])) rfl (hb hby at_11) rfl (by decide) (cap := 4) (by decide) (by decide) (by decide) (by decide)
    obtain ⟨b, g46⟩ : ∃ z, z = h0.size := ⟨_, rfl⟩
    rw [← g46] at A46 st46
    have g_b : n0 ≤ b := Nat.le_trans Z0 (Nat.le_of_eq g46.symm)
    have Z0 := Nat.le_trans Z0 E46.1
    have V_b : Arv Z h46 b k_b .int (4 : Int32) [(.int (0 : Int32)), (.int (0 : Int32)), (.int (0 : Int32)), (.int (0 : Int32))] (.int (0 : Int32)) := (Arv.new A46 (by decide)).pad (pad_rep [] (.int (0 : Int32)) 4)
    refine own_via st46 ?_
    show own_G _ _ _ _ (T46.setTop (mkF m 13 #[.val (.int i0), .val (.int i1), .val (.int i2), .val (.int i3), .val (.int i4), .val (.int i5), .val (.int (4 : Int32)), .unset, .unset, .unset, .unset] [(.ref b)]))
    refine own_via (fun _ k => XS.astore X46.here hx rfl (hb hby at_13) rfl rfl (l' := #[.val (.int i0), .val (.int i1), .val (.int i2), .val (.int i3), .val (.int i4), .val (.int i5), .val (.int (4 : Int32)), .val (.ref b), .unset, .unset, .unset]) rfl k) ?_
    show own_G _ _ _ _ (T46.setTop (mkF m 15 #[.val (.int i0), .val (.int i1), .val (.int i2), .val (.int i3), .val (.int i4), .val (.int i5), .val (.int (4 : Int32)), .val (.ref b), .unset, .unset, .unset] []))
    refine own_via (fun _ k => XS.iload X46.here hx rfl (hb hby at_15) rfl k) ?_
    show own_G _ _ _ _ (T46.setTop (mkF m 17 #[.val (.int i0), .val (.int i1), .val (.int i2), .val (.int i3), .val (.int i4), .val (.int i5), .val (.int (4 : Int32)), .val (.ref b), .unset, .unset, .unset] [(.int (4 : Int32))]))
    refine own_via (fun _ k => XS.ifNo X46.here hx rfl (hb hby at_17) rfl ((if0 _ _).trans (tlt (by decide)).2.2.2) k) ?_
    show own_G _ _ _ _ (T46.setTop (mkF m 20 #[.val (.int i0), .val (.int i1), .val (.int i2), .val (.int i3), .val (.int i4), .val (.int i5), .val (.int (4 : Int32)), .val (.ref b), .unset, .unset, .unset] []))
    refine own_via (fun _ k => XS.aload X46.here hx rfl (hb hby at_20) rfl rfl k) ?_
    show own_G _ _ _ _ (T46.setTop (mkF m 22 #[.val (.int i0), .val (.int i1), .val (.int i2), .val (.int i3), .val (.int i4), .val (.int i5), .val (.int (4 : Int32)), .val (.ref b), .unset, .unset, .unset] [(.ref b)]))
    refine own_via (fun _ k => XS.iconst X46.here hx rfl (hb hby at_22) k) ?_
    show own_G _ _ _ _ (T46.setTop (mkF m 23 #[.val (.int i0), .val (.int i1), .val (.int i2), .val (.int i3), .val (.int i4), .val (.int i5), .val (.int (4 : Int32)), .val (.ref b), .unset, .unset, .unset] [(.int (0 : Int32)), (.ref b)]))
    refine own_via (fun _ k => XS.iloadN X46.here hx rfl (hb hby at_23) rfl k) ?_
    show own_G _ _ _ _ (T46.setTop (mkF m 24 #[.val (.int i0), .val (.int i1), .val (.int i2), .val (.int i3), .val (.int i4), .val (.int i5), .val (.int (4 : Int32)), .val (.ref b), .unset, .unset, .unset] [(.int i1), (.int (0 : Int32)), (.ref b)]))
    obtain ⟨cl_b, Ar_b, q_b, S_b, Nn_b, H_b, G_b⟩ := V_b
    have hin47 : ¬ ((0 : Int32) < 0 ∨ cl_b.slots.size ≤ ((0 : Int32)).toNatClampNeg) := inb_of S_b ⟨by decide, by decide⟩
    obtain ⟨T47, h47, X47, e47, W47, st47⟩ := stI X46 hx hZ e46 Ar_b (j := (0 : Int32)) hin47 (g := (mkF m 24 #[.val (.int i0), .val (.int i1), .val (.int i2), .val (.int i3), .val (.int i4), .val (.int i5), .val (.int (4 : Int32)), .val (.ref b), .unset, .unset, .unset] [(.int i1), (.int (0 : Int32)), (.ref b)])) rfl rfl (hb hby at_24)
    have V_b : Arv Z h47 b k_b .int (4 : Int32) [(.int i1), (.int (0 : Int32)), (.int (0 : Int32)), (.int (0 : Int32))] (.int (0 : Int32)) := Arv.set Ar_b q_b S_b Nn_b H_b G_b rfl W47 0 rfl (Nat.le_of_ble_eq_true rfl)
    have Z0 := Nat.le_trans Z0 (Keep.of_wr W47).1
    have N47 := Fr.snoc X47 N0 g_b
    refine own_via st47 ?_
    show own_G _ _ _ _ (T47.setTop (mkF m 25 #[.val (.int i0), .val (.int i1), .val (.int i2), .val (.int i3), .val (.int i4), .val (.int i5), .val (.int (4 : Int32)), .val (.ref b), .unset, .unset, .unset] []))
    refine own_via (fun _ k => XS.iload X47.here hx rfl (hb hby at_25) rfl k) ?_
    show own_G _ _ _ _ (T47.setTop (mkF m 27 #[.val (.int i0), .val (.int i1), .val (.int i2), .val (.int i3), .val (.int i4), .val (.int i5), .val (.int (4 : Int32)), .val (.ref b), .unset, .unset, .unset] [(.int (4 : Int32))]))
    refine own_via (fun _ k => XS.iconst X47.here hx rfl (hb hby at_27) k) ?_
    show own_G _ _ _ _ (T47.setTop (mkF m 28 #[.val (.int i0), .val (.int i1), .val (.int i2), .val (.int i3), .val (.int i4), .val (.int i5), .val (.int (4 : Int32)), .val (.ref b), .unset, .unset, .unset] [(.int (1 : Int32)), (.int (4 : Int32))]))
    refine own_via (fun _ k => XS.icmpNo X47.here hx rfl (hb hby at_28) rfl (tlt (by decide)).2.2.2 k) ?_
    show own_G _ _ _ _ (T47.setTop (mkF m 31 #[.val (.int i0), .val (.int i1), .val (.int i2), .val (.int i3), .val (.int i4), .val (.int i5), .val (.int (4 : Int32)), .val (.ref b), .unset, .unset, .unset] []))
    refine own_via (fun _ k => XS.aload X47.here hx rfl (hb hby at_31) rfl rfl k) ?_
    show own_G _ _ _ _ (T47.setTop (mkF m 33 #[.val (.int i0), .val (.int i1), .val (.int i2), .val (.int i3), .val (.int i4), .val (.int i5), .val (.int (4 : Int32)), .val (.ref b), .unset, .unset, .unset] [(.ref b)]))
    refine own_via (fun _ k => XS.iconst X47.here hx rfl (hb hby at_33) k) ?_
    show own_G _ _ _ _ (T47.setTop (mkF m 34 #[.val (.int i0), .val (.int i1), .val (.int i2), .val (.int i3), .val (.int i4), .val (.int i5), .val (.int (4 : Int32)), .val (.ref b), .unset, .unset, .unset] [(.int (1 : Int32)), (.ref b)]))
    refine own_via (fun _ k => XS.iloadN X47.here hx rfl (hb hby at_34) rfl k) ?_
    show own_G _ _ _ _ (T47.setTop (mkF m 35 #[.val (.int i0), .val (.int i1), .val (.int i2), .val (.int i3), .val (.int i4), .val (.int i5), .val (.int (4 : Int32)), .val (.ref b), .unset, .unset, .unset] [(.int i2), (.int (1 : Int32)), (.ref b)]))
    obtain ⟨cl_b, Ar_b, q_b, S_b, Nn_b, H_b, G_b⟩ := V_b
    have hin48 : ¬ ((1 : Int32) < 0 ∨ cl_b.slots.size ≤ ((1 : Int32)).toNatClampNeg) := inb_of S_b ⟨by decide, by decide⟩
    obtain ⟨T48, h48, X48, e48, W48, st48⟩ := stI X47 hx hZ e47 Ar_b (j := (1 : Int32)) hin48 (g := (mkF m 35 #[.val (.int i0), .val (.int i1), .val (.int i2), .val (.int i3), .val (.int i4), .val (.int i5), .val (.int (4 : Int32)), .val (.ref b), .unset, .unset, .unset] [(.int i2), (.int (1 : Int32)), (.ref b)])) rfl rfl (hb hby at_35)
    have V_b : Arv Z h48 b k_b .int (4 : Int32) [(.int i1), (.int i2), (.int (0 : Int32)), (.int (0 : Int32))] (.int (0 : Int32)) := Arv.set Ar_b q_b S_b Nn_b H_b G_b rfl W48 1 rfl (Nat.le_of_ble_eq_true rfl)
    have Z0 := Nat.le_trans Z0 (Keep.of_wr W48).1
    have N48 := Fr.snoc X48 N47 g_b
    refine own_via st48 ?_
    show own_G _ _ _ _ (T48.setTop (mkF m 36 #[.val (.int i0), .val (.int i1), .val (.int i2), .val (.int i3), .val (.int i4), .val (.int i5), .val (.int (4 : Int32)), .val (.ref b), .unset, .unset, .unset] []))
    refine own_via (fun _ k => XS.iload X48.here hx rfl (hb hby at_36) rfl k) ?_
    show own_G _ _ _ _ (T48.setTop (mkF m 38 #[.val (.int i0), .val (.int i1), .val (.int i2), .val (.int i3), .val (.int i4), .val (.int i5), .val (.int (4 : Int32)), .val (.ref b), .unset, .unset, .unset] [(.int (4 : Int32))]))
    refine own_via (fun _ k => XS.iconst X48.here hx rfl (hb hby at_38) k) ?_
    show own_G _ _ _ _ (T48.setTop (mkF m 39 #[.val (.int i0), .val (.int i1), .val (.int i2), .val (.int i3), .val (.int i4), .val (.int i5), .val (.int (4 : Int32)), .val (.ref b), .unset, .unset, .unset] [(.int (2 : Int32)), (.int (4 : Int32))]))
    refine own_via (fun _ k => XS.icmpNo X48.here hx rfl (hb hby at_39) rfl (tlt (by decide)).2.2.2 k) ?_
    show own_G _ _ _ _ (T48.setTop (mkF m 42 #[.val (.int i0), .val (.int i1), .val (.int i2), .val (.int i3), .val (.int i4), .val (.int i5), .val (.int (4 : Int32)), .val (.ref b), .unset, .unset, .unset] []))
    refine own_via (fun _ k => XS.aload X48.here hx rfl (hb hby at_42) rfl rfl k) ?_
    show own_G _ _ _ _ (T48.setTop (mkF m 44 #[.val (.int i0), .val (.int i1), .val (.int i2), .val (.int i3), .val (.int i4), .val (.int i5), .val (.int (4 : Int32)), .val (.ref b), .unset, .unset, .unset] [(.ref b)]))
    refine own_via (fun _ k => XS.iconst X48.here hx rfl (hb hby at_44) k) ?_
    show own_G _ _ _ _ (T48.setTop (mkF m 45 #[.val (.int i0), .val (.int i1), .val (.int i2), .val (.int i3), .val (.int i4), .val (.int i5), .val (.int (4 : Int32)), .val (.ref b), .unset, .unset, .unset] [(.int (2 : Int32)), (.ref b)]))
    refine own_via (fun _ k => XS.iloadN X48.here hx rfl (hb hby at_45) rfl k) ?_
    show own_G _ _ _ _ (T48.setTop (mkF m 46 #[.val (.int i0), .val (.int i1), .val (.int i2), .val (.int i3), .val (.int i4), .val (.int i5), .val (.int (4 : Int32)), .val (.ref b), .unset, .unset, .unset] [(.int i3), (.int (2 : Int32)), (.ref b)]))
    obtain ⟨cl_b, Ar_b, q_b, S_b, Nn_b, H_b, G_b⟩ := V_b
    have hin49 : ¬ ((2 : Int32) < 0 ∨ cl_b.slots.size ≤ ((2 : Int32)).toNatClampNeg) := inb_of S_b ⟨by decide, by decide⟩
    obtain ⟨T49, h49, X49, e49, W49, st49⟩ := stI X48 hx hZ e48 Ar_b (j := (2 : Int32)) hin49 (g := (mkF m 46 #[.val (.int i0), .val (.int i1), .val (.int i2), .val (.int i3), .val (.int i4), .val (.int i5), .val (.int (4 : Int32)), .val (.ref b), .unset, .unset, .unset] [(.int i3), (.int (2 : Int32)), (.ref b)])) rfl rfl (hb hby at_46)
    have V_b : Arv Z h49 b k_b .int (4 : Int32) [(.int i1), (.int i2), (.int i3), (.int (0 : Int32))] (.int (0 : Int32)) := Arv.set Ar_b q_b S_b Nn_b H_b G_b rfl W49 2 rfl (Nat.le_of_ble_eq_true rfl)
    have Z0 := Nat.le_trans Z0 (Keep.of_wr W49).1
    have N49 := Fr.snoc X49 N48 g_b
    refine own_via st49 ?_
    show own_G _ _ _ _ (T49.setTop (mkF m 47 #[.val (.int i0), .val (.int i1), .val (.int i2), .val (.int i3), .val (.int i4), .val (.int i5), .val (.int (4 : Int32)), .val (.ref b), .unset, .unset, .unset] []))
    refine own_via (fun _ k => XS.iload X49.here hx rfl (hb hby at_47) rfl k) ?_
    show own_G _ _ _ _ (T49.setTop (mkF m 49 #[.val (.int i0), .val (.int i1), .val (.int i2), .val (.int i3), .val (.int i4), .val (.int i5), .val (.int (4 : Int32)), .val (.ref b), .unset, .unset, .unset] [(.int (4 : Int32))]))
    refine own_via (fun _ k => XS.iconst X49.here hx rfl (hb hby at_49) k) ?_
    show own_G _ _ _ _ (T49.setTop (mkF m 50 #[.val (.int i0), .val (.int i1), .val (.int i2), .val (.int i3), .val (.int i4), .val (.int i5), .val (.int (4 : Int32)), .val (.ref b), .unset, .unset, .unset] [(.int (3 : Int32)), (.int (4 : Int32))]))
    refine own_via (fun _ k => XS.icmpNo X49.here hx rfl (hb hby at_50) rfl (tlt (by decide)).2.2.2 k) ?_
    show own_G _ _ _ _ (T49.setTop (mkF m 53 #[.val (.int i0), .val (.int i1), .val (.int i2), .val (.int i3), .val (.int i4), .val (.int i5), .val (.int (4 : Int32)), .val (.ref b), .unset, .unset, .unset] []))
    refine own_via (fun _ k => XS.aload X49.here hx rfl (hb hby at_53) rfl rfl k) ?_
    show own_G _ _ _ _ (T49.setTop (mkF m 55 #[.val (.int i0), .val (.int i1), .val (.int i2), .val (.int i3), .val (.int i4), .val (.int i5), .val (.int (4 : Int32)), .val (.ref b), .unset, .unset, .unset] [(.ref b)]))
    refine own_via (fun _ k => XS.iconst X49.here hx rfl (hb hby at_55) k) ?_
    show own_G _ _ _ _ (T49.setTop (mkF m 56 #[.val (.int i0), .val (.int i1), .val (.int i2), .val (.int i3), .val (.int i4), .val (.int i5), .val (.int (4 : Int32)), .val (.ref b), .unset, .unset, .unset] [(.int (3 : Int32)), (.ref b)]))
    refine own_via (fun _ k => XS.iload X49.here hx rfl (hb hby at_56) rfl k) ?_
    show own_G _ _ _ _ (T49.setTop (mkF m 58 #[.val (.int i0), .val (.int i1), .val (.int i2), .val (.int i3), .val (.int i4), .val (.int i5), .val (.int (4 : Int32)), .val (.ref b), .unset, .unset, .unset] [(.int i4), (.int (3 : Int32)), (.ref b)]))
    obtain ⟨cl_b, Ar_b, q_b, S_b, Nn_b, H_b, G_b⟩ := V_b
    have hin50 : ¬ ((3 : Int32) < 0 ∨ cl_b.slots.size ≤ ((3 : Int32)).toNatClampNeg) := inb_of S_b ⟨by decide, by decide⟩
    obtain ⟨T50, h50, X50, e50, W50, st50⟩ := stI X49 hx hZ e49 Ar_b (j := (3 : Int32)) hin50 (g := (mkF m 58 #[.val (.int i0), .val (.int i1), .val (.int i2), .val (.int i3), .val (.int i4), .val (.int i5), .val (.int (4 : Int32)), .val (.ref b), .unset, .unset, .unset] [(.int i4), (.int (3 : Int32)), (.ref b)])) rfl rfl (hb hby at_58)
    have V_b : Arv Z h50 b k_b .int (4 : Int32) [(.int i1), (.int i2), (.int i3), (.int i4)] (.int (0 : Int32)) := Arv.set Ar_b q_b S_b Nn_b H_b G_b rfl W50 3 rfl (Nat.le_of_ble_eq_true rfl)
    have Z0 := Nat.le_trans Z0 (Keep.of_wr W50).1
    have N50 := Fr.snoc X50 N49 g_b
    refine own_via st50 ?_
    show own_G _ _ _ _ (T50.setTop (mkF m 59 #[.val (.int i0), .val (.int i1), .val (.int i2), .val (.int i3), .val (.int i4), .val (.int i5), .val (.int (4 : Int32)), .val (.ref b), .unset, .unset, .unset] []))
    refine own_via (fun _ k => XS.iload X50.here hx rfl (hb hby at_59) rfl k) ?_
    show own_G _ _ _ _ (T50.setTop (mkF m 61 #[.val (.int i0), .val (.int i1), .val (.int i2), .val (.int i3), .val (.int i4), .val (.int i5), .val (.int (4 : Int32)), .val (.ref b), .unset, .unset, .unset] [(.int (4 : Int32))]))
    refine own_via (fun _ k => XS.iconst X50.here hx rfl (hb hby at_61) k) ?_
    show own_G _ _ _ _ (T50.setTop (mkF m 62 #[.val (.int i0), .val (.int i1), .val (.int i2), .val (.int i3), .val (.int i4), .val (.int i5), .val (.int (4 : Int32)), .val (.ref b), .unset, .unset, .unset] [(.int (4 : Int32)), (.int (4 : Int32))]))
    refine own_via (fun _ k => XS.icmpYes X50.here hx rfl (pc0 := 62) (pc' := 71) rfl (hb hby at_62) rfl (flt (by decide)).2.2.2 (by decide) (by decide) k) ?_
    show own_G _ _ _ _ (T50.setTop (mkF m 71 #[.val (.int i0), .val (.int i1), .val (.int i2), .val (.int i3), .val (.int i4), .val (.int i5), .val (.int (4 : Int32)), .val (.ref b), .unset, .unset, .unset] []))
    refine own_via (fun _ k => XS.iload X50.here hx rfl (hb hby at_71) rfl k) ?_
    show own_G _ _ _ _ (T50.setTop (mkF m 73 #[.val (.int i0), .val (.int i1), .val (.int i2), .val (.int i3), .val (.int i4), .val (.int i5), .val (.int (4 : Int32)), .val (.ref b), .unset, .unset, .unset] [(.int (4 : Int32))]))
    refine own_via (fun _ k => XS.ifNo X50.here hx rfl (hb hby at_73) rfl ((if0 _ _).trans (tlt (by decide)).2.2.2) k) ?_
    show own_G _ _ _ _ (T50.setTop (mkF m 76 #[.val (.int i0), .val (.int i1), .val (.int i2), .val (.int i3), .val (.int i4), .val (.int i5), .val (.int (4 : Int32)), .val (.ref b), .unset, .unset, .unset] []))
    refine own_via (fun _ k => XS.iloadN X50.here hx rfl (hb hby at_76) rfl k) ?_
    show own_G _ _ _ _ (T50.setTop (mkF m 77 #[.val (.int i0), .val (.int i1), .val (.int i2), .val (.int i3), .val (.int i4), .val (.int i5), .val (.int (4 : Int32)), .val (.ref b), .unset, .unset, .unset] [(.int i1)]))
    refine own_via (fun _ k => XS.goto X50.here hx rfl (pc0 := 77) (pc' := 81) rfl (hb hby at_77) (by decide) (by decide) k) ?_
    show own_G _ _ _ _ (T50.setTop (mkF m 81 #[.val (.int i0), .val (.int i1), .val (.int i2), .val (.int i3), .val (.int i4), .val (.int i5), .val (.int (4 : Int32)), .val (.ref b), .unset, .unset, .unset] [(.int i1)]))
    refine own_via (fun _ k => XS.iload X50.here hx rfl (hb hby at_81) rfl k) ?_
    show own_G _ _ _ _ (T50.setTop (mkF m 83 #[.val (.int i0), .val (.int i1), .val (.int i2), .val (.int i3), .val (.int i4), .val (.int i5), .val (.int (4 : Int32)), .val (.ref b), .unset, .unset, .unset] [(.int (4 : Int32)), (.int i1)]))
    refine own_via (fun _ k => XS.iconst X50.here hx rfl (hb hby at_83) k) ?_
    show own_G _ _ _ _ (T50.setTop (mkF m 84 #[.val (.int i0), .val (.int i1), .val (.int i2), .val (.int i3), .val (.int i4), .val (.int i5), .val (.int (4 : Int32)), .val (.ref b), .unset, .unset, .unset] [(.int (1 : Int32)), (.int (4 : Int32)), (.int i1)]))
    refine own_via (fun _ k => XS.icmpNo X50.here hx rfl (hb hby at_84) rfl (tlt (by decide)).2.2.2 k) ?_
    show own_G _ _ _ _ (T50.setTop (mkF m 87 #[.val (.int i0), .val (.int i1), .val (.int i2), .val (.int i3), .val (.int i4), .val (.int i5), .val (.int (4 : Int32)), .val (.ref b), .unset, .unset, .unset] [(.int i1)]))
    refine own_via (fun _ k => XS.iloadN X50.here hx rfl (hb hby at_87) rfl k) ?_
    show own_G _ _ _ _ (T50.setTop (mkF m 88 #[.val (.int i0), .val (.int i1), .val (.int i2), .val (.int i3), .val (.int i4), .val (.int i5), .val (.int (4 : Int32)), .val (.ref b), .unset, .unset, .unset] [(.int i2), (.int i1)]))
    refine own_via (fun _ k => XS.goto X50.here hx rfl (pc0 := 88) (pc' := 92) rfl (hb hby at_88) (by decide) (by decide) k) ?_
    show own_G _ _ _ _ (T50.setTop (mkF m 92 #[.val (.int i0), .val (.int i1), .val (.int i2), .val (.int i3), .val (.int i4), .val (.int i5), .val (.int (4 : Int32)), .val (.ref b), .unset, .unset, .unset] [(.int i2), (.int i1)]))
    refine own_via (fun _ k => XS.iadd X50.here hx rfl (hb hby at_92) rfl k) ?_
    show own_G _ _ _ _ (T50.setTop (mkF m 93 #[.val (.int i0), .val (.int i1), .val (.int i2), .val (.int i3), .val (.int i4), .val (.int i5), .val (.int (4 : Int32)), .val (.ref b), .unset, .unset, .unset] [(.int (i1 + i2))]))
    refine own_via (fun _ k => XS.iload X50.here hx rfl (hb hby at_93) rfl k) ?_
    show own_G _ _ _ _ (T50.setTop (mkF m 95 #[.val (.int i0), .val (.int i1), .val (.int i2), .val (.int i3), .val (.int i4), .val (.int i5), .val (.int (4 : Int32)), .val (.ref b), .unset, .unset, .unset] [(.int (4 : Int32)), (.int (i1 + i2))]))
    refine own_via (fun _ k => XS.iconst X50.here hx rfl (hb hby at_95) k) ?_
    show own_G _ _ _ _ (T50.setTop (mkF m 96 #[.val (.int i0), .val (.int i1), .val (.int i2), .val (.int i3), .val (.int i4), .val (.int i5), .val (.int (4 : Int32)), .val (.ref b), .unset, .unset, .unset] [(.int (2 : Int32)), (.int (4 : Int32)), (.int (i1 + i2))]))
    refine own_via (fun _ k => XS.icmpNo X50.here hx rfl (hb hby at_96) rfl (tlt (by decide)).2.2.2 k) ?_
    show own_G _ _ _ _ (T50.setTop (mkF m 99 #[.val (.int i0), .val (.int i1), .val (.int i2), .val (.int i3), .val (.int i4), .val (.int i5), .val (.int (4 : Int32)), .val (.ref b), .unset, .unset, .unset] [(.int (i1 + i2))]))
    refine own_via (fun _ k => XS.iloadN X50.here hx rfl (hb hby at_99) rfl k) ?_
    show own_G _ _ _ _ (T50.setTop (mkF m 100 #[.val (.int i0), .val (.int i1), .val (.int i2), .val (.int i3), .val (.int i4), .val (.int i5), .val (.int (4 : Int32)), .val (.ref b), .unset, .unset, .unset] [(.int i3), (.int (i1 + i2))]))
    refine own_via (fun _ k => XS.goto X50.here hx rfl (pc0 := 100) (pc' := 104) rfl (hb hby at_100) (by decide) (by decide) k) ?_
    show own_G _ _ _ _ (T50.setTop (mkF m 104 #[.val (.int i0), .val (.int i1), .val (.int i2), .val (.int i3), .val (.int i4), .val (.int i5), .val (.int (4 : Int32)), .val (.ref b), .unset, .unset, .unset] [(.int i3), (.int (i1 + i2))]))
    refine own_via (fun _ k => XS.iadd X50.here hx rfl (hb hby at_104) rfl k) ?_
    show own_G _ _ _ _ (T50.setTop (mkF m 105 #[.val (.int i0), .val (.int i1), .val (.int i2), .val (.int i3), .val (.int i4), .val (.int i5), .val (.int (4 : Int32)), .val (.ref b), .unset, .unset, .unset] [(.int ((i1 + i2) + i3))]))
    refine own_via (fun _ k => XS.iload X50.here hx rfl (hb hby at_105) rfl k) ?_
    show own_G _ _ _ _ (T50.setTop (mkF m 107 #[.val (.int i0), .val (.int i1), .val (.int i2), .val (.int i3), .val (.int i4), .val (.int i5), .val (.int (4 : Int32)), .val (.ref b), .unset, .unset, .unset] [(.int (4 : Int32)), (.int ((i1 + i2) + i3))]))
    refine own_via (fun _ k => XS.iconst X50.here hx rfl (hb hby at_107) k) ?_
    show own_G _ _ _ _ (T50.setTop (mkF m 108 #[.val (.int i0), .val (.int i1), .val (.int i2), .val (.int i3), .val (.int i4), .val (.int i5), .val (.int (4 : Int32)), .val (.ref b), .unset, .unset, .unset] [(.int (3 : Int32)), (.int (4 : Int32)), (.int ((i1 + i2) + i3))]))
    refine own_via (fun _ k => XS.icmpNo X50.here hx rfl (hb hby at_108) rfl (tlt (by decide)).2.2.2 k) ?_
    show own_G _ _ _ _ (T50.setTop (mkF m 111 #[.val (.int i0), .val (.int i1), .val (.int i2), .val (.int i3), .val (.int i4), .val (.int i5), .val (.int (4 : Int32)), .val (.ref b), .unset, .unset, .unset] [(.int ((i1 + i2) + i3))]))
    refine own_via (fun _ k => XS.iload X50.here hx rfl (hb hby at_111) rfl k) ?_
    show own_G _ _ _ _ (T50.setTop (mkF m 113 #[.val (.int i0), .val (.int i1), .val (.int i2), .val (.int i3), .val (.int i4), .val (.int i5), .val (.int (4 : Int32)), .val (.ref b), .unset, .unset, .unset] [(.int i4), (.int ((i1 + i2) + i3))]))
    refine own_via (fun _ k => XS.goto X50.here hx rfl (pc0 := 113) (pc' := 117) rfl (hb hby at_113) (by decide) (by decide) k) ?_
    show own_G _ _ _ _ (T50.setTop (mkF m 117 #[.val (.int i0), .val (.int i1), .val (.int i2), .val (.int i3), .val (.int i4), .val (.int i5), .val (.int (4 : Int32)), .val (.ref b), .unset, .unset, .unset] [(.int i4), (.int ((i1 + i2) + i3))]))
    refine own_via (fun _ k => XS.iadd X50.here hx rfl (hb hby at_117) rfl k) ?_
    show own_G _ _ _ _ (T50.setTop (mkF m 118 #[.val (.int i0), .val (.int i1), .val (.int i2), .val (.int i3), .val (.int i4), .val (.int i5), .val (.int (4 : Int32)), .val (.ref b), .unset, .unset, .unset] [(.int (((i1 + i2) + i3) + i4))]))
    refine own_via (fun _ k => XS.iload X50.here hx rfl (hb hby at_118) rfl k) ?_
    show own_G _ _ _ _ (T50.setTop (mkF m 120 #[.val (.int i0), .val (.int i1), .val (.int i2), .val (.int i3), .val (.int i4), .val (.int i5), .val (.int (4 : Int32)), .val (.ref b), .unset, .unset, .unset] [(.int (4 : Int32)), (.int (((i1 + i2) + i3) + i4))]))
    refine own_via (fun _ k => XS.iconst X50.here hx rfl (hb hby at_120) k) ?_
    show own_G _ _ _ _ (T50.setTop (mkF m 121 #[.val (.int i0), .val (.int i1), .val (.int i2), .val (.int i3), .val (.int i4), .val (.int i5), .val (.int (4 : Int32)), .val (.ref b), .unset, .unset, .unset] [(.int (4 : Int32)), (.int (4 : Int32)), (.int (((i1 + i2) + i3) + i4))]))
    refine own_via (fun _ k => XS.icmpYes X50.here hx rfl (pc0 := 121) (pc' := 129) rfl (hb hby at_121) rfl (flt (by decide)).2.2.2 (by decide) (by decide) k) ?_
    show own_G _ _ _ _ (T50.setTop (mkF m 129 #[.val (.int i0), .val (.int i1), .val (.int i2), .val (.int i3), .val (.int i4), .val (.int i5), .val (.int (4 : Int32)), .val (.ref b), .unset, .unset, .unset] [(.int (((i1 + i2) + i3) + i4))]))
    refine own_via (fun _ k => XS.iconst X50.here hx rfl (hb hby at_129) k) ?_
    show own_G _ _ _ _ (T50.setTop (mkF m 130 #[.val (.int i0), .val (.int i1), .val (.int i2), .val (.int i3), .val (.int i4), .val (.int i5), .val (.int (4 : Int32)), .val (.ref b), .unset, .unset, .unset] [(.int (0 : Int32)), (.int (((i1 + i2) + i3) + i4))]))
    refine own_via (fun _ k => XS.iadd X50.here hx rfl (hb hby at_130) rfl k) ?_
    show own_G _ _ _ _ (T50.setTop (mkF m 131 #[.val (.int i0), .val (.int i1), .val (.int i2), .val (.int i3), .val (.int i4), .val (.int i5), .val (.int (4 : Int32)), .val (.ref b), .unset, .unset, .unset] [(.int ((((i1 + i2) + i3) + i4) + (0 : Int32)))]))
    refine own_via (fun _ k => XS.istore X50.here hx rfl (hb hby at_131) rfl (l' := #[.val (.int i0), .val (.int i1), .val (.int i2), .val (.int i3), .val (.int i4), .val (.int i5), .val (.int (4 : Int32)), .val (.ref b), .val (.int ((((i1 + i2) + i3) + i4) + (0 : Int32))), .unset, .unset]) rfl k) ?_
    show own_G _ _ _ _ (T50.setTop (mkF m 133 #[.val (.int i0), .val (.int i1), .val (.int i2), .val (.int i3), .val (.int i4), .val (.int i5), .val (.int (4 : Int32)), .val (.ref b), .val (.int ((((i1 + i2) + i3) + i4) + (0 : Int32))), .unset, .unset] []))
    refine own_via (fun _ k => XS.aload X50.here hx rfl (hb hby at_133) rfl rfl k) ?_
    show own_G _ _ _ _ (T50.setTop (mkF m 135 #[.val (.int i0), .val (.int i1), .val (.int i2), .val (.int i3), .val (.int i4), .val (.int i5), .val (.int (4 : Int32)), .val (.ref b), .val (.int ((((i1 + i2) + i3) + i4) + (0 : Int32))), .unset, .unset] [(.ref b)]))
    obtain ⟨_, _, ⟨T51, L51, k51, n51⟩, -, X51, ⟨Lc51, hQ51, l51, y51, z51⟩, st51⟩ := Jvm.LawKit.callS X50 hx (y := (⟨"com/example/vanon/vanon/lattice/Lattice", "height", "([I)I"⟩ : MethodName)) hown (mvT hZ (hw _ (List.mem_of_getElem? (i := 2) rfl))) (mvT hZ (hw _ (List.mem_of_getElem? (i := 3) rfl))) (mvT hZ (hw _ (List.mem_of_getElem? (i := 4) rfl))) (mvT hZ (hw _ (List.mem_of_getElem? (i := 5) rfl))) (by decide) (backOf (W := 0) (rmh4 l Z a0 hw [] b k_b i1 i2 i3 i4 h50 n0 Z0 V_b) hZ (hw _ (List.mem_of_getElem? (i := 5) rfl)) (hw _ (List.mem_of_getElem? (i := 4) rfl)) (by decide) (by decide)) (g := (mkF m 135 #[.val (.int i0), .val (.int i1), .val (.int i2), .val (.int i3), .val (.int i4), .val (.int i5), .val (.int (4 : Int32)), .val (.ref b), .val (.int ((((i1 + i2) + i3) + i4) + (0 : Int32))), .unset, .unset] [(.ref b)])) rfl (by rw [hml]; rfl) (argsL := [(.ref b)]) (rest := []) (lenOf pd_0 rfl) rfl (by show 2 * 0 + _ ≤ _; exact Nat.le_of_eq rfl) (hb hby at_135) (fun _ _ => ⟨rfl, e50, Nat.le_of_ble_eq_true rfl, Nat.le_of_ble_eq_true rfl⟩)
    dsimp only [Pt.U, Pt.locs, Pt.cells, Pt.slots] at X51 l51 y51 z51 st51 hQ51
    subst l51 y51 z51
    obtain ⟨rfl, N51q, e51⟩ := hQ51
    have N51 := Fr.app N50 N51q
    refine own_via st51 ?_
    show own_G _ _ _ _ (T51.setTop (mkF m 138 #[.val (.int i0), .val (.int i1), .val (.int i2), .val (.int i3), .val (.int i4), .val (.int i5), .val (.int (4 : Int32)), .val (.ref b), .val (.int ((((i1 + i2) + i3) + i4) + (0 : Int32))), .unset, .unset] [(.int (((((0 : Int32) + i1) + i2) + i3) + i4))]))
    refine own_via (fun _ k => XS.istore X51.here hx rfl (hb hby at_138) rfl (l' := #[.val (.int i0), .val (.int i1), .val (.int i2), .val (.int i3), .val (.int i4), .val (.int i5), .val (.int (4 : Int32)), .val (.ref b), .val (.int ((((i1 + i2) + i3) + i4) + (0 : Int32))), .val (.int (((((0 : Int32) + i1) + i2) + i3) + i4)), .unset]) rfl k) ?_
    show own_G _ _ _ _ (T51.setTop (mkF m 140 #[.val (.int i0), .val (.int i1), .val (.int i2), .val (.int i3), .val (.int i4), .val (.int i5), .val (.int (4 : Int32)), .val (.ref b), .val (.int ((((i1 + i2) + i3) + i4) + (0 : Int32))), .val (.int (((((0 : Int32) + i1) + i2) + i3) + i4)), .unset] []))
    refine own_via (fun _ k => XS.aload X51.here hx rfl (hb hby at_140) rfl rfl k) ?_
    show own_G _ _ _ _ (T51.setTop (mkF m 142 #[.val (.int i0), .val (.int i1), .val (.int i2), .val (.int i3), .val (.int i4), .val (.int i5), .val (.int (4 : Int32)), .val (.ref b), .val (.int ((((i1 + i2) + i3) + i4) + (0 : Int32))), .val (.int (((((0 : Int32) + i1) + i2) + i3) + i4)), .unset] [(.ref b)]))
    obtain ⟨cl52, Ar52, -, Sz52, Nn52, -, -⟩ := id V_b
    refine own_via (fun _ k => X51.arraylength hx (by rw [e51]; exact Ar52.1) (State.isArrayOf_alike hZ.alike Ar52.2.1) (g := (mkF m 142 #[.val (.int i0), .val (.int i1), .val (.int i2), .val (.int i3), .val (.int i4), .val (.int i5), .val (.int (4 : Int32)), .val (.ref b), .val (.int ((((i1 + i2) + i3) + i4) + (0 : Int32))), .val (.int (((((0 : Int32) + i1) + i2) + i3) + i4)), .unset] [(.ref b)])) rfl rfl (hb hby at_142) _ k) ?_
    rw [len_of Sz52 Nn52]
    show own_G _ _ _ _ (T51.setTop (mkF m 143 #[.val (.int i0), .val (.int i1), .val (.int i2), .val (.int i3), .val (.int i4), .val (.int i5), .val (.int (4 : Int32)), .val (.ref b), .val (.int ((((i1 + i2) + i3) + i4) + (0 : Int32))), .val (.int (((((0 : Int32) + i1) + i2) + i3) + i4)), .unset] [(.int (4 : Int32))]))
    refine own_via (fun _ k => XS.iload X51.here hx rfl (hb hby at_143) rfl k) ?_
    show own_G _ _ _ _ (T51.setTop (mkF m 145 #[.val (.int i0), .val (.int i1), .val (.int i2), .val (.int i3), .val (.int i4), .val (.int i5), .val (.int (4 : Int32)), .val (.ref b), .val (.int ((((i1 + i2) + i3) + i4) + (0 : Int32))), .val (.int (((((0 : Int32) + i1) + i2) + i3) + i4)), .unset] [(.int (4 : Int32)), (.int (4 : Int32))]))
    refine own_via (fun _ k => XS.icmpNo X51.here hx rfl (hb hby at_145) rfl (teq (by decide)).2 k) ?_
    show own_G _ _ _ _ (T51.setTop (mkF m 148 #[.val (.int i0), .val (.int i1), .val (.int i2), .val (.int i3), .val (.int i4), .val (.int i5), .val (.int (4 : Int32)), .val (.ref b), .val (.int ((((i1 + i2) + i3) + i4) + (0 : Int32))), .val (.int (((((0 : Int32) + i1) + i2) + i3) + i4)), .unset] []))
    refine own_via (fun _ k => XS.iload X51.here hx rfl (hb hby at_148) rfl k) ?_
    show own_G _ _ _ _ (T51.setTop (mkF m 150 #[.val (.int i0), .val (.int i1), .val (.int i2), .val (.int i3), .val (.int i4), .val (.int i5), .val (.int (4 : Int32)), .val (.ref b), .val (.int ((((i1 + i2) + i3) + i4) + (0 : Int32))), .val (.int (((((0 : Int32) + i1) + i2) + i3) + i4)), .unset] [(.int (4 : Int32))]))
    refine own_via (fun _ k => XS.ifNo X51.here hx rfl (hb hby at_150) rfl ((if0 _ _).trans (tlt (by decide)).2.2.2) k) ?_
    show own_G _ _ _ _ (T51.setTop (mkF m 153 #[.val (.int i0), .val (.int i1), .val (.int i2), .val (.int i3), .val (.int i4), .val (.int i5), .val (.int (4 : Int32)), .val (.ref b), .val (.int ((((i1 + i2) + i3) + i4) + (0 : Int32))), .val (.int (((((0 : Int32) + i1) + i2) + i3) + i4)), .unset] []))
    refine own_via (fun _ k => XS.aload X51.here hx rfl (hb hby at_153) rfl rfl k) ?_
    show own_G _ _ _ _ (T51.setTop (mkF m 155 #[.val (.int i0), .val (.int i1), .val (.int i2), .val (.int i3), .val (.int i4), .val (.int i5), .val (.int (4 : Int32)), .val (.ref b), .val (.int ((((i1 + i2) + i3) + i4) + (0 : Int32))), .val (.int (((((0 : Int32) + i1) + i2) + i3) + i4)), .unset] [(.ref b)]))
    refine own_via (fun _ k => XS.iconst X51.here hx rfl (hb hby at_155) k) ?_
    show own_G _ _ _ _ (T51.setTop (mkF m 156 #[.val (.int i0), .val (.int i1), .val (.int i2), .val (.int i3), .val (.int i4), .val (.int i5), .val (.int (4 : Int32)), .val (.ref b), .val (.int ((((i1 + i2) + i3) + i4) + (0 : Int32))), .val (.int (((((0 : Int32) + i1) + i2) + i3) + i4)), .unset] [(.int (0 : Int32)), (.ref b)]))
    obtain ⟨cl53, Ar53, -, Sz53, Nn53, Hh53, -⟩ := id V_b
    have hin53 : ¬ ((0 : Int32) < 0 ∨ cl53.slots.size ≤ ((0 : Int32)).toNatClampNeg) := inb_of Sz53 ⟨by decide, by decide⟩
    have hat53 : cl53.slots[((0 : Int32)).toNatClampNeg]? = some (.int i1) := Has.at Hh53 hin53 rfl
    refine own_via (fun _ k => X51.iaload hx (j := (0 : Int32)) (v := (.int i1)) (by rw [e51]; exact Ar53.1) (State.isArrayOf_alike hZ.alike Ar53.2.1) Ar53.2.2 hin53 hat53 (g := (mkF m 156 #[.val (.int i0), .val (.int i1), .val (.int i2), .val (.int i3), .val (.int i4), .val (.int i5), .val (.int (4 : Int32)), .val (.ref b), .val (.int ((((i1 + i2) + i3) + i4) + (0 : Int32))), .val (.int (((((0 : Int32) + i1) + i2) + i3) + i4)), .unset] [(.int (0 : Int32)), (.ref b)])) rfl rfl (hb hby at_156) _ k) ?_
    show own_G _ _ _ _ (T51.setTop (mkF m 157 #[.val (.int i0), .val (.int i1), .val (.int i2), .val (.int i3), .val (.int i4), .val (.int i5), .val (.int (4 : Int32)), .val (.ref b), .val (.int ((((i1 + i2) + i3) + i4) + (0 : Int32))), .val (.int (((((0 : Int32) + i1) + i2) + i3) + i4)), .unset] [(.int i1)]))
    refine own_via (fun _ k => XS.iloadN X51.here hx rfl (hb hby at_157) rfl k) ?_
    show own_G _ _ _ _ (T51.setTop (mkF m 158 #[.val (.int i0), .val (.int i1), .val (.int i2), .val (.int i3), .val (.int i4), .val (.int i5), .val (.int (4 : Int32)), .val (.ref b), .val (.int ((((i1 + i2) + i3) + i4) + (0 : Int32))), .val (.int (((((0 : Int32) + i1) + i2) + i3) + i4)), .unset] [(.int i1), (.int i1)]))
    refine own_via (fun _ k => XS.icmpNo X51.here hx rfl (hb hby at_158) rfl (teq rfl).2 k) ?_
    show own_G _ _ _ _ (T51.setTop (mkF m 161 #[.val (.int i0), .val (.int i1), .val (.int i2), .val (.int i3), .val (.int i4), .val (.int i5), .val (.int (4 : Int32)), .val (.ref b), .val (.int ((((i1 + i2) + i3) + i4) + (0 : Int32))), .val (.int (((((0 : Int32) + i1) + i2) + i3) + i4)), .unset] []))
    refine own_via (fun _ k => XS.iload X51.here hx rfl (hb hby at_161) rfl k) ?_
    show own_G _ _ _ _ (T51.setTop (mkF m 163 #[.val (.int i0), .val (.int i1), .val (.int i2), .val (.int i3), .val (.int i4), .val (.int i5), .val (.int (4 : Int32)), .val (.ref b), .val (.int ((((i1 + i2) + i3) + i4) + (0 : Int32))), .val (.int (((((0 : Int32) + i1) + i2) + i3) + i4)), .unset] [(.int (4 : Int32))]))
    refine own_via (fun _ k => XS.iconst X51.here hx rfl (hb hby at_163) k) ?_
    show own_G _ _ _ _ (T51.setTop (mkF m 164 #[.val (.int i0), .val (.int i1), .val (.int i2), .val (.int i3), .val (.int i4), .val (.int i5), .val (.int (4 : Int32)), .val (.ref b), .val (.int ((((i1 + i2) + i3) + i4) + (0 : Int32))), .val (.int (((((0 : Int32) + i1) + i2) + i3) + i4)), .unset] [(.int (1 : Int32)), (.int (4 : Int32))]))
    refine own_via (fun _ k => XS.icmpNo X51.here hx rfl (hb hby at_164) rfl (tlt (by decide)).2.2.2 k) ?_
    show own_G _ _ _ _ (T51.setTop (mkF m 167 #[.val (.int i0), .val (.int i1), .val (.int i2), .val (.int i3), .val (.int i4), .val (.int i5), .val (.int (4 : Int32)), .val (.ref b), .val (.int ((((i1 + i2) + i3) + i4) + (0 : Int32))), .val (.int (((((0 : Int32) + i1) + i2) + i3) + i4)), .unset] []))
    refine own_via (fun _ k => XS.aload X51.here hx rfl (hb hby at_167) rfl rfl k) ?_
    show own_G _ _ _ _ (T51.setTop (mkF m 169 #[.val (.int i0), .val (.int i1), .val (.int i2), .val (.int i3), .val (.int i4), .val (.int i5), .val (.int (4 : Int32)), .val (.ref b), .val (.int ((((i1 + i2) + i3) + i4) + (0 : Int32))), .val (.int (((((0 : Int32) + i1) + i2) + i3) + i4)), .unset] [(.ref b)]))
    refine own_via (fun _ k => XS.iconst X51.here hx rfl (hb hby at_169) k) ?_
    show own_G _ _ _ _ (T51.setTop (mkF m 170 #[.val (.int i0), .val (.int i1), .val (.int i2), .val (.int i3), .val (.int i4), .val (.int i5), .val (.int (4 : Int32)), .val (.ref b), .val (.int ((((i1 + i2) + i3) + i4) + (0 : Int32))), .val (.int (((((0 : Int32) + i1) + i2) + i3) + i4)), .unset] [(.int (1 : Int32)), (.ref b)]))
    obtain ⟨cl54, Ar54, -, Sz54, Nn54, Hh54, -⟩ := id V_b
    have hin54 : ¬ ((1 : Int32) < 0 ∨ cl54.slots.size ≤ ((1 : Int32)).toNatClampNeg) := inb_of Sz54 ⟨by decide, by decide⟩
    have hat54 : cl54.slots[((1 : Int32)).toNatClampNeg]? = some (.int i2) := Has.at Hh54 hin54 rfl
    refine own_via (fun _ k => X51.iaload hx (j := (1 : Int32)) (v := (.int i2)) (by rw [e51]; exact Ar54.1) (State.isArrayOf_alike hZ.alike Ar54.2.1) Ar54.2.2 hin54 hat54 (g := (mkF m 170 #[.val (.int i0), .val (.int i1), .val (.int i2), .val (.int i3), .val (.int i4), .val (.int i5), .val (.int (4 : Int32)), .val (.ref b), .val (.int ((((i1 + i2) + i3) + i4) + (0 : Int32))), .val (.int (((((0 : Int32) + i1) + i2) + i3) + i4)), .unset] [(.int (1 : Int32)), (.ref b)])) rfl rfl (hb hby at_170) _ k) ?_
    show own_G _ _ _ _ (T51.setTop (mkF m 171 #[.val (.int i0), .val (.int i1), .val (.int i2), .val (.int i3), .val (.int i4), .val (.int i5), .val (.int (4 : Int32)), .val (.ref b), .val (.int ((((i1 + i2) + i3) + i4) + (0 : Int32))), .val (.int (((((0 : Int32) + i1) + i2) + i3) + i4)), .unset] [(.int i2)]))
    refine own_via (fun _ k => XS.iloadN X51.here hx rfl (hb hby at_171) rfl k) ?_
    show own_G _ _ _ _ (T51.setTop (mkF m 172 #[.val (.int i0), .val (.int i1), .val (.int i2), .val (.int i3), .val (.int i4), .val (.int i5), .val (.int (4 : Int32)), .val (.ref b), .val (.int ((((i1 + i2) + i3) + i4) + (0 : Int32))), .val (.int (((((0 : Int32) + i1) + i2) + i3) + i4)), .unset] [(.int i2), (.int i2)]))
    refine own_via (fun _ k => XS.icmpNo X51.here hx rfl (hb hby at_172) rfl (teq rfl).2 k) ?_
    show own_G _ _ _ _ (T51.setTop (mkF m 175 #[.val (.int i0), .val (.int i1), .val (.int i2), .val (.int i3), .val (.int i4), .val (.int i5), .val (.int (4 : Int32)), .val (.ref b), .val (.int ((((i1 + i2) + i3) + i4) + (0 : Int32))), .val (.int (((((0 : Int32) + i1) + i2) + i3) + i4)), .unset] []))
    refine own_via (fun _ k => XS.iload X51.here hx rfl (hb hby at_175) rfl k) ?_
    show own_G _ _ _ _ (T51.setTop (mkF m 177 #[.val (.int i0), .val (.int i1), .val (.int i2), .val (.int i3), .val (.int i4), .val (.int i5), .val (.int (4 : Int32)), .val (.ref b), .val (.int ((((i1 + i2) + i3) + i4) + (0 : Int32))), .val (.int (((((0 : Int32) + i1) + i2) + i3) + i4)), .unset] [(.int (4 : Int32))]))
    refine own_via (fun _ k => XS.iconst X51.here hx rfl (hb hby at_177) k) ?_
    show own_G _ _ _ _ (T51.setTop (mkF m 178 #[.val (.int i0), .val (.int i1), .val (.int i2), .val (.int i3), .val (.int i4), .val (.int i5), .val (.int (4 : Int32)), .val (.ref b), .val (.int ((((i1 + i2) + i3) + i4) + (0 : Int32))), .val (.int (((((0 : Int32) + i1) + i2) + i3) + i4)), .unset] [(.int (2 : Int32)), (.int (4 : Int32))]))
    refine own_via (fun _ k => XS.icmpNo X51.here hx rfl (hb hby at_178) rfl (tlt (by decide)).2.2.2 k) ?_
    show own_G _ _ _ _ (T51.setTop (mkF m 181 #[.val (.int i0), .val (.int i1), .val (.int i2), .val (.int i3), .val (.int i4), .val (.int i5), .val (.int (4 : Int32)), .val (.ref b), .val (.int ((((i1 + i2) + i3) + i4) + (0 : Int32))), .val (.int (((((0 : Int32) + i1) + i2) + i3) + i4)), .unset] []))
    refine own_via (fun _ k => XS.aload X51.here hx rfl (hb hby at_181) rfl rfl k) ?_
    show own_G _ _ _ _ (T51.setTop (mkF m 183 #[.val (.int i0), .val (.int i1), .val (.int i2), .val (.int i3), .val (.int i4), .val (.int i5), .val (.int (4 : Int32)), .val (.ref b), .val (.int ((((i1 + i2) + i3) + i4) + (0 : Int32))), .val (.int (((((0 : Int32) + i1) + i2) + i3) + i4)), .unset] [(.ref b)]))
    refine own_via (fun _ k => XS.iconst X51.here hx rfl (hb hby at_183) k) ?_
    show own_G _ _ _ _ (T51.setTop (mkF m 184 #[.val (.int i0), .val (.int i1), .val (.int i2), .val (.int i3), .val (.int i4), .val (.int i5), .val (.int (4 : Int32)), .val (.ref b), .val (.int ((((i1 + i2) + i3) + i4) + (0 : Int32))), .val (.int (((((0 : Int32) + i1) + i2) + i3) + i4)), .unset] [(.int (2 : Int32)), (.ref b)]))
    obtain ⟨cl55, Ar55, -, Sz55, Nn55, Hh55, -⟩ := id V_b
    have hin55 : ¬ ((2 : Int32) < 0 ∨ cl55.slots.size ≤ ((2 : Int32)).toNatClampNeg) := inb_of Sz55 ⟨by decide, by decide⟩
    have hat55 : cl55.slots[((2 : Int32)).toNatClampNeg]? = some (.int i3) := Has.at Hh55 hin55 rfl
    refine own_via (fun _ k => X51.iaload hx (j := (2 : Int32)) (v := (.int i3)) (by rw [e51]; exact Ar55.1) (State.isArrayOf_alike hZ.alike Ar55.2.1) Ar55.2.2 hin55 hat55 (g := (mkF m 184 #[.val (.int i0), .val (.int i1), .val (.int i2), .val (.int i3), .val (.int i4), .val (.int i5), .val (.int (4 : Int32)), .val (.ref b), .val (.int ((((i1 + i2) + i3) + i4) + (0 : Int32))), .val (.int (((((0 : Int32) + i1) + i2) + i3) + i4)), .unset] [(.int (2 : Int32)), (.ref b)])) rfl rfl (hb hby at_184) _ k) ?_
    show own_G _ _ _ _ (T51.setTop (mkF m 185 #[.val (.int i0), .val (.int i1), .val (.int i2), .val (.int i3), .val (.int i4), .val (.int i5), .val (.int (4 : Int32)), .val (.ref b), .val (.int ((((i1 + i2) + i3) + i4) + (0 : Int32))), .val (.int (((((0 : Int32) + i1) + i2) + i3) + i4)), .unset] [(.int i3)]))
    refine own_via (fun _ k => XS.iloadN X51.here hx rfl (hb hby at_185) rfl k) ?_
    show own_G _ _ _ _ (T51.setTop (mkF m 186 #[.val (.int i0), .val (.int i1), .val (.int i2), .val (.int i3), .val (.int i4), .val (.int i5), .val (.int (4 : Int32)), .val (.ref b), .val (.int ((((i1 + i2) + i3) + i4) + (0 : Int32))), .val (.int (((((0 : Int32) + i1) + i2) + i3) + i4)), .unset] [(.int i3), (.int i3)]))
    refine own_via (fun _ k => XS.icmpNo X51.here hx rfl (hb hby at_186) rfl (teq rfl).2 k) ?_
    show own_G _ _ _ _ (T51.setTop (mkF m 189 #[.val (.int i0), .val (.int i1), .val (.int i2), .val (.int i3), .val (.int i4), .val (.int i5), .val (.int (4 : Int32)), .val (.ref b), .val (.int ((((i1 + i2) + i3) + i4) + (0 : Int32))), .val (.int (((((0 : Int32) + i1) + i2) + i3) + i4)), .unset] []))
    refine own_via (fun _ k => XS.iload X51.here hx rfl (hb hby at_189) rfl k) ?_
    show own_G _ _ _ _ (T51.setTop (mkF m 191 #[.val (.int i0), .val (.int i1), .val (.int i2), .val (.int i3), .val (.int i4), .val (.int i5), .val (.int (4 : Int32)), .val (.ref b), .val (.int ((((i1 + i2) + i3) + i4) + (0 : Int32))), .val (.int (((((0 : Int32) + i1) + i2) + i3) + i4)), .unset] [(.int (4 : Int32))]))
    refine own_via (fun _ k => XS.iconst X51.here hx rfl (hb hby at_191) k) ?_
    show own_G _ _ _ _ (T51.setTop (mkF m 192 #[.val (.int i0), .val (.int i1), .val (.int i2), .val (.int i3), .val (.int i4), .val (.int i5), .val (.int (4 : Int32)), .val (.ref b), .val (.int ((((i1 + i2) + i3) + i4) + (0 : Int32))), .val (.int (((((0 : Int32) + i1) + i2) + i3) + i4)), .unset] [(.int (3 : Int32)), (.int (4 : Int32))]))
    refine own_via (fun _ k => XS.icmpNo X51.here hx rfl (hb hby at_192) rfl (tlt (by decide)).2.2.2 k) ?_
    show own_G _ _ _ _ (T51.setTop (mkF m 195 #[.val (.int i0), .val (.int i1), .val (.int i2), .val (.int i3), .val (.int i4), .val (.int i5), .val (.int (4 : Int32)), .val (.ref b), .val (.int ((((i1 + i2) + i3) + i4) + (0 : Int32))), .val (.int (((((0 : Int32) + i1) + i2) + i3) + i4)), .unset] []))
    refine own_via (fun _ k => XS.aload X51.here hx rfl (hb hby at_195) rfl rfl k) ?_
    show own_G _ _ _ _ (T51.setTop (mkF m 197 #[.val (.int i0), .val (.int i1), .val (.int i2), .val (.int i3), .val (.int i4), .val (.int i5), .val (.int (4 : Int32)), .val (.ref b), .val (.int ((((i1 + i2) + i3) + i4) + (0 : Int32))), .val (.int (((((0 : Int32) + i1) + i2) + i3) + i4)), .unset] [(.ref b)]))
    refine own_via (fun _ k => XS.iconst X51.here hx rfl (hb hby at_197) k) ?_
    show own_G _ _ _ _ (T51.setTop (mkF m 198 #[.val (.int i0), .val (.int i1), .val (.int i2), .val (.int i3), .val (.int i4), .val (.int i5), .val (.int (4 : Int32)), .val (.ref b), .val (.int ((((i1 + i2) + i3) + i4) + (0 : Int32))), .val (.int (((((0 : Int32) + i1) + i2) + i3) + i4)), .unset] [(.int (3 : Int32)), (.ref b)]))
    obtain ⟨cl56, Ar56, -, Sz56, Nn56, Hh56, -⟩ := id V_b
    have hin56 : ¬ ((3 : Int32) < 0 ∨ cl56.slots.size ≤ ((3 : Int32)).toNatClampNeg) := inb_of Sz56 ⟨by decide, by decide⟩
    have hat56 : cl56.slots[((3 : Int32)).toNatClampNeg]? = some (.int i4) := Has.at Hh56 hin56 rfl
    refine own_via (fun _ k => X51.iaload hx (j := (3 : Int32)) (v := (.int i4)) (by rw [e51]; exact Ar56.1) (State.isArrayOf_alike hZ.alike Ar56.2.1) Ar56.2.2 hin56 hat56 (g := (mkF m 198 #[.val (.int i0), .val (.int i1), .val (.int i2), .val (.int i3), .val (.int i4), .val (.int i5), .val (.int (4 : Int32)), .val (.ref b), .val (.int ((((i1 + i2) + i3) + i4) + (0 : Int32))), .val (.int (((((0 : Int32) + i1) + i2) + i3) + i4)), .unset] [(.int (3 : Int32)), (.ref b)])) rfl rfl (hb hby at_198) _ k) ?_
    show own_G _ _ _ _ (T51.setTop (mkF m 199 #[.val (.int i0), .val (.int i1), .val (.int i2), .val (.int i3), .val (.int i4), .val (.int i5), .val (.int (4 : Int32)), .val (.ref b), .val (.int ((((i1 + i2) + i3) + i4) + (0 : Int32))), .val (.int (((((0 : Int32) + i1) + i2) + i3) + i4)), .unset] [(.int i4)]))
    refine own_via (fun _ k => XS.iload X51.here hx rfl (hb hby at_199) rfl k) ?_
    show own_G _ _ _ _ (T51.setTop (mkF m 201 #[.val (.int i0), .val (.int i1), .val (.int i2), .val (.int i3), .val (.int i4), .val (.int i5), .val (.int (4 : Int32)), .val (.ref b), .val (.int ((((i1 + i2) + i3) + i4) + (0 : Int32))), .val (.int (((((0 : Int32) + i1) + i2) + i3) + i4)), .unset] [(.int i4), (.int i4)]))
    refine own_via (fun _ k => XS.icmpNo X51.here hx rfl (hb hby at_201) rfl (teq rfl).2 k) ?_
    show own_G _ _ _ _ (T51.setTop (mkF m 204 #[.val (.int i0), .val (.int i1), .val (.int i2), .val (.int i3), .val (.int i4), .val (.int i5), .val (.int (4 : Int32)), .val (.ref b), .val (.int ((((i1 + i2) + i3) + i4) + (0 : Int32))), .val (.int (((((0 : Int32) + i1) + i2) + i3) + i4)), .unset] []))
    refine own_via (fun _ k => XS.iload X51.here hx rfl (hb hby at_204) rfl k) ?_
    show own_G _ _ _ _ (T51.setTop (mkF m 206 #[.val (.int i0), .val (.int i1), .val (.int i2), .val (.int i3), .val (.int i4), .val (.int i5), .val (.int (4 : Int32)), .val (.ref b), .val (.int ((((i1 + i2) + i3) + i4) + (0 : Int32))), .val (.int (((((0 : Int32) + i1) + i2) + i3) + i4)), .unset] [(.int (4 : Int32))]))
    refine own_via (fun _ k => XS.iconst X51.here hx rfl (hb hby at_206) k) ?_
    show own_G _ _ _ _ (T51.setTop (mkF m 207 #[.val (.int i0), .val (.int i1), .val (.int i2), .val (.int i3), .val (.int i4), .val (.int i5), .val (.int (4 : Int32)), .val (.ref b), .val (.int ((((i1 + i2) + i3) + i4) + (0 : Int32))), .val (.int (((((0 : Int32) + i1) + i2) + i3) + i4)), .unset] [(.int (4 : Int32)), (.int (4 : Int32))]))
    refine own_via (fun _ k => XS.icmpYes X51.here hx rfl (pc0 := 207) (pc' := 219) rfl (hb hby at_207) rfl (flt (by decide)).2.2.2 (by decide) (by decide) k) ?_
    show own_G _ _ _ _ (T51.setTop (mkF m 219 #[.val (.int i0), .val (.int i1), .val (.int i2), .val (.int i3), .val (.int i4), .val (.int i5), .val (.int (4 : Int32)), .val (.ref b), .val (.int ((((i1 + i2) + i3) + i4) + (0 : Int32))), .val (.int (((((0 : Int32) + i1) + i2) + i3) + i4)), .unset] []))
    refine own_via (fun _ k => XS.iconst X51.here hx rfl (hb hby at_219) k) ?_
    show own_G _ _ _ _ (T51.setTop (mkF m 220 #[.val (.int i0), .val (.int i1), .val (.int i2), .val (.int i3), .val (.int i4), .val (.int i5), .val (.int (4 : Int32)), .val (.ref b), .val (.int ((((i1 + i2) + i3) + i4) + (0 : Int32))), .val (.int (((((0 : Int32) + i1) + i2) + i3) + i4)), .unset] [(.int (1 : Int32))]))
    refine own_via (fun _ k => XS.goto X51.here hx rfl (pc0 := 220) (pc' := 224) rfl (hb hby at_220) (by decide) (by decide) k) ?_
    show own_G _ _ _ _ (T51.setTop (mkF m 224 #[.val (.int i0), .val (.int i1), .val (.int i2), .val (.int i3), .val (.int i4), .val (.int i5), .val (.int (4 : Int32)), .val (.ref b), .val (.int ((((i1 + i2) + i3) + i4) + (0 : Int32))), .val (.int (((((0 : Int32) + i1) + i2) + i3) + i4)), .unset] [(.int (1 : Int32))]))
    refine own_via (fun _ k => XS.istore X51.here hx rfl (hb hby at_224) rfl (l' := #[.val (.int i0), .val (.int i1), .val (.int i2), .val (.int i3), .val (.int i4), .val (.int i5), .val (.int (4 : Int32)), .val (.ref b), .val (.int ((((i1 + i2) + i3) + i4) + (0 : Int32))), .val (.int (((((0 : Int32) + i1) + i2) + i3) + i4)), .val (.int (1 : Int32))]) rfl k) ?_
    show own_G _ _ _ _ (T51.setTop (mkF m 226 #[.val (.int i0), .val (.int i1), .val (.int i2), .val (.int i3), .val (.int i4), .val (.int i5), .val (.int (4 : Int32)), .val (.ref b), .val (.int ((((i1 + i2) + i3) + i4) + (0 : Int32))), .val (.int (((((0 : Int32) + i1) + i2) + i3) + i4)), .val (.int (1 : Int32))] []))
    refine own_via (fun _ k => XS.iload X51.here hx rfl (hb hby at_226) rfl k) ?_
    show own_G _ _ _ _ (T51.setTop (mkF m 228 #[.val (.int i0), .val (.int i1), .val (.int i2), .val (.int i3), .val (.int i4), .val (.int i5), .val (.int (4 : Int32)), .val (.ref b), .val (.int ((((i1 + i2) + i3) + i4) + (0 : Int32))), .val (.int (((((0 : Int32) + i1) + i2) + i3) + i4)), .val (.int (1 : Int32))] [(.int (((((0 : Int32) + i1) + i2) + i3) + i4))]))
    refine own_via (fun _ k => XS.iload X51.here hx rfl (hb hby at_228) rfl k) ?_
    show own_G _ _ _ _ (T51.setTop (mkF m 230 #[.val (.int i0), .val (.int i1), .val (.int i2), .val (.int i3), .val (.int i4), .val (.int i5), .val (.int (4 : Int32)), .val (.ref b), .val (.int ((((i1 + i2) + i3) + i4) + (0 : Int32))), .val (.int (((((0 : Int32) + i1) + i2) + i3) + i4)), .val (.int (1 : Int32))] [(.int ((((i1 + i2) + i3) + i4) + (0 : Int32))), (.int (((((0 : Int32) + i1) + i2) + i3) + i4))]))
    refine own_via (fun _ k => XS.icmpNo X51.here hx rfl (hb hby at_230) rfl (teq (by simp [Int32.zero_add, Int32.add_zero])).2 k) ?_
    show own_G _ _ _ _ (T51.setTop (mkF m 233 #[.val (.int i0), .val (.int i1), .val (.int i2), .val (.int i3), .val (.int i4), .val (.int i5), .val (.int (4 : Int32)), .val (.ref b), .val (.int ((((i1 + i2) + i3) + i4) + (0 : Int32))), .val (.int (((((0 : Int32) + i1) + i2) + i3) + i4)), .val (.int (1 : Int32))] []))
    refine own_via (fun _ k => XS.iload X51.here hx rfl (hb hby at_233) rfl k) ?_
    show own_G _ _ _ _ (T51.setTop (mkF m 235 #[.val (.int i0), .val (.int i1), .val (.int i2), .val (.int i3), .val (.int i4), .val (.int i5), .val (.int (4 : Int32)), .val (.ref b), .val (.int ((((i1 + i2) + i3) + i4) + (0 : Int32))), .val (.int (((((0 : Int32) + i1) + i2) + i3) + i4)), .val (.int (1 : Int32))] [(.int (1 : Int32))]))
    refine own_via (fun _ k => XS.ifNo X51.here hx rfl (hb hby at_235) rfl ((if0 _ _).trans (feq (by decide)).1) k) ?_
    show own_G _ _ _ _ (T51.setTop (mkF m 238 #[.val (.int i0), .val (.int i1), .val (.int i2), .val (.int i3), .val (.int i4), .val (.int i5), .val (.int (4 : Int32)), .val (.ref b), .val (.int ((((i1 + i2) + i3) + i4) + (0 : Int32))), .val (.int (((((0 : Int32) + i1) + i2) + i3) + i4)), .val (.int (1 : Int32))] []))
    refine own_via (fun _ k => XS.iconst X51.here hx rfl (hb hby at_238) k) ?_
    show own_G _ _ _ _ (T51.setTop (mkF m 239 #[.val (.int i0), .val (.int i1), .val (.int i2), .val (.int i3), .val (.int i4), .val (.int i5), .val (.int (4 : Int32)), .val (.ref b), .val (.int ((((i1 + i2) + i3) + i4) + (0 : Int32))), .val (.int (((((0 : Int32) + i1) + i2) + i3) + i4)), .val (.int (1 : Int32))] [(.int (1 : Int32))]))
    refine own_via (fun _ k => XS.goto X51.here hx rfl (pc0 := 239) (pc' := 243) rfl (hb hby at_239) (by decide) (by decide) k) ?_
    show own_G _ _ _ _ (T51.setTop (mkF m 243 #[.val (.int i0), .val (.int i1), .val (.int i2), .val (.int i3), .val (.int i4), .val (.int i5), .val (.int (4 : Int32)), .val (.ref b), .val (.int ((((i1 + i2) + i3) + i4) + (0 : Int32))), .val (.int (((((0 : Int32) + i1) + i2) + i3) + i4)), .val (.int (1 : Int32))] [(.int (1 : Int32))]))
    obtain ⟨fs, hr, hrun, hended, hW, hsame⟩ := X51.leave (v := some (.int (1 : Int32))) (fun h => by rw [Bd.returns] at h; cases h)
    exact ⟨_, _, retN X51 hx (t := .boolean) Bd.returns (by simp) (hb hby at_243) hr, hrun, hended, _, _, rfl, ⟨rfl, N51⟩, ⟨_, rfl⟩, hW, hsame.mono (by decide) (by decide)⟩
  · show own_G _ _ _ _ (s₁.setTop (mkF m 9 #[.val (.int i0), .val (.int i1), .val (.int i2), .val (.int i3), .val (.int i4), .val (.int i5), .val (.int (5 : Int32)), .unset, .unset, .unset, .unset] []))
    refine own_via (fun _ k => XS.iload X0.here hx rfl (hb hby at_9) rfl k) ?_
    show own_G _ _ _ _ (s₁.setTop (mkF m 11 #[.val (.int i0), .val (.int i1), .val (.int i2), .val (.int i3), .val (.int i4), .val (.int i5), .val (.int (5 : Int32)), .unset, .unset, .unset, .unset] [(.int (5 : Int32))]))
    obtain ⟨T57, h57, k_b, X57, e57, E57, A57, st57⟩ := newP X0 hx hZ (hw _ (List.mem_of_getElem? (i := 1) rfl)) e0 (g := (mkF m 11 #[.val (.int i0), .val (.int i1), .val (.int i2), .val (.int i3), .val (.int i4), .val (.int i5), .val (.int (5 : Int32)), .unset, .unset, .unset, .unset] [(.int (5 : Int32))])) rfl (hb hby at_11) rfl (by decide) (cap := 5) (by decide) (by decide) (by decide) (by decide)
    obtain ⟨b, g57⟩ : ∃ z, z = h0.size := ⟨_, rfl⟩
    rw [← g57] at A57 st57
    have g_b : n0 ≤ b := Nat.le_trans Z0 (Nat.le_of_eq g57.symm)
    have Z0 := Nat.le_trans Z0 E57.1
    have V_b : Arv Z h57 b k_b .int (5 : Int32) [(.int (0 : Int32)), (.int (0 : Int32)), (.int (0 : Int32)), (.int (0 : Int32)), (.int (0 : Int32))] (.int (0 : Int32)) := (Arv.new A57 (by decide)).pad (pad_rep [] (.int (0 : Int32)) 5)
    refine own_via st57 ?_
    show own_G _ _ _ _ (T57.setTop (mkF m 13 #[.val (.int i0), .val (.int i1), .val (.int i2), .val (.int i3), .val (.int i4), .val (.int i5), .val (.int (5 : Int32)), .unset, .unset, .unset, .unset] [(.ref b)]))
    refine own_via (fun _ k => XS.astore X57.here hx rfl (hb hby at_13) rfl rfl (l' := #[.val (.int i0), .val (.int i1), .val (.int i2), .val (.int i3), .val (.int i4), .val (.int i5), .val (.int (5 : Int32)), .val (.ref b), .unset, .unset, .unset]) rfl k) ?_
    show own_G _ _ _ _ (T57.setTop (mkF m 15 #[.val (.int i0), .val (.int i1), .val (.int i2), .val (.int i3), .val (.int i4), .val (.int i5), .val (.int (5 : Int32)), .val (.ref b), .unset, .unset, .unset] []))
    refine own_via (fun _ k => XS.iload X57.here hx rfl (hb hby at_15) rfl k) ?_
    show own_G _ _ _ _ (T57.setTop (mkF m 17 #[.val (.int i0), .val (.int i1), .val (.int i2), .val (.int i3), .val (.int i4), .val (.int i5), .val (.int (5 : Int32)), .val (.ref b), .unset, .unset, .unset] [(.int (5 : Int32))]))
    refine own_via (fun _ k => XS.ifNo X57.here hx rfl (hb hby at_17) rfl ((if0 _ _).trans (tlt (by decide)).2.2.2) k) ?_
    show own_G _ _ _ _ (T57.setTop (mkF m 20 #[.val (.int i0), .val (.int i1), .val (.int i2), .val (.int i3), .val (.int i4), .val (.int i5), .val (.int (5 : Int32)), .val (.ref b), .unset, .unset, .unset] []))
    refine own_via (fun _ k => XS.aload X57.here hx rfl (hb hby at_20) rfl rfl k) ?_
    show own_G _ _ _ _ (T57.setTop (mkF m 22 #[.val (.int i0), .val (.int i1), .val (.int i2), .val (.int i3), .val (.int i4), .val (.int i5), .val (.int (5 : Int32)), .val (.ref b), .unset, .unset, .unset] [(.ref b)]))
    refine own_via (fun _ k => XS.iconst X57.here hx rfl (hb hby at_22) k) ?_
    show own_G _ _ _ _ (T57.setTop (mkF m 23 #[.val (.int i0), .val (.int i1), .val (.int i2), .val (.int i3), .val (.int i4), .val (.int i5), .val (.int (5 : Int32)), .val (.ref b), .unset, .unset, .unset] [(.int (0 : Int32)), (.ref b)]))
    refine own_via (fun _ k => XS.iloadN X57.here hx rfl (hb hby at_23) rfl k) ?_
    show own_G _ _ _ _ (T57.setTop (mkF m 24 #[.val (.int i0), .val (.int i1), .val (.int i2), .val (.int i3), .val (.int i4), .val (.int i5), .val (.int (5 : Int32)), .val (.ref b), .unset, .unset, .unset] [(.int i1), (.int (0 : Int32)), (.ref b)]))
    obtain ⟨cl_b, Ar_b, q_b, S_b, Nn_b, H_b, G_b⟩ := V_b
    have hin58 : ¬ ((0 : Int32) < 0 ∨ cl_b.slots.size ≤ ((0 : Int32)).toNatClampNeg) := inb_of S_b ⟨by decide, by decide⟩
    obtain ⟨T58, h58, X58, e58, W58, st58⟩ := stI X57 hx hZ e57 Ar_b (j := (0 : Int32)) hin58 (g := (mkF m 24 #[.val (.int i0), .val (.int i1), .val (.int i2), .val (.int i3), .val (.int i4), .val (.int i5), .val (.int (5 : Int32)), .val (.ref b), .unset, .unset, .unset] [(.int i1), (.int (0 : Int32)), (.ref b)])) rfl rfl (hb hby at_24)
    have V_b : Arv Z h58 b k_b .int (5 : Int32) [(.int i1), (.int (0 : Int32)), (.int (0 : Int32)), (.int (0 : Int32)), (.int (0 : Int32))] (.int (0 : Int32)) := Arv.set Ar_b q_b S_b Nn_b H_b G_b rfl W58 0 rfl (Nat.le_of_ble_eq_true rfl)
    have Z0 := Nat.le_trans Z0 (Keep.of_wr W58).1
    have N58 := Fr.snoc X58 N0 g_b
    refine own_via st58 ?_
    show own_G _ _ _ _ (T58.setTop (mkF m 25 #[.val (.int i0), .val (.int i1), .val (.int i2), .val (.int i3), .val (.int i4), .val (.int i5), .val (.int (5 : Int32)), .val (.ref b), .unset, .unset, .unset] []))
    refine own_via (fun _ k => XS.iload X58.here hx rfl (hb hby at_25) rfl k) ?_
    show own_G _ _ _ _ (T58.setTop (mkF m 27 #[.val (.int i0), .val (.int i1), .val (.int i2), .val (.int i3), .val (.int i4), .val (.int i5), .val (.int (5 : Int32)), .val (.ref b), .unset, .unset, .unset] [(.int (5 : Int32))]))
    refine own_via (fun _ k => XS.iconst X58.here hx rfl (hb hby at_27) k) ?_
    show own_G _ _ _ _ (T58.setTop (mkF m 28 #[.val (.int i0), .val (.int i1), .val (.int i2), .val (.int i3), .val (.int i4), .val (.int i5), .val (.int (5 : Int32)), .val (.ref b), .unset, .unset, .unset] [(.int (1 : Int32)), (.int (5 : Int32))]))
    refine own_via (fun _ k => XS.icmpNo X58.here hx rfl (hb hby at_28) rfl (tlt (by decide)).2.2.2 k) ?_
    show own_G _ _ _ _ (T58.setTop (mkF m 31 #[.val (.int i0), .val (.int i1), .val (.int i2), .val (.int i3), .val (.int i4), .val (.int i5), .val (.int (5 : Int32)), .val (.ref b), .unset, .unset, .unset] []))
    refine own_via (fun _ k => XS.aload X58.here hx rfl (hb hby at_31) rfl rfl k) ?_
    show own_G _ _ _ _ (T58.setTop (mkF m 33 #[.val (.int i0), .val (.int i1), .val (.int i2), .val (.int i3), .val (.int i4), .val (.int i5), .val (.int (5 : Int32)), .val (.ref b), .unset, .unset, .unset] [(.ref b)]))
    refine own_via (fun _ k => XS.iconst X58.here hx rfl (hb hby at_33) k) ?_
    show own_G _ _ _ _ (T58.setTop (mkF m 34 #[.val (.int i0), .val (.int i1), .val (.int i2), .val (.int i3), .val (.int i4), .val (.int i5), .val (.int (5 : Int32)), .val (.ref b), .unset, .unset, .unset] [(.int (1 : Int32)), (.ref b)]))
    refine own_via (fun _ k => XS.iloadN X58.here hx rfl (hb hby at_34) rfl k) ?_
    show own_G _ _ _ _ (T58.setTop (mkF m 35 #[.val (.int i0), .val (.int i1), .val (.int i2), .val (.int i3), .val (.int i4), .val (.int i5), .val (.int (5 : Int32)), .val (.ref b), .unset, .unset, .unset] [(.int i2), (.int (1 : Int32)), (.ref b)]))
    obtain ⟨cl_b, Ar_b, q_b, S_b, Nn_b, H_b, G_b⟩ := V_b
    have hin59 : ¬ ((1 : Int32) < 0 ∨ cl_b.slots.size ≤ ((1 : Int32)).toNatClampNeg) := inb_of S_b ⟨by decide, by decide⟩
    obtain ⟨T59, h59, X59, e59, W59, st59⟩ := stI X58 hx hZ e58 Ar_b (j := (1 : Int32)) hin59 (g := (mkF m 35 #[.val (.int i0), .val (.int i1), .val (.int i2), .val (.int i3), .val (.int i4), .val (.int i5), .val (.int (5 : Int32)), .val (.ref b), .unset, .unset, .unset] [(.int i2), (.int (1 : Int32)), (.ref b)])) rfl rfl (hb hby at_35)
    have V_b : Arv Z h59 b k_b .int (5 : Int32) [(.int i1), (.int i2), (.int (0 : Int32)), (.int (0 : Int32)), (.int (0 : Int32))] (.int (0 : Int32)) := Arv.set Ar_b q_b S_b Nn_b H_b G_b rfl W59 1 rfl (Nat.le_of_ble_eq_true rfl)
    have Z0 := Nat.le_trans Z0 (Keep.of_wr W59).1
    have N59 := Fr.snoc X59 N58 g_b
    refine own_via st59 ?_
    show own_G _ _ _ _ (T59.setTop (mkF m 36 #[.val (.int i0), .val (.int i1), .val (.int i2), .val (.int i3), .val (.int i4), .val (.int i5), .val (.int (5 : Int32)), .val (.ref b), .unset, .unset, .unset] []))
    refine own_via (fun _ k => XS.iload X59.here hx rfl (hb hby at_36) rfl k) ?_
    show own_G _ _ _ _ (T59.setTop (mkF m 38 #[.val (.int i0), .val (.int i1), .val (.int i2), .val (.int i3), .val (.int i4), .val (.int i5), .val (.int (5 : Int32)), .val (.ref b), .unset, .unset, .unset] [(.int (5 : Int32))]))
    refine own_via (fun _ k => XS.iconst X59.here hx rfl (hb hby at_38) k) ?_
    show own_G _ _ _ _ (T59.setTop (mkF m 39 #[.val (.int i0), .val (.int i1), .val (.int i2), .val (.int i3), .val (.int i4), .val (.int i5), .val (.int (5 : Int32)), .val (.ref b), .unset, .unset, .unset] [(.int (2 : Int32)), (.int (5 : Int32))]))
    refine own_via (fun _ k => XS.icmpNo X59.here hx rfl (hb hby at_39) rfl (tlt (by decide)).2.2.2 k) ?_
    show own_G _ _ _ _ (T59.setTop (mkF m 42 #[.val (.int i0), .val (.int i1), .val (.int i2), .val (.int i3), .val (.int i4), .val (.int i5), .val (.int (5 : Int32)), .val (.ref b), .unset, .unset, .unset] []))
    refine own_via (fun _ k => XS.aload X59.here hx rfl (hb hby at_42) rfl rfl k) ?_
    show own_G _ _ _ _ (T59.setTop (mkF m 44 #[.val (.int i0), .val (.int i1), .val (.int i2), .val (.int i3), .val (.int i4), .val (.int i5), .val (.int (5 : Int32)), .val (.ref b), .unset, .unset, .unset] [(.ref b)]))
    refine own_via (fun _ k => XS.iconst X59.here hx rfl (hb hby at_44) k) ?_
    show own_G _ _ _ _ (T59.setTop (mkF m 45 #[.val (.int i0), .val (.int i1), .val (.int i2), .val (.int i3), .val (.int i4), .val (.int i5), .val (.int (5 : Int32)), .val (.ref b), .unset, .unset, .unset] [(.int (2 : Int32)), (.ref b)]))
    refine own_via (fun _ k => XS.iloadN X59.here hx rfl (hb hby at_45) rfl k) ?_
    show own_G _ _ _ _ (T59.setTop (mkF m 46 #[.val (.int i0), .val (.int i1), .val (.int i2), .val (.int i3), .val (.int i4), .val (.int i5), .val (.int (5 : Int32)), .val (.ref b), .unset, .unset, .unset] [(.int i3), (.int (2 : Int32)), (.ref b)]))
    obtain ⟨cl_b, Ar_b, q_b, S_b, Nn_b, H_b, G_b⟩ := V_b
    have hin60 : ¬ ((2 : Int32) < 0 ∨ cl_b.slots.size ≤ ((2 : Int32)).toNatClampNeg) := inb_of S_b ⟨by decide, by decide⟩
    obtain ⟨T60, h60, X60, e60, W60, st60⟩ := stI X59 hx hZ e59 Ar_b (j := (2 : Int32)) hin60 (g := (mkF m 46 #[.val (.int i0), .val (.int i1), .val (.int i2), .val (.int i3), .val (.int i4), .val (.int i5), .val (.int (5 : Int32)), .val (.ref b), .unset, .unset, .unset] [(.int i3), (.int (2 : Int32)), (.ref b)])) rfl rfl (hb hby at_46)
    have V_b : Arv Z h60 b k_b .int (5 : Int32) [(.int i1), (.int i2), (.int i3), (.int (0 : Int32)), (.int (0 : Int32))] (.int (0 : Int32)) := Arv.set Ar_b q_b S_b Nn_b H_b G_b rfl W60 2 rfl (Nat.le_of_ble_eq_true rfl)
    have Z0 := Nat.le_trans Z0 (Keep.of_wr W60).1
    have N60 := Fr.snoc X60 N59 g_b
    refine own_via st60 ?_
    show own_G _ _ _ _ (T60.setTop (mkF m 47 #[.val (.int i0), .val (.int i1), .val (.int i2), .val (.int i3), .val (.int i4), .val (.int i5), .val (.int (5 : Int32)), .val (.ref b), .unset, .unset, .unset] []))
    refine own_via (fun _ k => XS.iload X60.here hx rfl (hb hby at_47) rfl k) ?_
    show own_G _ _ _ _ (T60.setTop (mkF m 49 #[.val (.int i0), .val (.int i1), .val (.int i2), .val (.int i3), .val (.int i4), .val (.int i5), .val (.int (5 : Int32)), .val (.ref b), .unset, .unset, .unset] [(.int (5 : Int32))]))
    refine own_via (fun _ k => XS.iconst X60.here hx rfl (hb hby at_49) k) ?_
    show own_G _ _ _ _ (T60.setTop (mkF m 50 #[.val (.int i0), .val (.int i1), .val (.int i2), .val (.int i3), .val (.int i4), .val (.int i5), .val (.int (5 : Int32)), .val (.ref b), .unset, .unset, .unset] [(.int (3 : Int32)), (.int (5 : Int32))]))
    refine own_via (fun _ k => XS.icmpNo X60.here hx rfl (hb hby at_50) rfl (tlt (by decide)).2.2.2 k) ?_
    show own_G _ _ _ _ (T60.setTop (mkF m 53 #[.val (.int i0), .val (.int i1), .val (.int i2), .val (.int i3), .val (.int i4), .val (.int i5), .val (.int (5 : Int32)), .val (.ref b), .unset, .unset, .unset] []))
    refine own_via (fun _ k => XS.aload X60.here hx rfl (hb hby at_53) rfl rfl k) ?_
    show own_G _ _ _ _ (T60.setTop (mkF m 55 #[.val (.int i0), .val (.int i1), .val (.int i2), .val (.int i3), .val (.int i4), .val (.int i5), .val (.int (5 : Int32)), .val (.ref b), .unset, .unset, .unset] [(.ref b)]))
    refine own_via (fun _ k => XS.iconst X60.here hx rfl (hb hby at_55) k) ?_
    show own_G _ _ _ _ (T60.setTop (mkF m 56 #[.val (.int i0), .val (.int i1), .val (.int i2), .val (.int i3), .val (.int i4), .val (.int i5), .val (.int (5 : Int32)), .val (.ref b), .unset, .unset, .unset] [(.int (3 : Int32)), (.ref b)]))
    refine own_via (fun _ k => XS.iload X60.here hx rfl (hb hby at_56) rfl k) ?_
    show own_G _ _ _ _ (T60.setTop (mkF m 58 #[.val (.int i0), .val (.int i1), .val (.int i2), .val (.int i3), .val (.int i4), .val (.int i5), .val (.int (5 : Int32)), .val (.ref b), .unset, .unset, .unset] [(.int i4), (.int (3 : Int32)), (.ref b)]))
    obtain ⟨cl_b, Ar_b, q_b, S_b, Nn_b, H_b, G_b⟩ := V_b
    have hin61 : ¬ ((3 : Int32) < 0 ∨ cl_b.slots.size ≤ ((3 : Int32)).toNatClampNeg) := inb_of S_b ⟨by decide, by decide⟩
    obtain ⟨T61, h61, X61, e61, W61, st61⟩ := stI X60 hx hZ e60 Ar_b (j := (3 : Int32)) hin61 (g := (mkF m 58 #[.val (.int i0), .val (.int i1), .val (.int i2), .val (.int i3), .val (.int i4), .val (.int i5), .val (.int (5 : Int32)), .val (.ref b), .unset, .unset, .unset] [(.int i4), (.int (3 : Int32)), (.ref b)])) rfl rfl (hb hby at_58)
    have V_b : Arv Z h61 b k_b .int (5 : Int32) [(.int i1), (.int i2), (.int i3), (.int i4), (.int (0 : Int32))] (.int (0 : Int32)) := Arv.set Ar_b q_b S_b Nn_b H_b G_b rfl W61 3 rfl (Nat.le_of_ble_eq_true rfl)
    have Z0 := Nat.le_trans Z0 (Keep.of_wr W61).1
    have N61 := Fr.snoc X61 N60 g_b
    refine own_via st61 ?_
    show own_G _ _ _ _ (T61.setTop (mkF m 59 #[.val (.int i0), .val (.int i1), .val (.int i2), .val (.int i3), .val (.int i4), .val (.int i5), .val (.int (5 : Int32)), .val (.ref b), .unset, .unset, .unset] []))
    refine own_via (fun _ k => XS.iload X61.here hx rfl (hb hby at_59) rfl k) ?_
    show own_G _ _ _ _ (T61.setTop (mkF m 61 #[.val (.int i0), .val (.int i1), .val (.int i2), .val (.int i3), .val (.int i4), .val (.int i5), .val (.int (5 : Int32)), .val (.ref b), .unset, .unset, .unset] [(.int (5 : Int32))]))
    refine own_via (fun _ k => XS.iconst X61.here hx rfl (hb hby at_61) k) ?_
    show own_G _ _ _ _ (T61.setTop (mkF m 62 #[.val (.int i0), .val (.int i1), .val (.int i2), .val (.int i3), .val (.int i4), .val (.int i5), .val (.int (5 : Int32)), .val (.ref b), .unset, .unset, .unset] [(.int (4 : Int32)), (.int (5 : Int32))]))
    refine own_via (fun _ k => XS.icmpNo X61.here hx rfl (hb hby at_62) rfl (tlt (by decide)).2.2.2 k) ?_
    show own_G _ _ _ _ (T61.setTop (mkF m 65 #[.val (.int i0), .val (.int i1), .val (.int i2), .val (.int i3), .val (.int i4), .val (.int i5), .val (.int (5 : Int32)), .val (.ref b), .unset, .unset, .unset] []))
    refine own_via (fun _ k => XS.aload X61.here hx rfl (hb hby at_65) rfl rfl k) ?_
    show own_G _ _ _ _ (T61.setTop (mkF m 67 #[.val (.int i0), .val (.int i1), .val (.int i2), .val (.int i3), .val (.int i4), .val (.int i5), .val (.int (5 : Int32)), .val (.ref b), .unset, .unset, .unset] [(.ref b)]))
    refine own_via (fun _ k => XS.iconst X61.here hx rfl (hb hby at_67) k) ?_
    show own_G _ _ _ _ (T61.setTop (mkF m 68 #[.val (.int i0), .val (.int i1), .val (.int i2), .val (.int i3), .val (.int i4), .val (.int i5), .val (.int (5 : Int32)), .val (.ref b), .unset, .unset, .unset] [(.int (4 : Int32)), (.ref b)]))
    refine own_via (fun _ k => XS.iload X61.here hx rfl (hb hby at_68) rfl k) ?_
    show own_G _ _ _ _ (T61.setTop (mkF m 70 #[.val (.int i0), .val (.int i1), .val (.int i2), .val (.int i3), .val (.int i4), .val (.int i5), .val (.int (5 : Int32)), .val (.ref b), .unset, .unset, .unset] [(.int i5), (.int (4 : Int32)), (.ref b)]))
    obtain ⟨cl_b, Ar_b, q_b, S_b, Nn_b, H_b, G_b⟩ := V_b
    have hin62 : ¬ ((4 : Int32) < 0 ∨ cl_b.slots.size ≤ ((4 : Int32)).toNatClampNeg) := inb_of S_b ⟨by decide, by decide⟩
    obtain ⟨T62, h62, X62, e62, W62, st62⟩ := stI X61 hx hZ e61 Ar_b (j := (4 : Int32)) hin62 (g := (mkF m 70 #[.val (.int i0), .val (.int i1), .val (.int i2), .val (.int i3), .val (.int i4), .val (.int i5), .val (.int (5 : Int32)), .val (.ref b), .unset, .unset, .unset] [(.int i5), (.int (4 : Int32)), (.ref b)])) rfl rfl (hb hby at_70)
    have V_b : Arv Z h62 b k_b .int (5 : Int32) [(.int i1), (.int i2), (.int i3), (.int i4), (.int i5)] (.int (0 : Int32)) := Arv.set Ar_b q_b S_b Nn_b H_b G_b rfl W62 4 rfl (Nat.le_of_ble_eq_true rfl)
    have Z0 := Nat.le_trans Z0 (Keep.of_wr W62).1
    have N62 := Fr.snoc X62 N61 g_b
    refine own_via st62 ?_
    show own_G _ _ _ _ (T62.setTop (mkF m 71 #[.val (.int i0), .val (.int i1), .val (.int i2), .val (.int i3), .val (.int i4), .val (.int i5), .val (.int (5 : Int32)), .val (.ref b), .unset, .unset, .unset] []))
    refine own_via (fun _ k => XS.iload X62.here hx rfl (hb hby at_71) rfl k) ?_
    show own_G _ _ _ _ (T62.setTop (mkF m 73 #[.val (.int i0), .val (.int i1), .val (.int i2), .val (.int i3), .val (.int i4), .val (.int i5), .val (.int (5 : Int32)), .val (.ref b), .unset, .unset, .unset] [(.int (5 : Int32))]))
    refine own_via (fun _ k => XS.ifNo X62.here hx rfl (hb hby at_73) rfl ((if0 _ _).trans (tlt (by decide)).2.2.2) k) ?_
    show own_G _ _ _ _ (T62.setTop (mkF m 76 #[.val (.int i0), .val (.int i1), .val (.int i2), .val (.int i3), .val (.int i4), .val (.int i5), .val (.int (5 : Int32)), .val (.ref b), .unset, .unset, .unset] []))
    refine own_via (fun _ k => XS.iloadN X62.here hx rfl (hb hby at_76) rfl k) ?_
    show own_G _ _ _ _ (T62.setTop (mkF m 77 #[.val (.int i0), .val (.int i1), .val (.int i2), .val (.int i3), .val (.int i4), .val (.int i5), .val (.int (5 : Int32)), .val (.ref b), .unset, .unset, .unset] [(.int i1)]))
    refine own_via (fun _ k => XS.goto X62.here hx rfl (pc0 := 77) (pc' := 81) rfl (hb hby at_77) (by decide) (by decide) k) ?_
    show own_G _ _ _ _ (T62.setTop (mkF m 81 #[.val (.int i0), .val (.int i1), .val (.int i2), .val (.int i3), .val (.int i4), .val (.int i5), .val (.int (5 : Int32)), .val (.ref b), .unset, .unset, .unset] [(.int i1)]))
    refine own_via (fun _ k => XS.iload X62.here hx rfl (hb hby at_81) rfl k) ?_
    show own_G _ _ _ _ (T62.setTop (mkF m 83 #[.val (.int i0), .val (.int i1), .val (.int i2), .val (.int i3), .val (.int i4), .val (.int i5), .val (.int (5 : Int32)), .val (.ref b), .unset, .unset, .unset] [(.int (5 : Int32)), (.int i1)]))
    refine own_via (fun _ k => XS.iconst X62.here hx rfl (hb hby at_83) k) ?_
    show own_G _ _ _ _ (T62.setTop (mkF m 84 #[.val (.int i0), .val (.int i1), .val (.int i2), .val (.int i3), .val (.int i4), .val (.int i5), .val (.int (5 : Int32)), .val (.ref b), .unset, .unset, .unset] [(.int (1 : Int32)), (.int (5 : Int32)), (.int i1)]))
    refine own_via (fun _ k => XS.icmpNo X62.here hx rfl (hb hby at_84) rfl (tlt (by decide)).2.2.2 k) ?_
    show own_G _ _ _ _ (T62.setTop (mkF m 87 #[.val (.int i0), .val (.int i1), .val (.int i2), .val (.int i3), .val (.int i4), .val (.int i5), .val (.int (5 : Int32)), .val (.ref b), .unset, .unset, .unset] [(.int i1)]))
    refine own_via (fun _ k => XS.iloadN X62.here hx rfl (hb hby at_87) rfl k) ?_
    show own_G _ _ _ _ (T62.setTop (mkF m 88 #[.val (.int i0), .val (.int i1), .val (.int i2), .val (.int i3), .val (.int i4), .val (.int i5), .val (.int (5 : Int32)), .val (.ref b), .unset, .unset, .unset] [(.int i2), (.int i1)]))
    refine own_via (fun _ k => XS.goto X62.here hx rfl (pc0 := 88) (pc' := 92) rfl (hb hby at_88) (by decide) (by decide) k) ?_
    show own_G _ _ _ _ (T62.setTop (mkF m 92 #[.val (.int i0), .val (.int i1), .val (.int i2), .val (.int i3), .val (.int i4), .val (.int i5), .val (.int (5 : Int32)), .val (.ref b), .unset, .unset, .unset] [(.int i2), (.int i1)]))
    refine own_via (fun _ k => XS.iadd X62.here hx rfl (hb hby at_92) rfl k) ?_
    show own_G _ _ _ _ (T62.setTop (mkF m 93 #[.val (.int i0), .val (.int i1), .val (.int i2), .val (.int i3), .val (.int i4), .val (.int i5), .val (.int (5 : Int32)), .val (.ref b), .unset, .unset, .unset] [(.int (i1 + i2))]))
    refine own_via (fun _ k => XS.iload X62.here hx rfl (hb hby at_93) rfl k) ?_
    show own_G _ _ _ _ (T62.setTop (mkF m 95 #[.val (.int i0), .val (.int i1), .val (.int i2), .val (.int i3), .val (.int i4), .val (.int i5), .val (.int (5 : Int32)), .val (.ref b), .unset, .unset, .unset] [(.int (5 : Int32)), (.int (i1 + i2))]))
    refine own_via (fun _ k => XS.iconst X62.here hx rfl (hb hby at_95) k) ?_
    show own_G _ _ _ _ (T62.setTop (mkF m 96 #[.val (.int i0), .val (.int i1), .val (.int i2), .val (.int i3), .val (.int i4), .val (.int i5), .val (.int (5 : Int32)), .val (.ref b), .unset, .unset, .unset] [(.int (2 : Int32)), (.int (5 : Int32)), (.int (i1 + i2))]))
    refine own_via (fun _ k => XS.icmpNo X62.here hx rfl (hb hby at_96) rfl (tlt (by decide)).2.2.2 k) ?_
    show own_G _ _ _ _ (T62.setTop (mkF m 99 #[.val (.int i0), .val (.int i1), .val (.int i2), .val (.int i3), .val (.int i4), .val (.int i5), .val (.int (5 : Int32)), .val (.ref b), .unset, .unset, .unset] [(.int (i1 + i2))]))
    refine own_via (fun _ k => XS.iloadN X62.here hx rfl (hb hby at_99) rfl k) ?_
    show own_G _ _ _ _ (T62.setTop (mkF m 100 #[.val (.int i0), .val (.int i1), .val (.int i2), .val (.int i3), .val (.int i4), .val (.int i5), .val (.int (5 : Int32)), .val (.ref b), .unset, .unset, .unset] [(.int i3), (.int (i1 + i2))]))
    refine own_via (fun _ k => XS.goto X62.here hx rfl (pc0 := 100) (pc' := 104) rfl (hb hby at_100) (by decide) (by decide) k) ?_
    show own_G _ _ _ _ (T62.setTop (mkF m 104 #[.val (.int i0), .val (.int i1), .val (.int i2), .val (.int i3), .val (.int i4), .val (.int i5), .val (.int (5 : Int32)), .val (.ref b), .unset, .unset, .unset] [(.int i3), (.int (i1 + i2))]))
    refine own_via (fun _ k => XS.iadd X62.here hx rfl (hb hby at_104) rfl k) ?_
    show own_G _ _ _ _ (T62.setTop (mkF m 105 #[.val (.int i0), .val (.int i1), .val (.int i2), .val (.int i3), .val (.int i4), .val (.int i5), .val (.int (5 : Int32)), .val (.ref b), .unset, .unset, .unset] [(.int ((i1 + i2) + i3))]))
    refine own_via (fun _ k => XS.iload X62.here hx rfl (hb hby at_105) rfl k) ?_
    show own_G _ _ _ _ (T62.setTop (mkF m 107 #[.val (.int i0), .val (.int i1), .val (.int i2), .val (.int i3), .val (.int i4), .val (.int i5), .val (.int (5 : Int32)), .val (.ref b), .unset, .unset, .unset] [(.int (5 : Int32)), (.int ((i1 + i2) + i3))]))
    refine own_via (fun _ k => XS.iconst X62.here hx rfl (hb hby at_107) k) ?_
    show own_G _ _ _ _ (T62.setTop (mkF m 108 #[.val (.int i0), .val (.int i1), .val (.int i2), .val (.int i3), .val (.int i4), .val (.int i5), .val (.int (5 : Int32)), .val (.ref b), .unset, .unset, .unset] [(.int (3 : Int32)), (.int (5 : Int32)), (.int ((i1 + i2) + i3))]))
    refine own_via (fun _ k => XS.icmpNo X62.here hx rfl (hb hby at_108) rfl (tlt (by decide)).2.2.2 k) ?_
    show own_G _ _ _ _ (T62.setTop (mkF m 111 #[.val (.int i0), .val (.int i1), .val (.int i2), .val (.int i3), .val (.int i4), .val (.int i5), .val (.int (5 : Int32)), .val (.ref b), .unset, .unset, .unset] [(.int ((i1 + i2) + i3))]))
    refine own_via (fun _ k => XS.iload X62.here hx rfl (hb hby at_111) rfl k) ?_
    show own_G _ _ _ _ (T62.setTop (mkF m 113 #[.val (.int i0), .val (.int i1), .val (.int i2), .val (.int i3), .val (.int i4), .val (.int i5), .val (.int (5 : Int32)), .val (.ref b), .unset, .unset, .unset] [(.int i4), (.int ((i1 + i2) + i3))]))
    refine own_via (fun _ k => XS.goto X62.here hx rfl (pc0 := 113) (pc' := 117) rfl (hb hby at_113) (by decide) (by decide) k) ?_
    show own_G _ _ _ _ (T62.setTop (mkF m 117 #[.val (.int i0), .val (.int i1), .val (.int i2), .val (.int i3), .val (.int i4), .val (.int i5), .val (.int (5 : Int32)), .val (.ref b), .unset, .unset, .unset] [(.int i4), (.int ((i1 + i2) + i3))]))
    refine own_via (fun _ k => XS.iadd X62.here hx rfl (hb hby at_117) rfl k) ?_
    show own_G _ _ _ _ (T62.setTop (mkF m 118 #[.val (.int i0), .val (.int i1), .val (.int i2), .val (.int i3), .val (.int i4), .val (.int i5), .val (.int (5 : Int32)), .val (.ref b), .unset, .unset, .unset] [(.int (((i1 + i2) + i3) + i4))]))
    refine own_via (fun _ k => XS.iload X62.here hx rfl (hb hby at_118) rfl k) ?_
    show own_G _ _ _ _ (T62.setTop (mkF m 120 #[.val (.int i0), .val (.int i1), .val (.int i2), .val (.int i3), .val (.int i4), .val (.int i5), .val (.int (5 : Int32)), .val (.ref b), .unset, .unset, .unset] [(.int (5 : Int32)), (.int (((i1 + i2) + i3) + i4))]))
    refine own_via (fun _ k => XS.iconst X62.here hx rfl (hb hby at_120) k) ?_
    show own_G _ _ _ _ (T62.setTop (mkF m 121 #[.val (.int i0), .val (.int i1), .val (.int i2), .val (.int i3), .val (.int i4), .val (.int i5), .val (.int (5 : Int32)), .val (.ref b), .unset, .unset, .unset] [(.int (4 : Int32)), (.int (5 : Int32)), (.int (((i1 + i2) + i3) + i4))]))
    refine own_via (fun _ k => XS.icmpNo X62.here hx rfl (hb hby at_121) rfl (tlt (by decide)).2.2.2 k) ?_
    show own_G _ _ _ _ (T62.setTop (mkF m 124 #[.val (.int i0), .val (.int i1), .val (.int i2), .val (.int i3), .val (.int i4), .val (.int i5), .val (.int (5 : Int32)), .val (.ref b), .unset, .unset, .unset] [(.int (((i1 + i2) + i3) + i4))]))
    refine own_via (fun _ k => XS.iload X62.here hx rfl (hb hby at_124) rfl k) ?_
    show own_G _ _ _ _ (T62.setTop (mkF m 126 #[.val (.int i0), .val (.int i1), .val (.int i2), .val (.int i3), .val (.int i4), .val (.int i5), .val (.int (5 : Int32)), .val (.ref b), .unset, .unset, .unset] [(.int i5), (.int (((i1 + i2) + i3) + i4))]))
    refine own_via (fun _ k => XS.goto X62.here hx rfl (pc0 := 126) (pc' := 130) rfl (hb hby at_126) (by decide) (by decide) k) ?_
    show own_G _ _ _ _ (T62.setTop (mkF m 130 #[.val (.int i0), .val (.int i1), .val (.int i2), .val (.int i3), .val (.int i4), .val (.int i5), .val (.int (5 : Int32)), .val (.ref b), .unset, .unset, .unset] [(.int i5), (.int (((i1 + i2) + i3) + i4))]))
    refine own_via (fun _ k => XS.iadd X62.here hx rfl (hb hby at_130) rfl k) ?_
    show own_G _ _ _ _ (T62.setTop (mkF m 131 #[.val (.int i0), .val (.int i1), .val (.int i2), .val (.int i3), .val (.int i4), .val (.int i5), .val (.int (5 : Int32)), .val (.ref b), .unset, .unset, .unset] [(.int ((((i1 + i2) + i3) + i4) + i5))]))
    refine own_via (fun _ k => XS.istore X62.here hx rfl (hb hby at_131) rfl (l' := #[.val (.int i0), .val (.int i1), .val (.int i2), .val (.int i3), .val (.int i4), .val (.int i5), .val (.int (5 : Int32)), .val (.ref b), .val (.int ((((i1 + i2) + i3) + i4) + i5)), .unset, .unset]) rfl k) ?_
    show own_G _ _ _ _ (T62.setTop (mkF m 133 #[.val (.int i0), .val (.int i1), .val (.int i2), .val (.int i3), .val (.int i4), .val (.int i5), .val (.int (5 : Int32)), .val (.ref b), .val (.int ((((i1 + i2) + i3) + i4) + i5)), .unset, .unset] []))
    refine own_via (fun _ k => XS.aload X62.here hx rfl (hb hby at_133) rfl rfl k) ?_
    show own_G _ _ _ _ (T62.setTop (mkF m 135 #[.val (.int i0), .val (.int i1), .val (.int i2), .val (.int i3), .val (.int i4), .val (.int i5), .val (.int (5 : Int32)), .val (.ref b), .val (.int ((((i1 + i2) + i3) + i4) + i5)), .unset, .unset] [(.ref b)]))
    obtain ⟨_, _, ⟨T63, L63, k63, n63⟩, -, X63, ⟨Lc63, hQ63, l63, y63, z63⟩, st63⟩ := Jvm.LawKit.callS X62 hx (y := (⟨"com/example/vanon/vanon/lattice/Lattice", "height", "([I)I"⟩ : MethodName)) hown (mvT hZ (hw _ (List.mem_of_getElem? (i := 2) rfl))) (mvT hZ (hw _ (List.mem_of_getElem? (i := 3) rfl))) (mvT hZ (hw _ (List.mem_of_getElem? (i := 4) rfl))) (mvT hZ (hw _ (List.mem_of_getElem? (i := 5) rfl))) (by decide) (backOf (W := 0) (rmh5 l Z a0 hw [] b k_b i1 i2 i3 i4 i5 h62 n0 Z0 V_b) hZ (hw _ (List.mem_of_getElem? (i := 5) rfl)) (hw _ (List.mem_of_getElem? (i := 4) rfl)) (by decide) (by decide)) (g := (mkF m 135 #[.val (.int i0), .val (.int i1), .val (.int i2), .val (.int i3), .val (.int i4), .val (.int i5), .val (.int (5 : Int32)), .val (.ref b), .val (.int ((((i1 + i2) + i3) + i4) + i5)), .unset, .unset] [(.ref b)])) rfl (by rw [hml]; rfl) (argsL := [(.ref b)]) (rest := []) (lenOf pd_0 rfl) rfl (by show 2 * 0 + _ ≤ _; exact Nat.le_of_eq rfl) (hb hby at_135) (fun _ _ => ⟨rfl, e62, Nat.le_of_ble_eq_true rfl, Nat.le_of_ble_eq_true rfl⟩)
    dsimp only [Pt.U, Pt.locs, Pt.cells, Pt.slots] at X63 l63 y63 z63 st63 hQ63
    subst l63 y63 z63
    obtain ⟨rfl, N63q, e63⟩ := hQ63
    have N63 := Fr.app N62 N63q
    refine own_via st63 ?_
    show own_G _ _ _ _ (T63.setTop (mkF m 138 #[.val (.int i0), .val (.int i1), .val (.int i2), .val (.int i3), .val (.int i4), .val (.int i5), .val (.int (5 : Int32)), .val (.ref b), .val (.int ((((i1 + i2) + i3) + i4) + i5)), .unset, .unset] [(.int ((((((0 : Int32) + i1) + i2) + i3) + i4) + i5))]))
    refine own_via (fun _ k => XS.istore X63.here hx rfl (hb hby at_138) rfl (l' := #[.val (.int i0), .val (.int i1), .val (.int i2), .val (.int i3), .val (.int i4), .val (.int i5), .val (.int (5 : Int32)), .val (.ref b), .val (.int ((((i1 + i2) + i3) + i4) + i5)), .val (.int ((((((0 : Int32) + i1) + i2) + i3) + i4) + i5)), .unset]) rfl k) ?_
    show own_G _ _ _ _ (T63.setTop (mkF m 140 #[.val (.int i0), .val (.int i1), .val (.int i2), .val (.int i3), .val (.int i4), .val (.int i5), .val (.int (5 : Int32)), .val (.ref b), .val (.int ((((i1 + i2) + i3) + i4) + i5)), .val (.int ((((((0 : Int32) + i1) + i2) + i3) + i4) + i5)), .unset] []))
    refine own_via (fun _ k => XS.aload X63.here hx rfl (hb hby at_140) rfl rfl k) ?_
    show own_G _ _ _ _ (T63.setTop (mkF m 142 #[.val (.int i0), .val (.int i1), .val (.int i2), .val (.int i3), .val (.int i4), .val (.int i5), .val (.int (5 : Int32)), .val (.ref b), .val (.int ((((i1 + i2) + i3) + i4) + i5)), .val (.int ((((((0 : Int32) + i1) + i2) + i3) + i4) + i5)), .unset] [(.ref b)]))
    obtain ⟨cl64, Ar64, -, Sz64, Nn64, -, -⟩ := id V_b
    refine own_via (fun _ k => X63.arraylength hx (by rw [e63]; exact Ar64.1) (State.isArrayOf_alike hZ.alike Ar64.2.1) (g := (mkF m 142 #[.val (.int i0), .val (.int i1), .val (.int i2), .val (.int i3), .val (.int i4), .val (.int i5), .val (.int (5 : Int32)), .val (.ref b), .val (.int ((((i1 + i2) + i3) + i4) + i5)), .val (.int ((((((0 : Int32) + i1) + i2) + i3) + i4) + i5)), .unset] [(.ref b)])) rfl rfl (hb hby at_142) _ k) ?_
    rw [len_of Sz64 Nn64]
    show own_G _ _ _ _ (T63.setTop (mkF m 143 #[.val (.int i0), .val (.int i1), .val (.int i2), .val (.int i3), .val (.int i4), .val (.int i5), .val (.int (5 : Int32)), .val (.ref b), .val (.int ((((i1 + i2) + i3) + i4) + i5)), .val (.int ((((((0 : Int32) + i1) + i2) + i3) + i4) + i5)), .unset] [(.int (5 : Int32))]))
    refine own_via (fun _ k => XS.iload X63.here hx rfl (hb hby at_143) rfl k) ?_
    show own_G _ _ _ _ (T63.setTop (mkF m 145 #[.val (.int i0), .val (.int i1), .val (.int i2), .val (.int i3), .val (.int i4), .val (.int i5), .val (.int (5 : Int32)), .val (.ref b), .val (.int ((((i1 + i2) + i3) + i4) + i5)), .val (.int ((((((0 : Int32) + i1) + i2) + i3) + i4) + i5)), .unset] [(.int (5 : Int32)), (.int (5 : Int32))]))
    refine own_via (fun _ k => XS.icmpNo X63.here hx rfl (hb hby at_145) rfl (teq (by decide)).2 k) ?_
    show own_G _ _ _ _ (T63.setTop (mkF m 148 #[.val (.int i0), .val (.int i1), .val (.int i2), .val (.int i3), .val (.int i4), .val (.int i5), .val (.int (5 : Int32)), .val (.ref b), .val (.int ((((i1 + i2) + i3) + i4) + i5)), .val (.int ((((((0 : Int32) + i1) + i2) + i3) + i4) + i5)), .unset] []))
    refine own_via (fun _ k => XS.iload X63.here hx rfl (hb hby at_148) rfl k) ?_
    show own_G _ _ _ _ (T63.setTop (mkF m 150 #[.val (.int i0), .val (.int i1), .val (.int i2), .val (.int i3), .val (.int i4), .val (.int i5), .val (.int (5 : Int32)), .val (.ref b), .val (.int ((((i1 + i2) + i3) + i4) + i5)), .val (.int ((((((0 : Int32) + i1) + i2) + i3) + i4) + i5)), .unset] [(.int (5 : Int32))]))
    refine own_via (fun _ k => XS.ifNo X63.here hx rfl (hb hby at_150) rfl ((if0 _ _).trans (tlt (by decide)).2.2.2) k) ?_
    show own_G _ _ _ _ (T63.setTop (mkF m 153 #[.val (.int i0), .val (.int i1), .val (.int i2), .val (.int i3), .val (.int i4), .val (.int i5), .val (.int (5 : Int32)), .val (.ref b), .val (.int ((((i1 + i2) + i3) + i4) + i5)), .val (.int ((((((0 : Int32) + i1) + i2) + i3) + i4) + i5)), .unset] []))
    refine own_via (fun _ k => XS.aload X63.here hx rfl (hb hby at_153) rfl rfl k) ?_
    show own_G _ _ _ _ (T63.setTop (mkF m 155 #[.val (.int i0), .val (.int i1), .val (.int i2), .val (.int i3), .val (.int i4), .val (.int i5), .val (.int (5 : Int32)), .val (.ref b), .val (.int ((((i1 + i2) + i3) + i4) + i5)), .val (.int ((((((0 : Int32) + i1) + i2) + i3) + i4) + i5)), .unset] [(.ref b)]))
    refine own_via (fun _ k => XS.iconst X63.here hx rfl (hb hby at_155) k) ?_
    show own_G _ _ _ _ (T63.setTop (mkF m 156 #[.val (.int i0), .val (.int i1), .val (.int i2), .val (.int i3), .val (.int i4), .val (.int i5), .val (.int (5 : Int32)), .val (.ref b), .val (.int ((((i1 + i2) + i3) + i4) + i5)), .val (.int ((((((0 : Int32) + i1) + i2) + i3) + i4) + i5)), .unset] [(.int (0 : Int32)), (.ref b)]))
    obtain ⟨cl65, Ar65, -, Sz65, Nn65, Hh65, -⟩ := id V_b
    have hin65 : ¬ ((0 : Int32) < 0 ∨ cl65.slots.size ≤ ((0 : Int32)).toNatClampNeg) := inb_of Sz65 ⟨by decide, by decide⟩
    have hat65 : cl65.slots[((0 : Int32)).toNatClampNeg]? = some (.int i1) := Has.at Hh65 hin65 rfl
    refine own_via (fun _ k => X63.iaload hx (j := (0 : Int32)) (v := (.int i1)) (by rw [e63]; exact Ar65.1) (State.isArrayOf_alike hZ.alike Ar65.2.1) Ar65.2.2 hin65 hat65 (g := (mkF m 156 #[.val (.int i0), .val (.int i1), .val (.int i2), .val (.int i3), .val (.int i4), .val (.int i5), .val (.int (5 : Int32)), .val (.ref b), .val (.int ((((i1 + i2) + i3) + i4) + i5)), .val (.int ((((((0 : Int32) + i1) + i2) + i3) + i4) + i5)), .unset] [(.int (0 : Int32)), (.ref b)])) rfl rfl (hb hby at_156) _ k) ?_
    show own_G _ _ _ _ (T63.setTop (mkF m 157 #[.val (.int i0), .val (.int i1), .val (.int i2), .val (.int i3), .val (.int i4), .val (.int i5), .val (.int (5 : Int32)), .val (.ref b), .val (.int ((((i1 + i2) + i3) + i4) + i5)), .val (.int ((((((0 : Int32) + i1) + i2) + i3) + i4) + i5)), .unset] [(.int i1)]))
    refine own_via (fun _ k => XS.iloadN X63.here hx rfl (hb hby at_157) rfl k) ?_
    show own_G _ _ _ _ (T63.setTop (mkF m 158 #[.val (.int i0), .val (.int i1), .val (.int i2), .val (.int i3), .val (.int i4), .val (.int i5), .val (.int (5 : Int32)), .val (.ref b), .val (.int ((((i1 + i2) + i3) + i4) + i5)), .val (.int ((((((0 : Int32) + i1) + i2) + i3) + i4) + i5)), .unset] [(.int i1), (.int i1)]))
    refine own_via (fun _ k => XS.icmpNo X63.here hx rfl (hb hby at_158) rfl (teq rfl).2 k) ?_
    show own_G _ _ _ _ (T63.setTop (mkF m 161 #[.val (.int i0), .val (.int i1), .val (.int i2), .val (.int i3), .val (.int i4), .val (.int i5), .val (.int (5 : Int32)), .val (.ref b), .val (.int ((((i1 + i2) + i3) + i4) + i5)), .val (.int ((((((0 : Int32) + i1) + i2) + i3) + i4) + i5)), .unset] []))
    refine own_via (fun _ k => XS.iload X63.here hx rfl (hb hby at_161) rfl k) ?_
    show own_G _ _ _ _ (T63.setTop (mkF m 163 #[.val (.int i0), .val (.int i1), .val (.int i2), .val (.int i3), .val (.int i4), .val (.int i5), .val (.int (5 : Int32)), .val (.ref b), .val (.int ((((i1 + i2) + i3) + i4) + i5)), .val (.int ((((((0 : Int32) + i1) + i2) + i3) + i4) + i5)), .unset] [(.int (5 : Int32))]))
    refine own_via (fun _ k => XS.iconst X63.here hx rfl (hb hby at_163) k) ?_
    show own_G _ _ _ _ (T63.setTop (mkF m 164 #[.val (.int i0), .val (.int i1), .val (.int i2), .val (.int i3), .val (.int i4), .val (.int i5), .val (.int (5 : Int32)), .val (.ref b), .val (.int ((((i1 + i2) + i3) + i4) + i5)), .val (.int ((((((0 : Int32) + i1) + i2) + i3) + i4) + i5)), .unset] [(.int (1 : Int32)), (.int (5 : Int32))]))
    refine own_via (fun _ k => XS.icmpNo X63.here hx rfl (hb hby at_164) rfl (tlt (by decide)).2.2.2 k) ?_
    show own_G _ _ _ _ (T63.setTop (mkF m 167 #[.val (.int i0), .val (.int i1), .val (.int i2), .val (.int i3), .val (.int i4), .val (.int i5), .val (.int (5 : Int32)), .val (.ref b), .val (.int ((((i1 + i2) + i3) + i4) + i5)), .val (.int ((((((0 : Int32) + i1) + i2) + i3) + i4) + i5)), .unset] []))
    refine own_via (fun _ k => XS.aload X63.here hx rfl (hb hby at_167) rfl rfl k) ?_
    show own_G _ _ _ _ (T63.setTop (mkF m 169 #[.val (.int i0), .val (.int i1), .val (.int i2), .val (.int i3), .val (.int i4), .val (.int i5), .val (.int (5 : Int32)), .val (.ref b), .val (.int ((((i1 + i2) + i3) + i4) + i5)), .val (.int ((((((0 : Int32) + i1) + i2) + i3) + i4) + i5)), .unset] [(.ref b)]))
    refine own_via (fun _ k => XS.iconst X63.here hx rfl (hb hby at_169) k) ?_
    show own_G _ _ _ _ (T63.setTop (mkF m 170 #[.val (.int i0), .val (.int i1), .val (.int i2), .val (.int i3), .val (.int i4), .val (.int i5), .val (.int (5 : Int32)), .val (.ref b), .val (.int ((((i1 + i2) + i3) + i4) + i5)), .val (.int ((((((0 : Int32) + i1) + i2) + i3) + i4) + i5)), .unset] [(.int (1 : Int32)), (.ref b)]))
    obtain ⟨cl66, Ar66, -, Sz66, Nn66, Hh66, -⟩ := id V_b
    have hin66 : ¬ ((1 : Int32) < 0 ∨ cl66.slots.size ≤ ((1 : Int32)).toNatClampNeg) := inb_of Sz66 ⟨by decide, by decide⟩
    have hat66 : cl66.slots[((1 : Int32)).toNatClampNeg]? = some (.int i2) := Has.at Hh66 hin66 rfl
    refine own_via (fun _ k => X63.iaload hx (j := (1 : Int32)) (v := (.int i2)) (by rw [e63]; exact Ar66.1) (State.isArrayOf_alike hZ.alike Ar66.2.1) Ar66.2.2 hin66 hat66 (g := (mkF m 170 #[.val (.int i0), .val (.int i1), .val (.int i2), .val (.int i3), .val (.int i4), .val (.int i5), .val (.int (5 : Int32)), .val (.ref b), .val (.int ((((i1 + i2) + i3) + i4) + i5)), .val (.int ((((((0 : Int32) + i1) + i2) + i3) + i4) + i5)), .unset] [(.int (1 : Int32)), (.ref b)])) rfl rfl (hb hby at_170) _ k) ?_
    show own_G _ _ _ _ (T63.setTop (mkF m 171 #[.val (.int i0), .val (.int i1), .val (.int i2), .val (.int i3), .val (.int i4), .val (.int i5), .val (.int (5 : Int32)), .val (.ref b), .val (.int ((((i1 + i2) + i3) + i4) + i5)), .val (.int ((((((0 : Int32) + i1) + i2) + i3) + i4) + i5)), .unset] [(.int i2)]))
    refine own_via (fun _ k => XS.iloadN X63.here hx rfl (hb hby at_171) rfl k) ?_
    show own_G _ _ _ _ (T63.setTop (mkF m 172 #[.val (.int i0), .val (.int i1), .val (.int i2), .val (.int i3), .val (.int i4), .val (.int i5), .val (.int (5 : Int32)), .val (.ref b), .val (.int ((((i1 + i2) + i3) + i4) + i5)), .val (.int ((((((0 : Int32) + i1) + i2) + i3) + i4) + i5)), .unset] [(.int i2), (.int i2)]))
    refine own_via (fun _ k => XS.icmpNo X63.here hx rfl (hb hby at_172) rfl (teq rfl).2 k) ?_
    show own_G _ _ _ _ (T63.setTop (mkF m 175 #[.val (.int i0), .val (.int i1), .val (.int i2), .val (.int i3), .val (.int i4), .val (.int i5), .val (.int (5 : Int32)), .val (.ref b), .val (.int ((((i1 + i2) + i3) + i4) + i5)), .val (.int ((((((0 : Int32) + i1) + i2) + i3) + i4) + i5)), .unset] []))
    refine own_via (fun _ k => XS.iload X63.here hx rfl (hb hby at_175) rfl k) ?_
    show own_G _ _ _ _ (T63.setTop (mkF m 177 #[.val (.int i0), .val (.int i1), .val (.int i2), .val (.int i3), .val (.int i4), .val (.int i5), .val (.int (5 : Int32)), .val (.ref b), .val (.int ((((i1 + i2) + i3) + i4) + i5)), .val (.int ((((((0 : Int32) + i1) + i2) + i3) + i4) + i5)), .unset] [(.int (5 : Int32))]))
    refine own_via (fun _ k => XS.iconst X63.here hx rfl (hb hby at_177) k) ?_
    show own_G _ _ _ _ (T63.setTop (mkF m 178 #[.val (.int i0), .val (.int i1), .val (.int i2), .val (.int i3), .val (.int i4), .val (.int i5), .val (.int (5 : Int32)), .val (.ref b), .val (.int ((((i1 + i2) + i3) + i4) + i5)), .val (.int ((((((0 : Int32) + i1) + i2) + i3) + i4) + i5)), .unset] [(.int (2 : Int32)), (.int (5 : Int32))]))
    refine own_via (fun _ k => XS.icmpNo X63.here hx rfl (hb hby at_178) rfl (tlt (by decide)).2.2.2 k) ?_
    show own_G _ _ _ _ (T63.setTop (mkF m 181 #[.val (.int i0), .val (.int i1), .val (.int i2), .val (.int i3), .val (.int i4), .val (.int i5), .val (.int (5 : Int32)), .val (.ref b), .val (.int ((((i1 + i2) + i3) + i4) + i5)), .val (.int ((((((0 : Int32) + i1) + i2) + i3) + i4) + i5)), .unset] []))
    refine own_via (fun _ k => XS.aload X63.here hx rfl (hb hby at_181) rfl rfl k) ?_
    show own_G _ _ _ _ (T63.setTop (mkF m 183 #[.val (.int i0), .val (.int i1), .val (.int i2), .val (.int i3), .val (.int i4), .val (.int i5), .val (.int (5 : Int32)), .val (.ref b), .val (.int ((((i1 + i2) + i3) + i4) + i5)), .val (.int ((((((0 : Int32) + i1) + i2) + i3) + i4) + i5)), .unset] [(.ref b)]))
    refine own_via (fun _ k => XS.iconst X63.here hx rfl (hb hby at_183) k) ?_
    show own_G _ _ _ _ (T63.setTop (mkF m 184 #[.val (.int i0), .val (.int i1), .val (.int i2), .val (.int i3), .val (.int i4), .val (.int i5), .val (.int (5 : Int32)), .val (.ref b), .val (.int ((((i1 + i2) + i3) + i4) + i5)), .val (.int ((((((0 : Int32) + i1) + i2) + i3) + i4) + i5)), .unset] [(.int (2 : Int32)), (.ref b)]))
    obtain ⟨cl67, Ar67, -, Sz67, Nn67, Hh67, -⟩ := id V_b
    have hin67 : ¬ ((2 : Int32) < 0 ∨ cl67.slots.size ≤ ((2 : Int32)).toNatClampNeg) := inb_of Sz67 ⟨by decide, by decide⟩
    have hat67 : cl67.slots[((2 : Int32)).toNatClampNeg]? = some (.int i3) := Has.at Hh67 hin67 rfl
    refine own_via (fun _ k => X63.iaload hx (j := (2 : Int32)) (v := (.int i3)) (by rw [e63]; exact Ar67.1) (State.isArrayOf_alike hZ.alike Ar67.2.1) Ar67.2.2 hin67 hat67 (g := (mkF m 184 #[.val (.int i0), .val (.int i1), .val (.int i2), .val (.int i3), .val (.int i4), .val (.int i5), .val (.int (5 : Int32)), .val (.ref b), .val (.int ((((i1 + i2) + i3) + i4) + i5)), .val (.int ((((((0 : Int32) + i1) + i2) + i3) + i4) + i5)), .unset] [(.int (2 : Int32)), (.ref b)])) rfl rfl (hb hby at_184) _ k) ?_
    show own_G _ _ _ _ (T63.setTop (mkF m 185 #[.val (.int i0), .val (.int i1), .val (.int i2), .val (.int i3), .val (.int i4), .val (.int i5), .val (.int (5 : Int32)), .val (.ref b), .val (.int ((((i1 + i2) + i3) + i4) + i5)), .val (.int ((((((0 : Int32) + i1) + i2) + i3) + i4) + i5)), .unset] [(.int i3)]))
    refine own_via (fun _ k => XS.iloadN X63.here hx rfl (hb hby at_185) rfl k) ?_
    show own_G _ _ _ _ (T63.setTop (mkF m 186 #[.val (.int i0), .val (.int i1), .val (.int i2), .val (.int i3), .val (.int i4), .val (.int i5), .val (.int (5 : Int32)), .val (.ref b), .val (.int ((((i1 + i2) + i3) + i4) + i5)), .val (.int ((((((0 : Int32) + i1) + i2) + i3) + i4) + i5)), .unset] [(.int i3), (.int i3)]))
    refine own_via (fun _ k => XS.icmpNo X63.here hx rfl (hb hby at_186) rfl (teq rfl).2 k) ?_
    show own_G _ _ _ _ (T63.setTop (mkF m 189 #[.val (.int i0), .val (.int i1), .val (.int i2), .val (.int i3), .val (.int i4), .val (.int i5), .val (.int (5 : Int32)), .val (.ref b), .val (.int ((((i1 + i2) + i3) + i4) + i5)), .val (.int ((((((0 : Int32) + i1) + i2) + i3) + i4) + i5)), .unset] []))
    refine own_via (fun _ k => XS.iload X63.here hx rfl (hb hby at_189) rfl k) ?_
    show own_G _ _ _ _ (T63.setTop (mkF m 191 #[.val (.int i0), .val (.int i1), .val (.int i2), .val (.int i3), .val (.int i4), .val (.int i5), .val (.int (5 : Int32)), .val (.ref b), .val (.int ((((i1 + i2) + i3) + i4) + i5)), .val (.int ((((((0 : Int32) + i1) + i2) + i3) + i4) + i5)), .unset] [(.int (5 : Int32))]))
    refine own_via (fun _ k => XS.iconst X63.here hx rfl (hb hby at_191) k) ?_
    show own_G _ _ _ _ (T63.setTop (mkF m 192 #[.val (.int i0), .val (.int i1), .val (.int i2), .val (.int i3), .val (.int i4), .val (.int i5), .val (.int (5 : Int32)), .val (.ref b), .val (.int ((((i1 + i2) + i3) + i4) + i5)), .val (.int ((((((0 : Int32) + i1) + i2) + i3) + i4) + i5)), .unset] [(.int (3 : Int32)), (.int (5 : Int32))]))
    refine own_via (fun _ k => XS.icmpNo X63.here hx rfl (hb hby at_192) rfl (tlt (by decide)).2.2.2 k) ?_
    show own_G _ _ _ _ (T63.setTop (mkF m 195 #[.val (.int i0), .val (.int i1), .val (.int i2), .val (.int i3), .val (.int i4), .val (.int i5), .val (.int (5 : Int32)), .val (.ref b), .val (.int ((((i1 + i2) + i3) + i4) + i5)), .val (.int ((((((0 : Int32) + i1) + i2) + i3) + i4) + i5)), .unset] []))
    refine own_via (fun _ k => XS.aload X63.here hx rfl (hb hby at_195) rfl rfl k) ?_
    show own_G _ _ _ _ (T63.setTop (mkF m 197 #[.val (.int i0), .val (.int i1), .val (.int i2), .val (.int i3), .val (.int i4), .val (.int i5), .val (.int (5 : Int32)), .val (.ref b), .val (.int ((((i1 + i2) + i3) + i4) + i5)), .val (.int ((((((0 : Int32) + i1) + i2) + i3) + i4) + i5)), .unset] [(.ref b)]))
    refine own_via (fun _ k => XS.iconst X63.here hx rfl (hb hby at_197) k) ?_
    show own_G _ _ _ _ (T63.setTop (mkF m 198 #[.val (.int i0), .val (.int i1), .val (.int i2), .val (.int i3), .val (.int i4), .val (.int i5), .val (.int (5 : Int32)), .val (.ref b), .val (.int ((((i1 + i2) + i3) + i4) + i5)), .val (.int ((((((0 : Int32) + i1) + i2) + i3) + i4) + i5)), .unset] [(.int (3 : Int32)), (.ref b)]))
    obtain ⟨cl68, Ar68, -, Sz68, Nn68, Hh68, -⟩ := id V_b
    have hin68 : ¬ ((3 : Int32) < 0 ∨ cl68.slots.size ≤ ((3 : Int32)).toNatClampNeg) := inb_of Sz68 ⟨by decide, by decide⟩
    have hat68 : cl68.slots[((3 : Int32)).toNatClampNeg]? = some (.int i4) := Has.at Hh68 hin68 rfl
    refine own_via (fun _ k => X63.iaload hx (j := (3 : Int32)) (v := (.int i4)) (by rw [e63]; exact Ar68.1) (State.isArrayOf_alike hZ.alike Ar68.2.1) Ar68.2.2 hin68 hat68 (g := (mkF m 198 #[.val (.int i0), .val (.int i1), .val (.int i2), .val (.int i3), .val (.int i4), .val (.int i5), .val (.int (5 : Int32)), .val (.ref b), .val (.int ((((i1 + i2) + i3) + i4) + i5)), .val (.int ((((((0 : Int32) + i1) + i2) + i3) + i4) + i5)), .unset] [(.int (3 : Int32)), (.ref b)])) rfl rfl (hb hby at_198) _ k) ?_
    show own_G _ _ _ _ (T63.setTop (mkF m 199 #[.val (.int i0), .val (.int i1), .val (.int i2), .val (.int i3), .val (.int i4), .val (.int i5), .val (.int (5 : Int32)), .val (.ref b), .val (.int ((((i1 + i2) + i3) + i4) + i5)), .val (.int ((((((0 : Int32) + i1) + i2) + i3) + i4) + i5)), .unset] [(.int i4)]))
    refine own_via (fun _ k => XS.iload X63.here hx rfl (hb hby at_199) rfl k) ?_
    show own_G _ _ _ _ (T63.setTop (mkF m 201 #[.val (.int i0), .val (.int i1), .val (.int i2), .val (.int i3), .val (.int i4), .val (.int i5), .val (.int (5 : Int32)), .val (.ref b), .val (.int ((((i1 + i2) + i3) + i4) + i5)), .val (.int ((((((0 : Int32) + i1) + i2) + i3) + i4) + i5)), .unset] [(.int i4), (.int i4)]))
    refine own_via (fun _ k => XS.icmpNo X63.here hx rfl (hb hby at_201) rfl (teq rfl).2 k) ?_
    show own_G _ _ _ _ (T63.setTop (mkF m 204 #[.val (.int i0), .val (.int i1), .val (.int i2), .val (.int i3), .val (.int i4), .val (.int i5), .val (.int (5 : Int32)), .val (.ref b), .val (.int ((((i1 + i2) + i3) + i4) + i5)), .val (.int ((((((0 : Int32) + i1) + i2) + i3) + i4) + i5)), .unset] []))
    refine own_via (fun _ k => XS.iload X63.here hx rfl (hb hby at_204) rfl k) ?_
    show own_G _ _ _ _ (T63.setTop (mkF m 206 #[.val (.int i0), .val (.int i1), .val (.int i2), .val (.int i3), .val (.int i4), .val (.int i5), .val (.int (5 : Int32)), .val (.ref b), .val (.int ((((i1 + i2) + i3) + i4) + i5)), .val (.int ((((((0 : Int32) + i1) + i2) + i3) + i4) + i5)), .unset] [(.int (5 : Int32))]))
    refine own_via (fun _ k => XS.iconst X63.here hx rfl (hb hby at_206) k) ?_
    show own_G _ _ _ _ (T63.setTop (mkF m 207 #[.val (.int i0), .val (.int i1), .val (.int i2), .val (.int i3), .val (.int i4), .val (.int i5), .val (.int (5 : Int32)), .val (.ref b), .val (.int ((((i1 + i2) + i3) + i4) + i5)), .val (.int ((((((0 : Int32) + i1) + i2) + i3) + i4) + i5)), .unset] [(.int (4 : Int32)), (.int (5 : Int32))]))
    refine own_via (fun _ k => XS.icmpNo X63.here hx rfl (hb hby at_207) rfl (tlt (by decide)).2.2.2 k) ?_
    show own_G _ _ _ _ (T63.setTop (mkF m 210 #[.val (.int i0), .val (.int i1), .val (.int i2), .val (.int i3), .val (.int i4), .val (.int i5), .val (.int (5 : Int32)), .val (.ref b), .val (.int ((((i1 + i2) + i3) + i4) + i5)), .val (.int ((((((0 : Int32) + i1) + i2) + i3) + i4) + i5)), .unset] []))
    refine own_via (fun _ k => XS.aload X63.here hx rfl (hb hby at_210) rfl rfl k) ?_
    show own_G _ _ _ _ (T63.setTop (mkF m 212 #[.val (.int i0), .val (.int i1), .val (.int i2), .val (.int i3), .val (.int i4), .val (.int i5), .val (.int (5 : Int32)), .val (.ref b), .val (.int ((((i1 + i2) + i3) + i4) + i5)), .val (.int ((((((0 : Int32) + i1) + i2) + i3) + i4) + i5)), .unset] [(.ref b)]))
    refine own_via (fun _ k => XS.iconst X63.here hx rfl (hb hby at_212) k) ?_
    show own_G _ _ _ _ (T63.setTop (mkF m 213 #[.val (.int i0), .val (.int i1), .val (.int i2), .val (.int i3), .val (.int i4), .val (.int i5), .val (.int (5 : Int32)), .val (.ref b), .val (.int ((((i1 + i2) + i3) + i4) + i5)), .val (.int ((((((0 : Int32) + i1) + i2) + i3) + i4) + i5)), .unset] [(.int (4 : Int32)), (.ref b)]))
    obtain ⟨cl69, Ar69, -, Sz69, Nn69, Hh69, -⟩ := id V_b
    have hin69 : ¬ ((4 : Int32) < 0 ∨ cl69.slots.size ≤ ((4 : Int32)).toNatClampNeg) := inb_of Sz69 ⟨by decide, by decide⟩
    have hat69 : cl69.slots[((4 : Int32)).toNatClampNeg]? = some (.int i5) := Has.at Hh69 hin69 rfl
    refine own_via (fun _ k => X63.iaload hx (j := (4 : Int32)) (v := (.int i5)) (by rw [e63]; exact Ar69.1) (State.isArrayOf_alike hZ.alike Ar69.2.1) Ar69.2.2 hin69 hat69 (g := (mkF m 213 #[.val (.int i0), .val (.int i1), .val (.int i2), .val (.int i3), .val (.int i4), .val (.int i5), .val (.int (5 : Int32)), .val (.ref b), .val (.int ((((i1 + i2) + i3) + i4) + i5)), .val (.int ((((((0 : Int32) + i1) + i2) + i3) + i4) + i5)), .unset] [(.int (4 : Int32)), (.ref b)])) rfl rfl (hb hby at_213) _ k) ?_
    show own_G _ _ _ _ (T63.setTop (mkF m 214 #[.val (.int i0), .val (.int i1), .val (.int i2), .val (.int i3), .val (.int i4), .val (.int i5), .val (.int (5 : Int32)), .val (.ref b), .val (.int ((((i1 + i2) + i3) + i4) + i5)), .val (.int ((((((0 : Int32) + i1) + i2) + i3) + i4) + i5)), .unset] [(.int i5)]))
    refine own_via (fun _ k => XS.iload X63.here hx rfl (hb hby at_214) rfl k) ?_
    show own_G _ _ _ _ (T63.setTop (mkF m 216 #[.val (.int i0), .val (.int i1), .val (.int i2), .val (.int i3), .val (.int i4), .val (.int i5), .val (.int (5 : Int32)), .val (.ref b), .val (.int ((((i1 + i2) + i3) + i4) + i5)), .val (.int ((((((0 : Int32) + i1) + i2) + i3) + i4) + i5)), .unset] [(.int i5), (.int i5)]))
    refine own_via (fun _ k => XS.icmpNo X63.here hx rfl (hb hby at_216) rfl (teq rfl).2 k) ?_
    show own_G _ _ _ _ (T63.setTop (mkF m 219 #[.val (.int i0), .val (.int i1), .val (.int i2), .val (.int i3), .val (.int i4), .val (.int i5), .val (.int (5 : Int32)), .val (.ref b), .val (.int ((((i1 + i2) + i3) + i4) + i5)), .val (.int ((((((0 : Int32) + i1) + i2) + i3) + i4) + i5)), .unset] []))
    refine own_via (fun _ k => XS.iconst X63.here hx rfl (hb hby at_219) k) ?_
    show own_G _ _ _ _ (T63.setTop (mkF m 220 #[.val (.int i0), .val (.int i1), .val (.int i2), .val (.int i3), .val (.int i4), .val (.int i5), .val (.int (5 : Int32)), .val (.ref b), .val (.int ((((i1 + i2) + i3) + i4) + i5)), .val (.int ((((((0 : Int32) + i1) + i2) + i3) + i4) + i5)), .unset] [(.int (1 : Int32))]))
    refine own_via (fun _ k => XS.goto X63.here hx rfl (pc0 := 220) (pc' := 224) rfl (hb hby at_220) (by decide) (by decide) k) ?_
    show own_G _ _ _ _ (T63.setTop (mkF m 224 #[.val (.int i0), .val (.int i1), .val (.int i2), .val (.int i3), .val (.int i4), .val (.int i5), .val (.int (5 : Int32)), .val (.ref b), .val (.int ((((i1 + i2) + i3) + i4) + i5)), .val (.int ((((((0 : Int32) + i1) + i2) + i3) + i4) + i5)), .unset] [(.int (1 : Int32))]))
    refine own_via (fun _ k => XS.istore X63.here hx rfl (hb hby at_224) rfl (l' := #[.val (.int i0), .val (.int i1), .val (.int i2), .val (.int i3), .val (.int i4), .val (.int i5), .val (.int (5 : Int32)), .val (.ref b), .val (.int ((((i1 + i2) + i3) + i4) + i5)), .val (.int ((((((0 : Int32) + i1) + i2) + i3) + i4) + i5)), .val (.int (1 : Int32))]) rfl k) ?_
    show own_G _ _ _ _ (T63.setTop (mkF m 226 #[.val (.int i0), .val (.int i1), .val (.int i2), .val (.int i3), .val (.int i4), .val (.int i5), .val (.int (5 : Int32)), .val (.ref b), .val (.int ((((i1 + i2) + i3) + i4) + i5)), .val (.int ((((((0 : Int32) + i1) + i2) + i3) + i4) + i5)), .val (.int (1 : Int32))] []))
    refine own_via (fun _ k => XS.iload X63.here hx rfl (hb hby at_226) rfl k) ?_
    show own_G _ _ _ _ (T63.setTop (mkF m 228 #[.val (.int i0), .val (.int i1), .val (.int i2), .val (.int i3), .val (.int i4), .val (.int i5), .val (.int (5 : Int32)), .val (.ref b), .val (.int ((((i1 + i2) + i3) + i4) + i5)), .val (.int ((((((0 : Int32) + i1) + i2) + i3) + i4) + i5)), .val (.int (1 : Int32))] [(.int ((((((0 : Int32) + i1) + i2) + i3) + i4) + i5))]))
    refine own_via (fun _ k => XS.iload X63.here hx rfl (hb hby at_228) rfl k) ?_
    show own_G _ _ _ _ (T63.setTop (mkF m 230 #[.val (.int i0), .val (.int i1), .val (.int i2), .val (.int i3), .val (.int i4), .val (.int i5), .val (.int (5 : Int32)), .val (.ref b), .val (.int ((((i1 + i2) + i3) + i4) + i5)), .val (.int ((((((0 : Int32) + i1) + i2) + i3) + i4) + i5)), .val (.int (1 : Int32))] [(.int ((((i1 + i2) + i3) + i4) + i5)), (.int ((((((0 : Int32) + i1) + i2) + i3) + i4) + i5))]))
    refine own_via (fun _ k => XS.icmpNo X63.here hx rfl (hb hby at_230) rfl (teq (by simp [Int32.zero_add, Int32.add_zero])).2 k) ?_
    show own_G _ _ _ _ (T63.setTop (mkF m 233 #[.val (.int i0), .val (.int i1), .val (.int i2), .val (.int i3), .val (.int i4), .val (.int i5), .val (.int (5 : Int32)), .val (.ref b), .val (.int ((((i1 + i2) + i3) + i4) + i5)), .val (.int ((((((0 : Int32) + i1) + i2) + i3) + i4) + i5)), .val (.int (1 : Int32))] []))
    refine own_via (fun _ k => XS.iload X63.here hx rfl (hb hby at_233) rfl k) ?_
    show own_G _ _ _ _ (T63.setTop (mkF m 235 #[.val (.int i0), .val (.int i1), .val (.int i2), .val (.int i3), .val (.int i4), .val (.int i5), .val (.int (5 : Int32)), .val (.ref b), .val (.int ((((i1 + i2) + i3) + i4) + i5)), .val (.int ((((((0 : Int32) + i1) + i2) + i3) + i4) + i5)), .val (.int (1 : Int32))] [(.int (1 : Int32))]))
    refine own_via (fun _ k => XS.ifNo X63.here hx rfl (hb hby at_235) rfl ((if0 _ _).trans (feq (by decide)).1) k) ?_
    show own_G _ _ _ _ (T63.setTop (mkF m 238 #[.val (.int i0), .val (.int i1), .val (.int i2), .val (.int i3), .val (.int i4), .val (.int i5), .val (.int (5 : Int32)), .val (.ref b), .val (.int ((((i1 + i2) + i3) + i4) + i5)), .val (.int ((((((0 : Int32) + i1) + i2) + i3) + i4) + i5)), .val (.int (1 : Int32))] []))
    refine own_via (fun _ k => XS.iconst X63.here hx rfl (hb hby at_238) k) ?_
    show own_G _ _ _ _ (T63.setTop (mkF m 239 #[.val (.int i0), .val (.int i1), .val (.int i2), .val (.int i3), .val (.int i4), .val (.int i5), .val (.int (5 : Int32)), .val (.ref b), .val (.int ((((i1 + i2) + i3) + i4) + i5)), .val (.int ((((((0 : Int32) + i1) + i2) + i3) + i4) + i5)), .val (.int (1 : Int32))] [(.int (1 : Int32))]))
    refine own_via (fun _ k => XS.goto X63.here hx rfl (pc0 := 239) (pc' := 243) rfl (hb hby at_239) (by decide) (by decide) k) ?_
    show own_G _ _ _ _ (T63.setTop (mkF m 243 #[.val (.int i0), .val (.int i1), .val (.int i2), .val (.int i3), .val (.int i4), .val (.int i5), .val (.int (5 : Int32)), .val (.ref b), .val (.int ((((i1 + i2) + i3) + i4) + i5)), .val (.int ((((((0 : Int32) + i1) + i2) + i3) + i4) + i5)), .val (.int (1 : Int32))] [(.int (1 : Int32))]))
    obtain ⟨fs, hr, hrun, hended, hW, hsame⟩ := X63.leave (v := some (.int (1 : Int32))) (fun h => by rw [Bd.returns] at h; cases h)
    exact ⟨_, _, retN X63 hx (t := .boolean) Bd.returns (by simp) (hb hby at_243) hr, hrun, hended, _, _, rfl, ⟨rfl, N63⟩, ⟨_, rfl⟩, hW, hsame.mono (by decide) (by decide)⟩
set_option maxRecDepth 65536 in
set_option maxHeartbeats 40000000 in
theorem comes_1 {Post : Tables → Env → Array Value → State → Outcome → State → Prop} (hpost : ∀ tb e args s v u, (limb_1_1.after args s (.returned v) u = true ∧ limb_1_2.after args s (.returned v) u = true ∧ True) → FrameEnd s (.returned v) u (Jvm.fieldLocs frame_1_writes args s ++ Jvm.arrayLocs frame_1_arrays args s ++ Jvm.staticLocs frame_1_statics s) 16 128 → Post tb e args s (.returned v) u) :
    ArmFor flags0 classFile x code maxLocals ret World_1 tables_1 room_1 Calls_1 rest_1 Pre_1 Post := by
  intro l hfl _ _ p e ha hc hk s m args below hf hA hF happ hP
  obtain ⟨hcalls, hrest, hpre⟩ := hP
  obtain ⟨-, -, -, hnamed, -, -, -, hat⟩ := (Spec.applies_iff hf).mp happ
  have hall := flat_of_before _ (show (Jvm.Cond.and given_1 narrow_1).before args s = true from hpre)
  have hKK : own_Kinds [.int, .int, .int, .int, .int, .int] args := by
    refine own_Kinds_of (s := s) ?_ fun q hq => hall q ?_
    · have := hall (.count 6) (by simp [flatC, given_1])
      simpa [Cond.before, Cond.holds, Cond.value] using this
    · have hf : flatC (Jvm.Cond.and given_1 narrow_1) = .count 6 :: (Jvm.Sym.sorts 0 [.int, .int, .int, .int, .int, .int] ++ flatC narrow_1) := rfl
      rw [hf]; exact List.mem_cons_of_mem _ (List.mem_append_left _ hq)
  obtain ⟨v0, v1, v2, v3, v4, v5, rfl, q0, q1, q2, q3, q4, q5⟩ := own_k6 hKK
  obtain ⟨i0, rfl⟩ := own_int q0
  obtain ⟨i1, rfl⟩ := own_int q1
  obtain ⟨i2, rfl⟩ := own_int q2
  obtain ⟨i3, rfl⟩ := own_int q3
  obtain ⟨i4, rfl⟩ := own_int q4
  obtain ⟨i5, rfl⟩ := own_int q5
  have hw := fun d (hd : d ∈ tables_1) => atoms_spec (ws := Jvm.Cond.code x code maxLocals ret :: tables_1) hat d (List.mem_cons_of_mem _ hd)
  obtain ⟨n, o, h1, h2, h3, _, L, rfl, ⟨rfl, N⟩, hq⟩ := rm0 l s _ hw tables_1 i0 i1 i2 i3 i4 i5 s.heap s.heap.size (Nat.le_refl _)  p e ha hc hk s m _ below hf ((Spec.applies_iff_loose hf).mp happ).1 ⟨rfl, State.Warmed39.refl s, rfl⟩ trivial
  refine ⟨n, _, h1, h2, h3, hpost _ _ _ _ _ _ ⟨Cond.after_iff.mpr rfl, Cond.after_iff.mpr (eq_i res_at (Term.int_eval (1)) rfl), trivial⟩ ⟨hq.1, hq.2.1, (hq.2.2.sift fun y hy => Or.inr (N y hy)).mono (by decide) (by decide)⟩⟩
theorem main_1_1 : Claimed_1_1 := comes_1 fun _ _ _ _ _ _ h hF => ⟨h.1, hF⟩
theorem main_1_2 : Claimed_1_2 := comes_1 fun _ _ _ _ _ _ h hF => ⟨h.2.1, hF⟩
end Jvm.Pilot.@@N@@
namespace Jvm.Pilot.@@N@@
open Jvm Jvm.ClassFile Sem Op Lib Jvm.Free Jvm.Stand Jvm.Pilot.@@N@@.Jvm.D
/-! MADE BY PROGRAM (witnessworld.py) out of the Statement's table words and the real class files: 9 classes; the members and pool entries that the words name. The judged class is class 1, her method 1. -/
namespace start1
open Jvm.ClassFile
def u (s : String) : CpInfo := .utf8 (stringToUtf16 s)
/-- a pool by its gaps: so many unusable entries, then the entry; so many at the end -/
def gap : Nat → List CpInfo → List CpInfo
  | 0, r => r
  | n + 1, r => .unusable :: gap n r
def poolList (es : List (Nat × CpInfo)) (last : Nat) : List CpInfo := es.foldr (fun e r => gap e.1 (e.2 :: r)) (gap last [])
def pool (es : List (Nat × CpInfo)) (last : Nat) : Array CpInfo := ⟨poolList es last⟩
def fileOf (pool : Array CpInfo) (this : Nat) (attrs : Array Attribute := #[]) (ms : Array MethodInfo := #[]) (fl : Nat := 33) (sup : Nat := 0) (ifs : Array Nat := #[]) (fds : Array FieldInfo := #[]) : ClassFile where
  minorVersion := 0
  majorVersion := 65
  constantPool := pool
  accessFlags := fl
  thisClass := this
  superClass := sup
  interfaces := ifs
  fields := fds
  methods := ms
  attributes := attrs
def plain (name : String) (sup : Option ClassId) : Class where
  name := name
  kind := .ordinary
  loader := none
  accessFlags := 33
  super := sup
  interfaces := #[]
  cf := none
  fields := #[]
  methods := #[]
  instanceTypes := #[]
  staticTypes := #[]
  resolved := #[]
  callSites := []
  init := .initialized
  statics := none
  mirror := none

def pool0 : Array CpInfo := pool [(5, u "<init>"), (0, u "()V"), (1, .class_ 10), (1, u "java/lang/Object")] 113

def k0m0 : Method := { name := "<init>", desc := "()V", sig := { parameters := [], returnType := none }, accessFlags := 1, code := none }
/-- java/lang/Object -/
def k0 : Class := { plain "java/lang/Object" none with
  accessFlags := 33
  interfaces := #[]
  cf := some (fileOf pool0 8 #[] #[{ accessFlags := 1, nameIndex := 5, descriptorIndex := 6, attributes := #[] }] 33 0 #[] #[])
  fields := #[]
  methods := #[k0m0]
  instanceTypes := #[]
  staticTypes := #[]
  resolved := Array.replicate 124 none
  statics := none }

def pool1 : Array CpInfo := pool [(2, .class_ 4), (1, u "java/lang/Object"), (0, u "<init>"), (0, u "()V"), (0, .integer 2147483647), (0, .methodref 9 10), (0, .class_ 11), (0, .nameAndType 12 13), (0, u "com/example/vanon/vanon/lattice/Lattice"), (0, u "height"), (0, u "([I)I"), (0, .class_ 15), (0, u "com/example/vanon/vanon/lattice/LatticeHeightPinLaw"), (2, u "law"), (0, u "(IIIIII)Z")] 5

def k1m0 : Method := { name := "<init>", desc := "()V", sig := { parameters := [], returnType := none }, accessFlags := 1, code := none }
def k1c1 : Code := { maxStack := 3, maxLocals := 11, code := code, exceptionTable := #[], attributes := #[] }
def k1m1 : Method := { name := "law", desc := "(IIIIII)Z", sig := { parameters := [.int, .int, .int, .int, .int, .int], returnType := some .boolean }, accessFlags := 9, code := some k1c1 }
/-- com/example/vanon/vanon/lattice/LatticeHeightPinLaw -/
def k1 : Class := { plain "com/example/vanon/vanon/lattice/LatticeHeightPinLaw" (some 0) with
  accessFlags := 49
  interfaces := #[]
  cf := some (fileOf pool1 14 #[] #[{ accessFlags := 1, nameIndex := 5, descriptorIndex := 6, attributes := #[] }, { accessFlags := 9, nameIndex := 18, descriptorIndex := 19, attributes := #[] }] 49 2 #[] #[])
  fields := #[]
  methods := #[k1m0, k1m1]
  instanceTypes := #[]
  staticTypes := #[]
  resolved := Array.replicate 25 none
  statics := none }

def pool2 : Array CpInfo := pool [(4, .class_ 6), (1, u "java/lang/Object"), (11, .class_ 19), (0, u "com/example/vanon/vanon/lattice/Lattice"), (7, u "[I"), (4, u "levelCounts"), (2, u "strides"), (2, u "size"), (0, u "I"), (4, u "MAX_SIZE"), (14, u "([I)I"), (3, u "height")] 17

def k2c0 : Code := { maxStack := 2, maxLocals := 6, code := prog_16_method_11_code, exceptionTable := #[], attributes := #[] }
def k2m0 : Method := { name := "height", desc := "([I)I", sig := { parameters := [(.array .int)], returnType := some .int }, accessFlags := 9, code := some k2c0 }
/-- com/example/vanon/vanon/lattice/Lattice -/
def k2 : Class := { plain "com/example/vanon/vanon/lattice/Lattice" (some 0) with
  accessFlags := 49
  interfaces := #[]
  cf := some (fileOf pool2 18 #[] #[{ accessFlags := 9, nameIndex := 63, descriptorIndex := 59, attributes := #[] }] 49 4 #[] #[{ accessFlags := 25, nameIndex := 44, descriptorIndex := 39, attributes := #[] }, { accessFlags := 18, nameIndex := 32, descriptorIndex := 27, attributes := #[] }, { accessFlags := 18, nameIndex := 35, descriptorIndex := 27, attributes := #[] }, { accessFlags := 18, nameIndex := 38, descriptorIndex := 39, attributes := #[] }])
  fields := #[{ name := "MAX_SIZE", type := .int, accessFlags := 25, slot := 0, constantValue := 0 }, { name := "levelCounts", type := (.array .int), accessFlags := 18, slot := 0, constantValue := 0 }, { name := "strides", type := (.array .int), accessFlags := 18, slot := 1, constantValue := 0 }, { name := "size", type := .int, accessFlags := 18, slot := 2, constantValue := 0 }]
  methods := #[k2m0]
  instanceTypes := #[(.array .int), (.array .int), .int]
  staticTypes := #[.int]
  resolved := Array.replicate 81 none
  statics := none }

def pool3 : Array CpInfo := pool [(1, u "java/lang/Cloneable"), (0, .class_ 1), (0, u "java/lang/Object"), (0, .class_ 3)] 3

/-- java/lang/Cloneable -/
def k3 : Class := { plain "java/lang/Cloneable" (some 0) with
  accessFlags := 1537
  interfaces := #[]
  cf := some (fileOf pool3 2 #[] #[] 1537 4 #[] #[])
  fields := #[]
  methods := #[]
  instanceTypes := #[]
  staticTypes := #[]
  resolved := Array.replicate 8 none
  statics := none }

def pool4 : Array CpInfo := pool [(1, u "java/io/Serializable"), (0, .class_ 1), (0, u "java/lang/Object"), (0, .class_ 3)] 3

/-- java/io/Serializable -/
def k4 : Class := { plain "java/io/Serializable" (some 0) with
  accessFlags := 1537
  interfaces := #[]
  cf := some (fileOf pool4 2 #[] #[] 1537 4 #[] #[])
  fields := #[]
  methods := #[]
  instanceTypes := #[]
  staticTypes := #[]
  resolved := Array.replicate 8 none
  statics := none }

/-- the primitive byte -/
def k5 : Class := { plain "byte" none with kind := .primitive 'B', accessFlags := 0x411 }
/-- [B -/
def k6 : Class := { plain "[B" (some 0) with kind := .array 5 .byte, interfaces := #[3, 4], accessFlags := 1041 }

/-- the primitive int -/
def k7 : Class := { plain "int" none with kind := .primitive 'I', accessFlags := 0x411 }
/-- [I -/
def k8 : Class := { plain "[I" (some 0) with kind := .array 7 .int, interfaces := #[3, 4], accessFlags := 1041 }

def heap : Heap := #[]
def classes : Array Class := #[k0, k1, k2, k3, k4, k5, k6, k7, k8]
def interned : List (Array UInt16 × Addr) := []
def slotsUsed : Nat := 0
def theMethod : MethodId := ⟨1, 1⟩
def args0 : Array Value := #[.int 5, .int 1, .int 2, .int 3, .int 4, .int 6]
def aboutOver (below : List Frame) : State where
  vm := { classes := classes, interned := interned.toArray }
  heap := heap
  slotsUsed := slotsUsed
  threads := #[{ frames := .invoking theMethod args0 :: below }]
def below0 : List Frame := [.native { method := ⟨0, 0⟩, args := #[] }]
def about1 : State := aboutOver below0
def p0 : Program := .bare "" "" ""
def e0 : Env := launch0.env 0 0 0
theorem w_frames : about1.frames = Frame.invoking theMethod args0 :: below0 := rfl
set_option maxRecDepth 65536 in
theorem w_args : argsFit about1.vm theMethod args0 = true := by decide +kernel
set_option maxRecDepth 65536 in
theorem w_heap : heapFits about1 = true := by decide +kernel
set_option maxRecDepth 65536 in
theorem w_runnable : about1.curStatus? = some .runnable := by decide +kernel
set_option maxRecDepth 65536 in
theorem w_alone : about1.alone = true := by decide +kernel
set_option maxRecDepth 65536 in
theorem w_named : about1.methodNamed? x = some theMethod := by decide +kernel
set_option maxRecDepth 65536 in
theorem w_hears : about1.hears theMethod below0 = true := by decide +kernel
set_option maxRecDepth 65536 in
theorem w_ripe : about1.ripe theMethod args0 below0 = true := by decide +kernel
theorem w_running : about1.status = .running := rfl
set_option maxRecDepth 65536 in
theorem w_room : about1.hasRoom e0.platform room_1 = true :=
  launch0.hasRoom_least _ room_1 (by decide +kernel) (by decide +kernel) (by decide +kernel) (by decide +kernel) (by decide +kernel) (by decide +kernel)
theorem allAtoms_all (ts : List Jvm.Cond) (a : Array Jvm.Value) (st : Jvm.State) : (allAtoms ts).before a st = ts.all (fun c => c.before a st) := by
  induction ts with
  | nil => rfl
  | cons c t ih =>
    show (Jvm.Cond.and c (allAtoms t)).before a st = _
    rw [Jvm.Cond.before_and, ih, List.all_cons]
def words1 : List Jvm.Cond := Jvm.Cond.code x code maxLocals ret :: tables_1
/-- a 'code' word, met by the world's own term for the bytes: nothing is compared byte by byte -/
theorem code_word {y : MethodName} {bytes : ByteArray} {mx : Nat} {rt : Option FieldType} {a : Array Value} {s : State} {m : MethodId} {meth : Method} {c : Code} (h1 : s.methodNamed? y = some m) (h2 : s.vm.method? m = some meth) (h3 : meth.code = some c) (h4 : c.code = bytes)
    (h5 : (c.maxLocals == mx && c.exceptionTable.isEmpty && decide (c.maxStack ≤ mostOperands) && decide (meth.sig.returnType = rt) && !meth.locks && decide (parseMethodDescriptor y.desc = some meth.sig)) = true) : (Jvm.Cond.code y bytes mx rt).before a s = true := by
  simp only [Bool.and_eq_true, beq_iff_eq, Bool.not_eq_true', decide_eq_true_eq] at h5
  obtain ⟨⟨⟨⟨⟨g1, g2⟩, g3⟩, g4⟩, g5⟩, g6⟩ := h5
  simp [Cond.before, Cond.holds, Cond.value, h1, h2, h3, h4, g1, g2, g3, g4, g5, g6]
def isCode : Jvm.Cond → Bool
  | .code _ _ _ _ => true
  | _ => false
theorem all_split {L : List Jvm.Cond} {P : Jvm.Cond → Bool} (h1 : L.all (fun c => isCode c || P c) = true) (h2 : ∀ c ∈ L.filter isCode, P c = true) : L.all P = true := by
  refine List.all_eq_true.mpr fun c hc => ?_
  have h := List.all_eq_true.mp h1 c hc
  rcases Bool.eq_false_or_eq_true (isCode c) with hi | hi
  · exact h2 c (List.mem_filter.mpr ⟨hc, hi⟩)
  · simpa [hi] using h
set_option maxRecDepth 65536 in
theorem w_c0 : (Jvm.Cond.code x code maxLocals ret).before args0 about1 = true := code_word (m := ⟨1, 1⟩) (meth := k1m1) (c := k1c1) (by decide +kernel) rfl rfl rfl (by decide +kernel)
set_option maxRecDepth 65536 in
theorem w_c1 : (Jvm.Cond.code ({ cls := "com/example/vanon/vanon/lattice/Lattice", name := "height", desc := "([I)I" } : Jvm.MethodName) prog_16_method_11_code (6 : Nat) (Option.some Jvm.ClassFile.FieldType.int)).before args0 about1 = true := code_word (m := ⟨2, 0⟩) (meth := k2m0) (c := k2c0) (by decide +kernel) rfl rfl rfl (by decide +kernel)
def codes1 : List Jvm.Cond := [Jvm.Cond.code x code maxLocals ret, Jvm.Cond.code ({ cls := "com/example/vanon/vanon/lattice/Lattice", name := "height", desc := "([I)I" } : Jvm.MethodName) prog_16_method_11_code (6 : Nat) (Option.some Jvm.ClassFile.FieldType.int)]
set_option maxRecDepth 65536 in
theorem codes_eq : words1.filter isCode = codes1 := rfl
theorem w_codes : ∀ c ∈ words1.filter isCode, c.before args0 about1 = true := by
  rw [codes_eq]
  intro c hc
  simp only [codes1, List.mem_cons, List.not_mem_nil, or_false] at hc
  rcases hc with rfl | rfl
  · exact w_c0
  · exact w_c1
set_option maxRecDepth 65536 in
theorem w_t1 : words1.all (fun c => isCode c || c.before args0 about1) = true := by decide +kernel
theorem w_tables : (allAtoms (Jvm.Cond.code x code maxLocals ret :: tables_1)).before args0 about1 = true := by
  rw [allAtoms_all]
  show words1.all (fun c => c.before args0 about1) = true
  refine all_split ?_ w_codes
  rw [w_t1]
set_option maxRecDepth 65536 in
theorem w_case : (Jvm.Cond.and given_1 narrow_1).before args0 about1 = true := by decide +kernel
theorem w_applies : (headSpec (Jvm.Cond.code x code maxLocals ret :: tables_1) room_1).applies x e0.platform about1 = true :=
  (Spec.applies_iff w_frames).mpr ⟨w_running, w_runnable, w_alone, w_named, w_hears, w_ripe, w_room, w_tables⟩
theorem atStart : AtStart classFile x code maxLocals ret World_1 tables_1 room_1 Calls_1 rest_1 Pre_1 launch0 p0 e0 about1 theMethod args0 below0 :=
  ⟨lists_1, trivial, launch0.admits_env _ _ _, launch0.least_env, fairChoices_fair.cas, fairChoices_fair.clock, w_frames, w_args, w_heap, w_applies, trivial, trivial, w_case⟩
end start1
theorem witness_1 : WitnessClaimed_1 := ⟨start1.p0, start1.e0, start1.about1, start1.theMethod, start1.args0, start1.below0, start1.atStart⟩
end Jvm.Pilot.@@N@@
