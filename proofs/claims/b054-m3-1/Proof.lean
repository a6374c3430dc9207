import JvmDerived
import JvmDerived.Pilot.@@N@@Statement
import JvmDerived.Pilot.@@N@@Code
set_option linter.unusedVariables false
set_option linter.unusedSimpArgs false
@@BLOCK:HandJ.lean.txt@@
@@BLOCK:HandW.lean.txt@@
@@BLOCK:HandBits.lean.txt@@
@@BLOCK:SymRun.lean.txt@@
@@BLOCK:RowBasics.lean.txt@@
@@BLOCK:Bridge.lean.txt@@
@@BLOCK:SymKit.lean.txt@@
@@BLOCK:SymWays.lean.txt@@
@@BLOCK:NumsL.lean.txt@@
@@BLOCK:Masks.lean.txt@@
namespace Jvm.Pilot.@@N@@
open Jvm Jvm.ClassFile Sem Op Jvm.Sym Jvm.Pilot.@@N@@.Jvm.D

/-! own 1: arguments by their kinds -/
def own_KL : List VKind → List Value → Prop
  | [], [] => True
  | k :: ks, v :: vs => k.ok v = true ∧ own_KL ks vs
  | _, _ => False
def own_Kinds (ks : List VKind) (A : Array Value) : Prop := own_KL ks A.toList
theorem own_KL_get : ∀ {ks : List VKind} {vs : List Value}, own_KL ks vs → ∀ {i : Nat} {k : VKind}, ks[i]? = some k → ∃ v, vs[i]? = some v ∧ k.ok v = true
  | [], [], _, i, k, h => by simp at h
  | k0 :: ks, v0 :: vs, hh, 0, k, h => by
    simp at h; subst h; exact ⟨v0, by simp, hh.1⟩
  | k0 :: ks, v0 :: vs, hh, i + 1, k, h => by
    simp at h; obtain ⟨v, h1, h2⟩ := own_KL_get hh.2 h; exact ⟨v, by simpa using h1, h2⟩
  | [], _ :: _, hh, _, _, _ => hh.elim
  | _ :: _, [], hh, _, _, _ => hh.elim
theorem own_KL_len : ∀ {ks : List VKind} {vs : List Value}, own_KL ks vs → vs.length = ks.length
  | [], [], _ => rfl
  | k0 :: ks, v0 :: vs, hh => by simp [own_KL_len hh.2]
  | [], _ :: _, hh => hh.elim
  | _ :: _, [], hh => hh.elim
theorem own_Kinds.get {ks : List VKind} {A : Array Value} (h : own_Kinds ks A) {i : Nat} {k : VKind} (hk : ks[i]? = some k) : ∃ v, A[i]? = some v ∧ k.ok v = true := by
  obtain ⟨v, h1, h2⟩ := own_KL_get h hk
  exact ⟨v, by rwa [Array.getElem?_toList] at h1, h2⟩
theorem own_Kinds.size {ks : List VKind} {A : Array Value} (h : own_Kinds ks A) : A.size = ks.length := by
  have := own_KL_len h
  simpa using this
theorem own_KL_sorts {A : Array Value} {s : State} : ∀ (ks : List VKind) (i : Nat) (vs : List Value), (∀ j, A[i + j]? = vs[j]?) → vs.length = ks.length → (∀ q ∈ Sym.sorts i ks, q.before A s = true) → own_KL ks vs
  | [], _, [], _, _, _ => trivial
  | [], _, _ :: _, _, h, _ => by simp at h
  | _ :: _, _, [], _, h, _ => by simp at h
  | k :: ks, i, v :: vs, hA, hl, hq => by
    have h0 := hq (isK k (.arg i)) (by simp [Sym.sorts])
    obtain ⟨w, e, ok⟩ := isK_spec h0
    have e0 := hA 0
    simp only [Nat.add_zero, List.getElem?_cons_zero] at e0
    have e1 : A[i]? = some w := e
    rw [e0] at e1
    cases e1
    refine ⟨ok, own_KL_sorts ks (i + 1) vs (fun j => ?_) (by simpa using hl) (fun q h => hq q (by simp [Sym.sorts]; exact Or.inr h))⟩
    have := hA (j + 1)
    rw [List.getElem?_cons_succ] at this
    rw [← this]; congr 1; omega
theorem own_Kinds_of {A : Array Value} {s : State} {ks : List VKind} (hn : A.size = ks.length) (hq : ∀ q ∈ Sym.sorts 0 ks, q.before A s = true) : own_Kinds ks A :=
  own_KL_sorts ks 0 A.toList (fun j => by simp) (by simpa using hn) hq
theorem own_Kinds.sorts {A : Array Value} {s : State} : ∀ {ks : List VKind} {vs : List Value} (i : Nat), (∀ j, A[i + j]? = vs[j]?) → own_KL ks vs → ∀ q ∈ Sym.sorts i ks, q.before A s = true
  | [], [], _, _, _, q, hq => by cases hq
  | [], _ :: _, _, _, hh, _, _ => hh.elim
  | _ :: _, [], _, _, hh, _, _ => hh.elim
  | k :: ks, v :: vs, i, hA, hh, q, hq => by
    have e0 := hA 0
    simp only [Nat.add_zero, List.getElem?_cons_zero] at e0
    rcases List.mem_cons.mp hq with rfl | hq
    · cases k <;> cases v <;> first | (have := hh.1; simp [VKind.ok] at this; done) | simp [isK, Cond.before, Cond.holds, Cond.value, Term.eval, e0]
    · refine own_Kinds.sorts (i + 1) (fun j => ?_) hh.2 q hq
      have := hA (j + 1)
      rw [List.getElem?_cons_succ] at this
      rw [← this]; congr 1; omega
theorem own_int {v : Value} (h : VKind.int.ok v = true) : ∃ a : Int32, v = .int a := by cases v <;> simp [VKind.ok] at h <;> exact ⟨_, rfl⟩
theorem own_long {v : Value} (h : VKind.long.ok v = true) : ∃ a : Int64, v = .long a := by cases v <;> simp [VKind.ok] at h <;> exact ⟨_, rfl⟩
theorem own_k1 {k0 : VKind} {A : Array Value} (h : own_Kinds [k0] A) : ∃ v0, A = #[v0] ∧ k0.ok v0 = true := by
  obtain ⟨L⟩ := A
  match L, h with
  | [v0], h => exact ⟨v0, rfl, h.1⟩
theorem own_k2 {k0 k1 : VKind} {A : Array Value} (h : own_Kinds [k0, k1] A) : ∃ v0 v1, A = #[v0, v1] ∧ k0.ok v0 = true ∧ k1.ok v1 = true := by
  obtain ⟨L⟩ := A
  match L, h with
  | [v0, v1], h => exact ⟨v0, v1, rfl, h.1, h.2.1⟩
theorem own_k3 {k0 k1 k2 : VKind} {A : Array Value} (h : own_Kinds [k0, k1, k2] A) : ∃ v0 v1 v2, A = #[v0, v1, v2] ∧ k0.ok v0 = true ∧ k1.ok v1 = true ∧ k2.ok v2 = true := by
  obtain ⟨L⟩ := A
  match L, h with
  | [v0, v1, v2], h => exact ⟨v0, v1, v2, rfl, h.1, h.2.1, h.2.2.1⟩
theorem own_k4 {k0 k1 k2 k3 : VKind} {A : Array Value} (h : own_Kinds [k0, k1, k2, k3] A) : ∃ v0 v1 v2 v3, A = #[v0, v1, v2, v3] ∧ k0.ok v0 = true ∧ k1.ok v1 = true ∧ k2.ok v2 = true ∧ k3.ok v3 = true := by
  obtain ⟨L⟩ := A
  match L, h with
  | [v0, v1, v2, v3], h => exact ⟨v0, v1, v2, v3, rfl, h.1, h.2.1, h.2.2.1, h.2.2.2.1⟩

theorem own_k5 {k0 k1 k2 k3 k4 : VKind} {A : Array Value} (h : own_Kinds [k0, k1, k2, k3, k4] A) : ∃ v0 v1 v2 v3 v4, A = #[v0, v1, v2, v3, v4] ∧ k0.ok v0 = true ∧ k1.ok v1 = true ∧ k2.ok v2 = true ∧ k3.ok v3 = true ∧ k4.ok v4 = true := by
  obtain ⟨L⟩ := A
  match L, h with
  | [v0, v1, v2, v3, v4], h => exact ⟨v0, v1, v2, v3, v4, rfl, h.1, h.2.1, h.2.2.1, h.2.2.2.1, h.2.2.2.2.1⟩
theorem own_k6 {k0 k1 k2 k3 k4 k5 : VKind} {A : Array Value} (h : own_Kinds [k0, k1, k2, k3, k4, k5] A) : ∃ v0 v1 v2 v3 v4 v5, A = #[v0, v1, v2, v3, v4, v5] ∧ k0.ok v0 = true ∧ k1.ok v1 = true ∧ k2.ok v2 = true ∧ k3.ok v3 = true ∧ k4.ok v4 = true ∧ k5.ok v5 = true := by
  obtain ⟨L⟩ := A
  match L, h with
  | [v0, v1, v2, v3, v4, v5], h => exact ⟨v0, v1, v2, v3, v4, v5, rfl, h.1, h.2.1, h.2.2.1, h.2.2.2.1, h.2.2.2.2.1, h.2.2.2.2.2.1⟩

/-! own 2: a term's kind, read off its shape -/
def own_ty2 : Binary → Option VKind → Option VKind → Option VKind
  | .iand, some .int, some .int => some .int
  | .ior, some .int, some .int => some .int
  | .ixor, some .int, some .int => some .int
  | .ishl, some .int, some .int => some .int
  | .ishr, some .int, some .int => some .int
  | .iushr, some .int, some .int => some .int
  | .ladd, some .long, some .long => some .long
  | .lsub, some .long, some .long => some .long
  | .lmul, some .long, some .long => some .long
  | .land, some .long, some .long => some .long
  | .lor, some .long, some .long => some .long
  | .lxor, some .long, some .long => some .long
  | .lcmp, some .long, some .long => some .int
  | .lshl, some .long, some .int => some .long
  | .lshr, some .long, some .int => some .long
  | .lushr, some .long, some .int => some .long
  | _, _, _ => none
def own_ty1 : Unary → Option VKind → Option VKind
  | .ineg, some .int => some .int
  | .i2b, some .int => some .int
  | .i2c, some .int => some .int
  | .i2s, some .int => some .int
  | .i2l, some .int => some .long
  | .l2i, some .long => some .int
  | .lneg, some .long => some .long
  | _, _ => none
def own_ii : Option VKind → Option VKind → Option VKind
  | some .int, some .int => some .int
  | _, _ => none
def own_ty (ks : List VKind) : Term → Option VKind
  | .arg i => ks[i]?
  | .int _ => some .int
  | .long _ => some .long
  | .add a b => own_ii (own_ty ks a) (own_ty ks b)
  | .sub a b => own_ii (own_ty ks a) (own_ty ks b)
  | .mul a b => own_ii (own_ty ks a) (own_ty ks b)
  | .op2 f a b => own_ty2 f (own_ty ks a) (own_ty ks b)
  | .op1 f a => own_ty1 f (own_ty ks a)
  | .old t => own_ty ks t
  | _ => none
theorem own_ty2_sound {f : Binary} {a b : Option VKind} {k : VKind} (h : own_ty2 f a b = some k) : ∃ ka kb, a = some ka ∧ b = some kb ∧ ∀ x y, ka.ok x = true → kb.ok y = true → ∃ z, f.apply x y = some z ∧ k.ok z = true := by
  unfold own_ty2 at h
  split at h <;> first
    | (cases h; refine ⟨_, _, rfl, rfl, fun x y hx hy => ?_⟩; cases x <;> simp [VKind.ok] at hx <;> cases y <;> simp [VKind.ok] at hy <;> exact ⟨_, rfl, rfl⟩)
    | cases h
theorem own_ty1_sound {f : Unary} {a : Option VKind} {k : VKind} (h : own_ty1 f a = some k) : ∃ ka, a = some ka ∧ ∀ x, ka.ok x = true → ∃ z, f.apply x = some z ∧ k.ok z = true := by
  unfold own_ty1 at h
  split at h <;> first
    | (cases h; refine ⟨_, rfl, fun x hx => ?_⟩; cases x <;> simp [VKind.ok] at hx <;> exact ⟨_, rfl, rfl⟩)
    | cases h
theorem own_ii_sound {a b : Option VKind} {k : VKind} (h : own_ii a b = some k) : k = .int ∧ a = some .int ∧ b = some .int := by
  unfold own_ii at h
  split at h
  · cases h; exact ⟨rfl, rfl, rfl⟩
  · cases h
theorem own_ty_sound {ks : List VKind} {A : Array Value} {s : State} (hA : own_Kinds ks A) : ∀ (t : Term) {k : VKind}, own_ty ks t = some k → ∃ v, t.eval A s none [] s = some v ∧ k.ok v = true
  | .arg i, k, h => hA.get h
  | .int v, k, h => by cases h; exact ⟨_, rfl, rfl⟩
  | .long v, k, h => by cases h; exact ⟨_, rfl, rfl⟩
  | .add a b, k, h => by
    obtain ⟨rfl, ha, hb⟩ := own_ii_sound h
    obtain ⟨x, ex, hx⟩ := own_ty_sound (s := s) hA a ha
    obtain ⟨y, ey, hy⟩ := own_ty_sound (s := s) hA b hb
    obtain ⟨x, rfl⟩ := own_int hx
    obtain ⟨y, rfl⟩ := own_int hy
    exact ⟨.int (x + y), by simp [Term.eval, ex, ey], rfl⟩
  | .sub a b, k, h => by
    obtain ⟨rfl, ha, hb⟩ := own_ii_sound h
    obtain ⟨x, ex, hx⟩ := own_ty_sound (s := s) hA a ha
    obtain ⟨y, ey, hy⟩ := own_ty_sound (s := s) hA b hb
    obtain ⟨x, rfl⟩ := own_int hx
    obtain ⟨y, rfl⟩ := own_int hy
    exact ⟨.int (x - y), by simp [Term.eval, ex, ey], rfl⟩
  | .mul a b, k, h => by
    obtain ⟨rfl, ha, hb⟩ := own_ii_sound h
    obtain ⟨x, ex, hx⟩ := own_ty_sound (s := s) hA a ha
    obtain ⟨y, ey, hy⟩ := own_ty_sound (s := s) hA b hb
    obtain ⟨x, rfl⟩ := own_int hx
    obtain ⟨y, rfl⟩ := own_int hy
    exact ⟨.int (x * y), by simp [Term.eval, ex, ey], rfl⟩
  | .op2 f a b, k, h => by
    obtain ⟨ka, kb, ha, hb, hf⟩ := own_ty2_sound (show own_ty2 f (own_ty ks a) (own_ty ks b) = some k from h)
    obtain ⟨x, ex, hx⟩ := own_ty_sound (s := s) hA a ha
    obtain ⟨y, ey, hy⟩ := own_ty_sound (s := s) hA b hb
    obtain ⟨z, ez, hz⟩ := hf x y hx hy
    exact ⟨z, by simp [Term.eval, ex, ey, ez], hz⟩
  | .op1 f a, k, h => by
    obtain ⟨ka, ha, hf⟩ := own_ty1_sound (show own_ty1 f (own_ty ks a) = some k from h)
    obtain ⟨x, ex, hx⟩ := own_ty_sound (s := s) hA a ha
    obtain ⟨z, ez, hz⟩ := hf x hx
    exact ⟨z, by simp [Term.eval, ex, ez], hz⟩
  | .old t, k, h => by
    obtain ⟨x, ex, hx⟩ := own_ty_sound (s := s) hA t (show own_ty ks t = some k from h)
    exact ⟨x, by simpa [Term.eval] using ex, hx⟩
  | .null, _, h => by cases h
  | .index _, _, h => by cases h
  | .field _ _ _ _, _, h => by cases h
  | .static _ _ _, _, h => by cases h
  | .string _ _, _, h => by cases h
  | .mirror _, _, h => by cases h
  | .length _, _, h => by cases h
  | .elem _ _, _, h => by cases h
  | .div _ _, _, h => by cases h
  | .rem _ _, _, h => by cases h
  | .sum _, _, h => by cases h
  | .result, _, h => by cases h
  | .thrown, _, h => by cases h

/-! own 3: the needs of a walk, paid by one check: each stands under guards that are worth something whatever way they go -/
def own_num (ks : List VKind) (a b : Term) : Bool := (own_ty ks a == some .int && own_ty ks b == some .int) || (own_ty ks a == some .long && own_ty ks b == some .long)
def own_dfn (ks : List VKind) (D : List Cond) : Cond → Bool
  | .not c => own_dfn ks D c
  | .eq a b => D.contains (.eq a b) || own_num ks a b
  | .lt a b => D.contains (.lt a b) || own_num ks a b
  | .le a b => D.contains (.le a b) || own_num ks a b
  | .and a b => own_dfn ks D a && own_dfn ks D b
  | .or a b => own_dfn ks D a && own_dfn ks D b
  | .tt => true
  | _ => false
def own_chk (ks : List VKind) (T D : List Cond) : Cond → Bool
  | .tt => true
  | .and a b => T.contains (.and a b) || (own_chk ks T D a && own_chk ks T D b)
  | .or a b => T.contains (.or a b) || (own_dfn ks D a && own_chk ks T D b)
  | .isInt t => T.contains (.isInt t) || own_ty ks t == some .int
  | .isLong t => T.contains (.isLong t) || own_ty ks t == some .long
  | c => T.contains c
theorem own_num_sound {ks : List VKind} {A : Array Value} {s : State} (hA : own_Kinds ks A) {a b : Term} (h : own_num ks a b = true) :
    (∃ x y : Int32, a.eval A s none [] s = some (.int x) ∧ b.eval A s none [] s = some (.int y)) ∨ (∃ x y : Int64, a.eval A s none [] s = some (.long x) ∧ b.eval A s none [] s = some (.long y)) := by
  simp only [own_num, Bool.or_eq_true, Bool.and_eq_true, beq_iff_eq] at h
  rcases h with ⟨ha, hb⟩ | ⟨ha, hb⟩
  · obtain ⟨v, ev, hv⟩ := own_ty_sound (s := s) hA a ha
    obtain ⟨w, ew, hw⟩ := own_ty_sound (s := s) hA b hb
    obtain ⟨x, rfl⟩ := own_int hv
    obtain ⟨y, rfl⟩ := own_int hw
    exact Or.inl ⟨x, y, ev, ew⟩
  · obtain ⟨v, ev, hv⟩ := own_ty_sound (s := s) hA a ha
    obtain ⟨w, ew, hw⟩ := own_ty_sound (s := s) hA b hb
    obtain ⟨x, rfl⟩ := own_long hv
    obtain ⟨y, rfl⟩ := own_long hw
    exact Or.inr ⟨x, y, ev, ew⟩
theorem own_dfn_sound {ks : List VKind} {D : List Cond} {A : Array Value} {s : State} (hA : own_Kinds ks A) (hD : ∀ c ∈ D, ∃ b, c.value A s none s [] = some b) : ∀ (c : Cond), own_dfn ks D c = true → ∃ b, c.value A s none s [] = some b := by
  intro c
  induction c with
  | tt => intro _; exact ⟨true, rfl⟩
  | not c ih => intro h; obtain ⟨b, e⟩ := ih h; exact ⟨!b, by simp [Cond.value, e]⟩
  | and a b iha ihb =>
    intro h
    simp only [own_dfn, Bool.and_eq_true] at h
    obtain ⟨x, ex⟩ := iha h.1
    obtain ⟨y, ey⟩ := ihb h.2
    cases x
    · exact ⟨false, by simp [Cond.value, ex]⟩
    · exact ⟨y, by simp [Cond.value, ex, ey]⟩
  | or a b iha ihb =>
    intro h
    simp only [own_dfn, Bool.and_eq_true] at h
    obtain ⟨x, ex⟩ := iha h.1
    obtain ⟨y, ey⟩ := ihb h.2
    cases x
    · exact ⟨y, by simp [Cond.value, ex, ey]⟩
    · exact ⟨true, by simp [Cond.value, ex]⟩
  | eq a b =>
    intro h
    simp only [own_dfn, Bool.or_eq_true] at h
    rcases h with h | h
    · exact hD _ (List.contains_iff_mem.mp h)
    · rcases own_num_sound (s := s) hA h with ⟨x, y, e1, e2⟩ | ⟨x, y, e1, e2⟩ <;> simp only [Cond.value, e1, e2] <;> exact ⟨_, rfl⟩
  | lt a b =>
    intro h
    simp only [own_dfn, Bool.or_eq_true] at h
    rcases h with h | h
    · exact hD _ (List.contains_iff_mem.mp h)
    · rcases own_num_sound (s := s) hA h with ⟨x, y, e1, e2⟩ | ⟨x, y, e1, e2⟩ <;> simp only [Cond.value, e1, e2] <;> exact ⟨_, rfl⟩
  | le a b =>
    intro h
    simp only [own_dfn, Bool.or_eq_true] at h
    rcases h with h | h
    · exact hD _ (List.contains_iff_mem.mp h)
    · rcases own_num_sound (s := s) hA h with ⟨x, y, e1, e2⟩ | ⟨x, y, e1, e2⟩ <;> simp only [Cond.value, e1, e2] <;> exact ⟨_, rfl⟩
  | _ => intro h; simp [own_dfn] at h
theorem own_chk_sound {ks : List VKind} {T D : List Cond} {A : Array Value} {s : State} (hA : own_Kinds ks A) (hT : ∀ c ∈ T, c.value A s none s [] = some true) (hD : ∀ c ∈ D, ∃ b, c.value A s none s [] = some b) :
    ∀ (c : Cond), own_chk ks T D c = true → c.value A s none s [] = some true := by
  intro c
  induction c with
  | tt => intro _; rfl
  | and a b iha ihb =>
    intro h
    simp only [own_chk, Bool.or_eq_true, Bool.and_eq_true] at h
    rcases h with h | h
    · exact hT _ (List.contains_iff_mem.mp h)
    · simp [Cond.value, iha h.1, ihb h.2]
  | or a b iha ihb =>
    intro h
    simp only [own_chk, Bool.or_eq_true, Bool.and_eq_true] at h
    rcases h with h | h
    · exact hT _ (List.contains_iff_mem.mp h)
    · obtain ⟨x, ex⟩ := own_dfn_sound (s := s) hA hD a h.1
      cases x
      · simp [Cond.value, ex, ihb h.2]
      · simp [Cond.value, ex]
  | isInt t =>
    intro h
    simp only [own_chk, Bool.or_eq_true, beq_iff_eq] at h
    rcases h with h | h
    · exact hT _ (List.contains_iff_mem.mp h)
    · obtain ⟨v, ev, hv⟩ := own_ty_sound (s := s) hA t h
      obtain ⟨x, rfl⟩ := own_int hv
      simp [Cond.value, ev]
  | isLong t =>
    intro h
    simp only [own_chk, Bool.or_eq_true, beq_iff_eq] at h
    rcases h with h | h
    · exact hT _ (List.contains_iff_mem.mp h)
    · obtain ⟨v, ev, hv⟩ := own_ty_sound (s := s) hA t h
      obtain ⟨x, rfl⟩ := own_long hv
      simp [Cond.value, ev]
  | _ =>
    intro h
    simp only [own_chk] at h
    exact hT _ (List.contains_iff_mem.mp h)

/-! own 4: what a guard is worth, as a proposition on plain integers; a tree followed by it -/
def own_Is (A : Array Value) (s : State) (G : Cond) (P : Prop) : Prop := (P → G.value A s none s [] = some true) ∧ (¬ P → G.value A s none s [] = some false)
section
variable {A : Array Value} {s : State} {G : Cond} {P : Prop} {ta tb : Term} {a b : STree} {w : Value} {X Y : Int}
theorem own_Is.dfn (h : own_Is A s G P) : ∃ b, G.value A s none s [] = some b := by
  by_cases p : P
  · exact ⟨_, h.1 p⟩
  · exact ⟨_, h.2 p⟩
theorem own_fork (h : own_Is A s G P) (ha : P → Kit.valueOf A s a = some w) (hb : ¬ P → Kit.valueOf A s b = some w) : Kit.valueOf A s (.fork G a b) = some w := by
  by_cases p : P
  · simp only [Kit.valueOf, h.1 p]; exact ha p
  · simp only [Kit.valueOf, h.2 p]; exact hb p
theorem own_not (h : own_Is A s G P) : own_Is A s (.not G) (¬ P) :=
  ⟨fun p => by simp [Cond.value, h.2 p], fun p => by simp [Cond.value, h.1 (Classical.not_not.mp p)]⟩
theorem own_of_decide {Q : Prop} [Decidable Q] (h : G.value A s none s [] = some (decide Q)) (hq : Q ↔ P) : own_Is A s G P :=
  ⟨fun p => by rw [h, decide_eq_true (hq.mpr p)], fun p => by rw [h, decide_eq_false (fun q => p (hq.mp q))]⟩
theorem own_lt_i {x y : Int32} (ha : ta.eval A s none [] s = some (.int x)) (hb : tb.eval A s none [] s = some (.int y)) (hX : x.toInt = X) (hY : y.toInt = Y) : own_Is A s (.lt ta tb) (X < Y) :=
  own_of_decide (Q := x < y) (by simp only [Cond.value, ha, hb]) (by rw [Int32.lt_iff_toInt_lt, hX, hY])
theorem own_le_i {x y : Int32} (ha : ta.eval A s none [] s = some (.int x)) (hb : tb.eval A s none [] s = some (.int y)) (hX : x.toInt = X) (hY : y.toInt = Y) : own_Is A s (.le ta tb) (X ≤ Y) :=
  own_of_decide (Q := x ≤ y) (by simp only [Cond.value, ha, hb]) (by rw [Int32.le_iff_toInt_le, hX, hY])
theorem own_eq_i {x y : Int32} (ha : ta.eval A s none [] s = some (.int x)) (hb : tb.eval A s none [] s = some (.int y)) (hX : x.toInt = X) (hY : y.toInt = Y) : own_Is A s (.eq ta tb) (X = Y) :=
  own_of_decide (Q := x = y) (by simp only [Cond.value, ha, hb]) (by rw [← Int32.toInt_inj, hX, hY])
theorem own_lcmp_eval {x y : Int64} (ha : ta.eval A s none [] s = some (.long x)) (hb : tb.eval A s none [] s = some (.long y)) : (Term.old (.op2 .lcmp ta tb)).eval A s none [] s = some (.int (if x > y then 1 else if x == y then 0 else -1)) := by
  simp only [Term.eval, ha, hb]; rfl
theorem own_lcmp_cases (x y : Int64) : (y.toInt < x.toInt ∧ (if x > y then (1 : Int32) else if x == y then 0 else -1) = 1) ∨ (x.toInt = y.toInt ∧ (if x > y then (1 : Int32) else if x == y then 0 else -1) = 0) ∨ (x.toInt < y.toInt ∧ (if x > y then (1 : Int32) else if x == y then 0 else -1) = -1) := by
  by_cases h : y < x
  · exact Or.inl ⟨Int64.lt_iff_toInt_lt.mp h, by simp [h]⟩
  · by_cases h2 : x = y
    · exact Or.inr (Or.inl ⟨by rw [h2], by subst h2; simp [Int64.lt_irrefl]⟩)
    · refine Or.inr (Or.inr ⟨?_, by simp [h, h2]⟩)
      rw [Int64.lt_iff_toInt_lt] at h
      rw [← Int64.toInt_inj] at h2
      omega
theorem own_lcmp_lt {x y : Int64} (ha : ta.eval A s none [] s = some (.long x)) (hb : tb.eval A s none [] s = some (.long y)) (hX : x.toInt = X) (hY : y.toInt = Y) : own_Is A s (.lt (.old (.op2 .lcmp ta tb)) (.int 0)) (X < Y) :=
  own_of_decide (Cond.lt_ints (own_lcmp_eval ha hb) rfl) (by subst hX hY; rcases own_lcmp_cases x y with ⟨h, e⟩ | ⟨h, e⟩ | ⟨h, e⟩ <;> rw [e] <;> simp <;> omega)
theorem own_lcmp_gt {x y : Int64} (ha : ta.eval A s none [] s = some (.long x)) (hb : tb.eval A s none [] s = some (.long y)) (hX : x.toInt = X) (hY : y.toInt = Y) : own_Is A s (.lt (.int 0) (.old (.op2 .lcmp ta tb))) (Y < X) :=
  own_of_decide (Cond.lt_ints rfl (own_lcmp_eval ha hb)) (by subst hX hY; rcases own_lcmp_cases x y with ⟨h, e⟩ | ⟨h, e⟩ | ⟨h, e⟩ <;> rw [e] <;> simp <;> omega)
theorem own_lcmp_le {x y : Int64} (ha : ta.eval A s none [] s = some (.long x)) (hb : tb.eval A s none [] s = some (.long y)) (hX : x.toInt = X) (hY : y.toInt = Y) : own_Is A s (.le (.old (.op2 .lcmp ta tb)) (.int 0)) (X ≤ Y) :=
  own_of_decide (Cond.le_ints (own_lcmp_eval ha hb) rfl) (by subst hX hY; rcases own_lcmp_cases x y with ⟨h, e⟩ | ⟨h, e⟩ | ⟨h, e⟩ <;> rw [e] <;> simp <;> omega)
theorem own_lcmp_ge {x y : Int64} (ha : ta.eval A s none [] s = some (.long x)) (hb : tb.eval A s none [] s = some (.long y)) (hX : x.toInt = X) (hY : y.toInt = Y) : own_Is A s (.le (.int 0) (.old (.op2 .lcmp ta tb))) (Y ≤ X) :=
  own_of_decide (Cond.le_ints rfl (own_lcmp_eval ha hb)) (by subst hX hY; rcases own_lcmp_cases x y with ⟨h, e⟩ | ⟨h, e⟩ | ⟨h, e⟩ <;> rw [e] <;> simp <;> omega)
theorem own_lcmp_eq {x y : Int64} (ha : ta.eval A s none [] s = some (.long x)) (hb : tb.eval A s none [] s = some (.long y)) (hX : x.toInt = X) (hY : y.toInt = Y) : own_Is A s (.eq (.old (.op2 .lcmp ta tb)) (.int 0)) (X = Y) :=
  own_of_decide (Cond.eq_ints (own_lcmp_eval ha hb) rfl) (by subst hX hY; rcases own_lcmp_cases x y with ⟨h, e⟩ | ⟨h, e⟩ | ⟨h, e⟩ <;> rw [e] <;> simp <;> omega)
end

theorem own_walk_eq {α β γ : Type} {w : Option (α × β × γ)} (h : w.isSome = true) {t : α} (e : (w.get h).1 = t) : w = some (t, (w.get h).2.1, (w.get h).2.2) := by
  subst e; exact (Option.some_get h).symm
/-! own 5: a callee's contract with a promise of one's own; the law's -/
def own_says (T : Term) : Cond := .and .returned (.eq .result (.old T))
theorem own_says_after {T : Term} {A : Array Value} {s E : State} {w : Value} (hc : T.closed = true) (hw : T.eval A s none [] s = some w) (hk : VKind.int.ok w = true ∨ VKind.long.ok w = true) : (own_says T).after A s (.returned (some w)) E = true := by
  have h1 : (Term.old T).eval A s (some (.returned (some w))) [] E = some w := by
    show T.eval A s (some (.returned (some w))) [] s = some w
    rw [Term.eval_closed (some (.returned (some w))) [] T s hc]; exact hw
  have h2 : Term.result.eval A s (some (.returned (some w))) [] E = some w := rfl
  rcases hk with hk | hk
  · obtain ⟨x, rfl⟩ := own_int hk
    simp [own_says, Cond.after, Cond.holds, Cond.value, h1, h2]
  · obtain ⟨x, rfl⟩ := own_long hk
    simp [own_says, Cond.after, Cond.holds, Cond.value, h1, h2]
theorem own_callee {l : Launch} {y : MethodName} {code : ByteArray} {maxL : Nat} {ret : Option FieldType} {ks : List VKind} {I : Info} {n : Nat} {t : STree} {tabs needs extra : List Cond} {post : Cond}
    (hx : plainName y.cls = true) (hown : I.own = y.cls) (hr : I.ret = ret)
    (hw : walkTo I code [] n true (entry ks maxL) = some (t, tabs, needs)) (hcalls : CallsOk l I maxL I.room)
    (hn : (needs.all (own_chk ks (.code y code maxL ret :: (tabs ++ extra)) [])) = true) (hp : Kit.pureVal t = true)
    (hv : ∀ A s, own_Kinds ks A → ∃ w, Kit.valueOf A s t = some w ∧ ∀ E, post.after A s (.returned (some w)) E = true) :
    MeetsLoose l y (specOf y code maxL ret ks post (tabs ++ extra) [] I.room) := by
  refine loops_meets (I := I) (ks0 := ks) (cuts := []) hx hown hr rfl rfl rfl (fun args s h => ?_) hw (fun _ => none) (fun _ _ _ _ _ => False) (fun _ _ _ => 0) (fun args s h => ?_) (fun args s _ h ks hks => by cases hks) hcalls
  · exact conj_before h _ List.mem_cons_self
  · have hall := conj_before h
    have hsz : args.size = ks.length := by
      have := hall (.count ks.length) (by simp)
      simpa [Cond.before, Cond.holds, Cond.value] using this
    have hq : ∀ q ∈ Sym.sorts 0 ks, q.before args s = true := fun q hq => hall q (by simp [hq])
    have hK := own_Kinds_of hsz hq
    have hT : ∀ c ∈ (Cond.code y code maxL ret :: (tabs ++ extra)), c.value args s none s [] = some true := fun c hc => by
      have : c.before args s = true := hall c (by
        rcases List.mem_cons.mp hc with rfl | hc
        · exact List.mem_cons_self
        · rcases List.mem_append.mp hc with hc | hc <;> simp [hc])
      simpa [Cond.before, Cond.holds] using this
    obtain ⟨w, hw1, hw2⟩ := hv args s hK
    refine ⟨hsz, hq, fun q h => hall q (by simp [h]), fun q hq => ?_, Kit.vc_of_value (w₀ := w) (fun E => hw2 E) t hp hw1⟩
    have := own_chk_sound (s := s) hK hT (fun c hc => by cases hc) q (List.all_eq_true.mp hn q hq)
    simpa [Cond.before, Cond.holds] using this
/-! own 6: a boolean as a term of ints -/
def own_TB (A : Array Value) (s : State) (T : Term) (P : Prop) : Prop := (P → T.eval A s none [] s = some (.int 1)) ∧ (¬ P → T.eval A s none [] s = some (.int 0))
def own_tltL (a b : Term) : Term := .op2 .iushr (.op2 .lcmp a b) (.int 31)
def own_tlt (a b : Term) : Term := own_tltL (.op1 .i2l a) (.op1 .i2l b)
def own_tnot (a : Term) : Term := .sub (.int 1) a
def own_tand (a b : Term) : Term := .op2 .iand a b
def own_tor (a b : Term) : Term := .op2 .ior a b
section
variable {A : Array Value} {s : State} {P Q : Prop} {ta tb T U : Term} {X Y : Int}
theorem own_tb_ltL {x y : Int64} (ha : ta.eval A s none [] s = some (.long x)) (hb : tb.eval A s none [] s = some (.long y)) (hX : x.toInt = X) (hY : y.toInt = Y) : own_TB A s (own_tltL ta tb) (X < Y) := by
  have h : (own_tltL ta tb).eval A s none [] s = some (.int (((if x > y then (1 : Int32) else if x == y then 0 else -1).toUInt32 >>> ((31 : Int32) &&& 31).toUInt32).toInt32)) := by
    simp only [own_tltL, Term.eval, ha, hb]; rfl
  subst hX hY
  rcases own_lcmp_cases x y with ⟨h1, e⟩ | ⟨h1, e⟩ | ⟨h1, e⟩ <;> rw [e] at h <;> refine ⟨fun p => ?_, fun p => ?_⟩ <;> first | omega | exact h
theorem own_tb_lt {x y : Int32} (ha : ta.eval A s none [] s = some (.int x)) (hb : tb.eval A s none [] s = some (.int y)) (hX : x.toInt = X) (hY : y.toInt = Y) : own_TB A s (own_tlt ta tb) (X < Y) :=
  own_tb_ltL (x := x.toInt64) (y := y.toInt64) (by simp only [Term.eval, ha]; rfl) (by simp only [Term.eval, hb]; rfl) ((Int32.toInt_toInt64 x).trans hX) ((Int32.toInt_toInt64 y).trans hY)
theorem own_tb_not (h : own_TB A s T P) : own_TB A s (own_tnot T) (¬ P) :=
  ⟨fun p => by simp only [own_tnot, Term.eval, h.2 p]; rfl, fun p => by simp only [own_tnot, Term.eval, h.1 (Classical.not_not.mp p)]; rfl⟩
theorem own_tb_and (h : own_TB A s T P) (k : own_TB A s U Q) : own_TB A s (own_tand T U) (P ∧ Q) := by
  by_cases p : P <;> by_cases q : Q
  · exact ⟨fun _ => by simp only [own_tand, Term.eval, h.1 p, k.1 q]; rfl, fun z => absurd ⟨p, q⟩ z⟩
  · exact ⟨fun z => absurd z.2 q, fun _ => by simp only [own_tand, Term.eval, h.1 p, k.2 q]; rfl⟩
  · exact ⟨fun z => absurd z.1 p, fun _ => by simp only [own_tand, Term.eval, h.2 p, k.1 q]; rfl⟩
  · exact ⟨fun z => absurd z.1 p, fun _ => by simp only [own_tand, Term.eval, h.2 p, k.2 q]; rfl⟩
theorem own_tb_or (h : own_TB A s T P) (k : own_TB A s U Q) : own_TB A s (own_tor T U) (P ∨ Q) := by
  by_cases p : P <;> by_cases q : Q
  · exact ⟨fun _ => by simp only [own_tor, Term.eval, h.1 p, k.1 q]; rfl, fun z => absurd (Or.inl p) z⟩
  · exact ⟨fun _ => by simp only [own_tor, Term.eval, h.1 p, k.2 q]; rfl, fun z => absurd (Or.inl p) z⟩
  · exact ⟨fun _ => by simp only [own_tor, Term.eval, h.2 p, k.1 q]; rfl, fun z => absurd (Or.inr q) z⟩
  · exact ⟨fun z => (z.elim (absurd · p) (absurd · q)), fun _ => by simp only [own_tor, Term.eval, h.2 p, k.2 q]; rfl⟩
theorem own_tb_iff (h : own_TB A s T P) (e : P ↔ Q) : own_TB A s T Q := ⟨fun q => h.1 (e.mpr q), fun q => h.2 (fun p => q (e.mp p))⟩
theorem own_tb_some (h : own_TB A s T P) : ∃ x : Int32, T.eval A s none [] s = some (.int x) := by
  by_cases p : P
  · exact ⟨1, h.1 p⟩
  · exact ⟨0, h.2 p⟩
theorem own_eq_tb1 (h : own_TB A s T P) (hb : tb.eval A s none [] s = some (.int 1)) : own_Is A s (.eq (.old T) tb) P :=
  ⟨fun p => by rw [Cond.eq_ints (show (Term.old T).eval A s none [] s = _ from h.1 p) hb]; rfl, fun p => by rw [Cond.eq_ints (show (Term.old T).eval A s none [] s = _ from h.2 p) hb]; rfl⟩
theorem own_eq_tb0 (h : own_TB A s T P) (hb : tb.eval A s none [] s = some (.int 0)) : own_Is A s (.eq (.old T) tb) (¬ P) :=
  ⟨fun p => by rw [Cond.eq_ints (show (Term.old T).eval A s none [] s = _ from h.2 p) hb]; rfl, fun p => by rw [Cond.eq_ints (show (Term.old T).eval A s none [] s = _ from h.1 (Classical.not_not.mp p)) hb]; rfl⟩
theorem own_eq_self (h : own_TB A s T P) : own_Is A s (.eq (.old T) (.old T)) True := by
  obtain ⟨x, e⟩ := own_tb_some h
  exact ⟨fun _ => by rw [Cond.eq_ints (show (Term.old T).eval A s none [] s = _ from e) (show (Term.old T).eval A s none [] s = _ from e)]; simp, fun p => absurd trivial p⟩
/-- a callee that answers P by 1 or 0, its promise the term T -/
theorem own_bool {t : STree} (h : own_TB A s T P) (hc : T.closed = true) (h1 : P → Kit.valueOf A s t = some (.int 1)) (h0 : ¬ P → Kit.valueOf A s t = some (.int 0)) : ∃ w, Kit.valueOf A s t = some w ∧ ∀ E, (own_says T).after A s (.returned (some w)) E = true := by
  by_cases p : P
  · exact ⟨_, h1 p, fun E => own_says_after hc (h.1 p) (Or.inl rfl)⟩
  · exact ⟨_, h0 p, fun E => own_says_after hc (h.2 p) (Or.inl rfl)⟩
end
end Jvm.Pilot.@@N@@
namespace Jvm.Pilot.@@N@@
/-! own 7: the wrap of 64 and of 32 bits as remainders that omega reads; or and xor with one bit -/
theorem own_b64 (n : Int) : n.bmod (2 ^ 64) = (n + 9223372036854775808) % 18446744073709551616 - 9223372036854775808 := by rw [Int.bmod_def]; omega
theorem own_b32 (n : Int) : n.bmod (2 ^ 32) = (n + 2147483648) % 4294967296 - 2147483648 := by rw [Int.bmod_def]; omega
theorem own_add64 (x y : Int64) : (x + y).toInt = (x.toInt + y.toInt + 9223372036854775808) % 18446744073709551616 - 9223372036854775808 := by rw [Int64.toInt_add, own_b64]
theorem own_sub64 (x y : Int64) : (x - y).toInt = (x.toInt - y.toInt + 9223372036854775808) % 18446744073709551616 - 9223372036854775808 := by rw [Int64.toInt_sub, own_b64]
theorem own_mul64 (x y : Int64) : (x * y).toInt = (x.toInt * y.toInt + 9223372036854775808) % 18446744073709551616 - 9223372036854775808 := by rw [Int64.toInt_mul, own_b64]
theorem own_add32 (x y : Int32) : (x + y).toInt = (x.toInt + y.toInt + 2147483648) % 4294967296 - 2147483648 := by rw [Int32.toInt_add, own_b32]
theorem own_sub32 (x y : Int32) : (x - y).toInt = (x.toInt - y.toInt + 2147483648) % 4294967296 - 2147483648 := by rw [Int32.toInt_sub, own_b32]
theorem own_mul32 (x y : Int32) : (x * y).toInt = (x.toInt * y.toInt + 2147483648) % 4294967296 - 2147483648 := by rw [Int32.toInt_mul, own_b32]
theorem own_or32 (x : Int32) : (x ||| 32).toInt = x.toInt + 32 - 32 * (x.toInt / 32 % 2) := by
  have h : ∀ r : Fin 64, r.val ||| 32 = r.val + 32 - 32 * (r.val / 32 % 2) := by decide
  have e : (x ||| 32).toInt = (x.toBitVec ||| (32 : Int32).toBitVec).toInt := rfl
  have e' : x.toInt = x.toBitVec.toInt := rfl
  have hb := x.toBitVec.isLt
  have n1 : (x.toBitVec ||| (32 : Int32).toBitVec).toNat = x.toBitVec.toNat ||| 32 := by rw [BitVec.toNat_or]; rfl
  have n2 : (x.toBitVec.toNat ||| 32) % 2 ^ 6 = x.toBitVec.toNat % 2 ^ 6 ||| 32 % 2 ^ 6 := Nat.or_mod_two_pow
  have n3 : (x.toBitVec.toNat ||| 32) / 2 ^ 6 = x.toBitVec.toNat / 2 ^ 6 ||| 32 / 2 ^ 6 := Nat.or_div_two_pow
  have n4 := h ⟨x.toBitVec.toNat % 64, Nat.mod_lt _ (by decide)⟩
  simp at n2 n3 n4
  rw [e, e', BitVec.toInt_eq_toNat_cond, BitVec.toInt_eq_toNat_cond, n1]
  generalize x.toBitVec.toNat = n at *
  generalize n ||| 32 = k at *
  split <;> split <;> omega
theorem own_xmin (x : Int64) : (x ^^^ (-9223372036854775808)).toInt = (x.toInt + 18446744073709551616) % 18446744073709551616 - 9223372036854775808 := by
  have e : (x ^^^ (-9223372036854775808)).toInt = (x.toBitVec ^^^ (-9223372036854775808 : Int64).toBitVec).toInt := rfl
  have e' : x.toInt = x.toBitVec.toInt := rfl
  have hb := x.toBitVec.isLt
  have n1 : (x.toBitVec ^^^ (-9223372036854775808 : Int64).toBitVec).toNat = x.toBitVec.toNat ^^^ 9223372036854775808 := by rw [BitVec.toNat_xor]; rfl
  have n2 : (x.toBitVec.toNat ^^^ 9223372036854775808) % 2 ^ 63 = x.toBitVec.toNat % 2 ^ 63 ^^^ 9223372036854775808 % 2 ^ 63 := Nat.xor_mod_two_pow
  have n3 : (x.toBitVec.toNat ^^^ 9223372036854775808) / 2 ^ 63 = x.toBitVec.toNat / 2 ^ 63 ^^^ 9223372036854775808 / 2 ^ 63 := Nat.xor_div_two_pow
  have h : ∀ r : Fin 2, r.val ^^^ 1 = 1 - r.val := by decide
  have n4 := h ⟨x.toBitVec.toNat / 9223372036854775808, by omega⟩
  simp at n2 n3 n4
  rw [e, e', BitVec.toInt_eq_toNat_cond, BitVec.toInt_eq_toNat_cond, n1]
  generalize x.toBitVec.toNat = n at *
  generalize n ^^^ 9223372036854775808 = k at *
  split <;> split <;> omega
theorem own_i2c (x : Int32) : x.toUInt32.toUInt16.toUInt32.toInt32.toInt = x.toInt % 65536 := by
  have e' : x.toInt = x.toBitVec.toInt := rfl
  have hb := x.toBitVec.isLt
  have e : x.toUInt32.toUInt16.toUInt32.toInt32.toInt = (x.toUInt32.toUInt16.toUInt32.toInt32).toBitVec.toInt := rfl
  have n1 : (x.toUInt32.toUInt16.toUInt32.toInt32).toBitVec.toNat = x.toBitVec.toNat % 65536 := by
    show (x.toUInt32.toUInt16.toUInt32).toNat = _
    simp
    rfl
  rw [e, e', BitVec.toInt_eq_toNat_cond, BitVec.toInt_eq_toNat_cond, n1]
  generalize x.toBitVec.toNat = n at *
  split <;> split <;> omega
end Jvm.Pilot.@@N@@
namespace Jvm.Pilot.@@N@@
open Jvm Jvm.ClassFile Sem Op Jvm.Sym Jvm.Pilot.@@N@@.Jvm.D
end Jvm.Pilot.@@N@@
namespace Jvm.Pilot.@@N@@
open Jvm Jvm.ClassFile Sem Op Lib Jvm.Free Jvm.Stand Jvm.LawKit Jvm.RoadKit Bundle Jvm.Pilot.@@N@@.Jvm.D
/-! own 8: the goal at a frame, one step -/
abbrev own_G (tb : Tables) (e : Env) (below : List Frame) (F : State → Outcome → Prop) (U : State) : Prop := ∃ s₂ o, Steps tb e below U s₂ ∧ F s₂ o
theorem own_via {tb : Tables} {e : Env} {below : List Frame} {F : State → Outcome → Prop} {U U' : State} (h : ∀ t, Steps tb e below U' t → Steps tb e below U t) (k : own_G tb e below F U') : own_G tb e below F U := by
  obtain ⟨s₂, o, h1, h2⟩ := k
  exact ⟨s₂, o, h s₂ h1, h2⟩
/-! own 9: a contract of the walk by evaluation, spent in a walk by hand -/
theorem own_conj {args : Array Value} {s : State} : ∀ (L : List Jvm.Cond), (∀ c ∈ L, c.before args s = true) → (Jvm.Sym.conj L).before args s = true
  | [], _ => rfl
  | c :: L, h => by
    show (Jvm.Cond.and c (Jvm.Sym.conj L)).before args s = true
    rw [Cond.before_and, h c List.mem_cons_self, own_conj L fun d hd => h d (List.mem_cons_of_mem _ hd)]; rfl
theorem own_tabs (T : List Jvm.Cond) {a0 : Array Value} {Z : State} (hw : ∀ d ∈ tables_1, d.before a0 Z = true) (h : (T.all fun d => tables_1.contains d) = true) : ∀ d ∈ T, d.before a0 Z = true :=
  fun d hd => hw d (List.contains_iff_mem.mp (List.all_eq_true.mp h d hd))
theorem own_free {l : Launch} {y : MethodName} {bytes : ByteArray} {maxL : Nat} {ret : Option FieldType} {ks : List Jvm.Sym.VKind} {post : Jvm.Cond} {TT : List Jvm.Cond} {room : Room} (hM : MeetsLoose l y (Jvm.Sym.specOf y bytes maxL ret ks post TT [] room))
    {Z : State} {a0 : Array Value} (hT : ∀ d ∈ TT, d.before a0 Z = true) (hTo : (TT.all fun d => d.onTables && d.keepsFace) = true) (hrc : room.cells = 0) (hrs : room.slots = 0) {as' : Array Value} (hK : own_Kinds ks as') {h : Heap} {Qv : Option Value → Prop}
    (hQ : ∀ U o U', post.after as' U o U' = true → ∃ v, o = .returned v ∧ Qv v) :
    MetFree l y (head1 [Jvm.Cond.code y bytes maxL ret] room) (fun a U => a = as' ∧ Z.Warmed39 U.vm ∧ U.heap = h) (fun _ _ _ _ _ => True) (fun _ U o U' => ∃ v L, o = .returned v ∧ (Qv v ∧ L = [] ∧ U'.heap = h) ∧ FrameEnd U o U' L room.cells room.slots) := by
  intro p e ha hc hk s m args below hf happ hP _
  obtain ⟨rfl, hZ, hh⟩ := hP
  obtain ⟨a1, a2, a3, a4, a5, a6, a7, a8⟩ := (Spec.appliesLoose_iff hf).mp happ
  have hcode : (Jvm.Cond.code y bytes maxL ret).before args s = true := by
    have : (Jvm.Cond.and (Jvm.Cond.code y bytes maxL ret) .tt).before args s = true := a8
    rw [Cond.before_and, Bool.and_eq_true] at this; exact this.1
  have hpre : (Jvm.Sym.specOf y bytes maxL ret ks post TT [] room).pre.before args s = true := by
    refine own_conj _ fun c hc => ?_
    rcases List.mem_cons.mp hc with rfl | hc
    · exact hcode
    · rcases List.mem_cons.mp hc with rfl | hc
      · have := hK.size
        simp [Cond.before, Cond.holds, Cond.value, this]
      · simp only [List.append_nil, List.mem_append] at hc
        rcases hc with hc | hc
        · exact own_Kinds.sorts 0 (fun j => by simp) hK c hc
        · exact mv hZ (hT c hc) (List.all_eq_true.mp hTo c hc)
  obtain ⟨n, o, h1, h2, h3, h4⟩ := hM p e ha hc hk s m args below hf ((Spec.appliesLoose_iff hf).mpr ⟨a1, a2, a3, a4, a5, a6, a7, hpre⟩)
  obtain ⟨hpo, hfr⟩ := h4
  obtain ⟨v, hv, hq⟩ := hQ _ _ _ hpo
  have hfr' : s.WarmedH (stepsAlone p.tables e n s).vm ∧ s.sameBut ({ stepsAlone p.tables e n s with vm := s.vm } : State) [] := by
    simpa [Spec.frees, fieldLocs, arrayLocs, staticLocs, Jvm.Sym.specOf] using hfr
  have hFE : FrameEnd s o (stepsAlone p.tables e n s) [] 0 0 := ⟨⟨v, hv⟩, hfr'.1, hfr'.2.sameButNew 0 0⟩
  refine ⟨n, o, h1, h2, h3, v, [], hv, ⟨hq, rfl, (heap_of_end hFE).trans hh⟩, ?_⟩
  rw [hrc, hrs]; exact hFE
section
variable {p : Program} {l : Launch} {e : Env} {R : Room} {s : State} {m : MethodId} {args : Array Value} {below : List Frame} {meth : Method} {c : Code} {T : State} {locs : List Loc} {cells slots : Nat} {Z : State} {a0 : Array Value} {h : Heap}
theorem own_pure {W : Nat} (X : Stand p l e R s m args below meth c T locs cells slots) (hx : p.tables.exec = Jvm.exec) (hZ : Z.Warmed39 s.vm) {own : String} {index : Nat} {y : MethodName} {bytes : ByteArray} {maxL : Nat} {ret : Option FieldType} {ks : List Jvm.Sym.VKind} {post : Jvm.Cond} {TT : List Jvm.Cond} {room : Room}
    (hown : s.vm.findClass own = some m.cls) (w1 : (Jvm.Cond.methodLink own index y).before a0 Z = true) (w2 : (Jvm.Cond.static y).before a0 Z = true) (w3 : (Jvm.Cond.initialized y.cls).before a0 Z = true) (w4 : (Jvm.Cond.code y bytes maxL ret).before a0 Z = true) (hy : y.cls ≠ "java/lang/invoke/MethodHandle" ∧ y.cls ≠ "java/lang/invoke/VarHandle")
    (hM : MeetsLoose l y (Jvm.Sym.specOf y bytes maxL ret ks post TT [] room)) (hT : ∀ d ∈ TT, d.before a0 Z = true) (hTo : (TT.all fun d => d.onTables && d.keepsFace) = true) (hrc : room.cells = 0) (hrs : room.slots = 0) (eT : T.heap = h)
    {g : JFrame} (hg : g.method = m) (hsize : g.locals.size = c.maxLocals) {argsL rest : List Value} (hlen : ∀ sig, parseMethodDescriptor y.desc = some sig → argsL.length = sig.parameters.length)
    (hstack : g.stack = argsL.reverse ++ rest) (hW : 2 * g.monitorRoom + (rest.map fun v => v.category).sum ≤ W) (hd : decode c.code g.pc = .ok (.invokestatic index, 3)) (hK : own_Kinds ks argsL.toArray) {Qv : Option Value → Prop}
    (hQ : ∀ U o U', post.after argsL.toArray U o U' = true → ∃ v, o = .returned v ∧ Qv v) (hf : room.frames + 1 ≤ R.frames) (hl : W + (maxL + 11) + room.locals ≤ R.locals) (hc : cells ≤ R.cells) (hs : slots ≤ R.slots) :
    ∃ (v : Option Value) (T' : State), Stand p l e R s m args below meth c T' locs cells slots ∧ T'.heap = h ∧ Qv v ∧
      ∀ target, Steps p.tables e below (T'.setTop { g with pc := g.pc + 3, stack := v.toList ++ rest }) target → Steps p.tables e below (T.setTop g) target := by
  obtain ⟨v, _, ⟨T4, L4, k4, n4⟩, -, X4, ⟨Lc4, hQ4, l4, y4, z4⟩, st4⟩ := Jvm.LawKit.callS X hx (y := y) hown (mvT hZ w1) (mvT hZ w2) (mvT hZ w3) (mvT hZ w4) hy
    (backOf (W := W) (Q := fun v h' L => Qv v ∧ L = [] ∧ h' = h) (own_free hM hT hTo hrc hrs hK (h := h) hQ) hZ w4 w3 hf hl) (g := g) hg hsize (argsL := argsL) (rest := rest) hlen hstack hW hd (fun _ _ => ⟨rfl, eT, by rw [hrc]; exact hc, by rw [hrs]; exact hs⟩)
  dsimp only [Pt.U, Pt.locs, Pt.cells, Pt.slots] at X4 l4 y4 z4 st4 hQ4
  obtain ⟨hq, rfl, hh⟩ := hQ4
  rw [hrc] at y4
  rw [hrs] at z4
  simp only [List.append_nil, Nat.add_zero] at l4 y4 z4
  subst l4 y4 z4
  exact ⟨v, T4, X4, hh, hq, st4⟩
end
/-! own 10: what a contract's promise says of the value that comes back; joins -/
theorem own_ints (zs : List Int32) (i : Nat) : ∃ z : Int32, (zs.map Value.int).getD i (.int (0 : Int32)) = .int z := by
  induction zs generalizing i with
  | nil => exact ⟨0, rfl⟩
  | cons a zs ih =>
    cases i with
    | zero => exact ⟨a, rfl⟩
    | succ i => exact ih i
theorem own_inb {j z : Int32} (n : Int) (hz : z.toInt = n) (h0 : 0 ≤ j.toInt) (h1 : j.toInt < n) : ¬ j < 0 ∧ j < z := by
  rw [Int32.lt_iff_toInt_lt, Int32.lt_iff_toInt_lt, hz, show (0 : Int32).toInt = 0 from rfl]; omega
theorem own_says_get {T : Term} {A : Array Value} {U U' : State} {o : Outcome} (hc : T.closed = true) (h : (own_says T).after A U o U' = true) : ∃ w, o = .returned (some w) ∧ T.eval A U none [] U = some w := by
  simp only [own_says, Cond.after_and, Bool.and_eq_true] at h
  obtain ⟨y, e1, e2⟩ := Cond.eq_one (show (Jvm.Cond.eq .result (.old T)).holds A U (some o) U' [] = true from h.2)
  cases o with
  | threw a => simp [Term.eval] at e1
  | returned v =>
    have : v = some y := by simpa [Term.eval] using e1
    subst this
    refine ⟨y, rfl, ?_⟩
    have e3 : T.eval A U (some (.returned (some y))) [] U = some y := e2
    rw [Term.eval_closed (some (.returned (some y))) [] T U hc] at e3
    exact e3
theorem own_says_int {n : Int32} {A : Array Value} {U U' : State} {o : Outcome} (h : (own_says (.int n)).after A U o U' = true) : ∃ v, o = .returned v ∧ v = some (.int n) := by
  obtain ⟨w, h1, h2⟩ := own_says_get (T := .int n) rfl h
  cases h2
  exact ⟨_, h1, rfl⟩
theorem own_says_bool {T : Term} {A : Array Value} {P : Prop} [Decidable P] {U U' : State} {o : Outcome} (hc : T.closed = true) (hT : own_TB A U T P) (h : (own_says T).after A U o U' = true) : ∃ v, o = .returned v ∧ v = some (.int (if P then 1 else 0)) := by
  obtain ⟨w, h1, h2⟩ := own_says_get hc h
  refine ⟨_, h1, ?_⟩
  by_cases p : P
  · rw [hT.1 p] at h2; cases h2; simp [p]
  · rw [hT.2 p] at h2; cases h2; simp [p]
theorem own_join {α : Type} {tb : Tables} {e : Env} {below : List Frame} {F : State → Outcome → Prop} {U0 : State} (P : α → Prop) (U : α → State) (h : ∀ F', (∀ a, P a → own_G tb e below F' (U a)) → own_G tb e below F' U0) (k : ∀ a, P a → own_G tb e below F (U a)) : own_G tb e below F U0 := h F k
end Jvm.Pilot.@@N@@
namespace Jvm.Pilot.@@N@@
open Jvm Jvm.ClassFile Sem Op Lib Jvm.Free Jvm.Stand Jvm.LawKit Jvm.RoadKit Bundle Jvm.Pilot.@@N@@.Jvm.D
theorem own_sta0 {Z : State} {h h' : Heap} {C n d : String} {v : Value} (S : Sta Z h C n d v) (K : Keep h h' []) : Sta Z h' C n d v := by
  obtain ⟨cf, i, k, f, st, cell, h1, h2, h3, h4, h5, r⟩ := S
  exact ⟨cf, i, k, f, st, cell, h1, h2, h3, h4, K.2.1 _ _ h5 (by simp), r⟩
theorem own_sta1 {Z : State} {h h' : Heap} {C n d B : String} {v : Value} {a : Addr} (S : Sta Z h C n d v) (E : Exa Z h a B) (K : Keep h h' [a]) : Sta Z h' C n d v := by
  obtain ⟨cf, i, k, f, st, cell, h1, h2, h3, h4, h5, h6, r⟩ := S
  obtain ⟨cell', k', e1, -, -, e4, -⟩ := E
  refine ⟨cf, i, k, f, st, cell, h1, h2, h3, h4, K.2.1 _ _ h5 ?_, h6, r⟩
  intro q
  have : st = a := by simpa using q
  subst this
  rw [e1] at h5; cases h5
  rw [e4] at h6; cases h6
theorem own_mask255 (x : Int32) : 0 ≤ ((x &&& (255 : Int32)).toUInt32.toUInt16.toUInt32.toInt32).toInt ∧ ((x &&& (255 : Int32)).toUInt32.toUInt16.toUInt32.toInt32).toInt ≤ 255 := by
  rw [own_i2c, show (x &&& (255 : Int32)).toInt = x.toInt % 2 ^ 8 from Jvm.Kit.i32_mask x 255 (by decide) (by decide)]
  omega
end Jvm.Pilot.@@N@@
namespace Jvm.RoadKit
open Sem ClassFile Op Lib Jvm.Stand Jvm.Free Jvm.LawKit
section New
variable {p : Program} {l : Launch} {e : Env} {R : Room} {s : State} {m : MethodId} {args : Array Value} {below : List Frame} {meth : Method} {c : Code} {T : State} {locs : List Loc} {cells slots : Nat}
theorem retI (X : Stand p l e R s m args below meth c T locs cells slots) (hx : p.tables.exec = Jvm.exec) {pc : Nat} {Ls : Array Slot} {z : Int32} {rest : List Value} (hret : meth.sig.returnType = some .int) (hd : decode c.code pc = .ok (.ireturn, 1)) {fs : List Frame}
    (hl : ∀ (f : JFrame) (acts : List Action), f.method = m → f.locked = none → f.entered = [] → (doReturn e (T.setTop f) acts (some (.int z))).1 = T.setFrames fs) : Steps p.tables e below (T.setTop (mkF m pc Ls (.int z :: rest))) (T.setFrames fs) := by
  have hm' : T.vm.method? m = some meth := X.method'
  have hn : narrow .int (.int z) = .int z := rfl
  show Steps p.tables e below (T.setTop { method := m, pc := pc, locals := Ls, stack := _ :: rest, locked := none }) _
  jvm_step X.here [X.here.top, hx, hd, hm', hret, hn]
  first | (intro acts; rw [hl _ acts rfl rfl rfl]) | rw [hl _ _ rfl rfl rfl]
  exact Steps.refl _
end New
end Jvm.RoadKit
namespace Jvm.Pilot.@@N@@
open Jvm Jvm.ClassFile Sem Op Lib Jvm.Free Jvm.Stand Jvm.LawKit Jvm.RoadKit Bundle Jvm.Pilot.@@N@@.Jvm.D
theorem pd_0 : parseMethodDescriptor "(C)Z" = some ⟨[.char], some .boolean⟩ := by decide +kernel
theorem pd_1 : parseMethodDescriptor "(C)[B" = some ⟨[.char], some (.array .byte)⟩ := by decide +kernel
theorem pd_2 : parseMethodDescriptor "([BB)V" = some ⟨[(.array .byte), .byte], none⟩ := by decide +kernel
theorem pd_3 : parseMethodDescriptor "([B[B)Z" = some ⟨[(.array .byte), (.array .byte)], some .boolean⟩ := by decide +kernel
theorem pd_4 : parseMethodDescriptor "(J)J" = some ⟨[.long], some .long⟩ := by decide +kernel
theorem pd_5 : parseMethodDescriptor "(JJ)J" = some ⟨[.long, .long], some .long⟩ := by decide +kernel
theorem pd_6 : parseMethodDescriptor "(Ljava/lang/Object;)Z" = some ⟨[(.object "java/lang/Object")], some .boolean⟩ := by decide +kernel
theorem pd_7 : parseMethodDescriptor "()J" = some ⟨[], some .long⟩ := by decide +kernel
theorem pd_8 : parseMethodDescriptor "(C)Ljava/lang/String;" = some ⟨[.char], some (.object "java/lang/String")⟩ := by decide +kernel
theorem pd_9 : parseMethodDescriptor "()V" = some ⟨[], none⟩ := by decide +kernel
theorem pd_10 : parseMethodDescriptor "()Z" = some ⟨[], some .boolean⟩ := by decide +kernel
theorem pd_11 : parseMethodDescriptor "(Ljava/lang/String;J)Z" = some ⟨[(.object "java/lang/String"), .long], some .boolean⟩ := by decide +kernel
theorem dce_0 : decode jdk_43_method_3_code 0 = .ok (.iload_n 0, 1) := by decide +kernel
theorem dce_1 : decode jdk_43_method_3_code 1 = .ok (.sipush 255, 3) := by decide +kernel
theorem dce_4 : decode jdk_43_method_3_code 4 = .ok (.if_icmp .gt 7, 3) := by decide +kernel
theorem dce_7 : decode jdk_43_method_3_code 7 = .ok (.iconst 1, 1) := by decide +kernel
theorem dce_8 : decode jdk_43_method_3_code 8 = .ok (.goto 4, 3) := by decide +kernel
theorem dce_11 : decode jdk_43_method_3_code 11 = .ok (.iconst 0, 1) := by decide +kernel
theorem dce_12 : decode jdk_43_method_3_code 12 = .ok (.ireturn, 1) := by decide +kernel
theorem pn_ce : plainFor (⟨"java/lang/StringLatin1", "canEncode", "(C)Z"⟩ : MethodName) = true := by decide +kernel
theorem ef_ce (m : MethodId) (p1 : Int32) : entryFrame m #[(.int p1)] 1 = (mkF m 0 #[.val (.int p1)] []) := by first | (simp [entryFrame, mkF, argsToLocals, Value.category]; done) | rfl
def Qce (Z : State) (p1 : Int32) (h0 : Heap) (n0 : Nat) (v : Option Value) (h : Heap) (L : List Loc) : Prop := v = some (.int 1) ∧ Fr n0 L ∧ h = h0
set_option maxRecDepth 65536 in
set_option maxHeartbeats 40000000 in
theorem rmce (l : Launch) (Z : State) (a0 : Array Value) (hw : ∀ d ∈ tables_1, d.before a0 Z = true) (ws : List Jvm.Cond) (p1 : Int32) (h0 : Heap) (n0 : Nat) (Z0 : n0 ≤ h0.size) (hp : p1.toInt ≤ 255) :
    MetFree l (⟨"java/lang/StringLatin1", "canEncode", "(C)Z"⟩ : MethodName) (head1 (Jvm.Cond.code (⟨"java/lang/StringLatin1", "canEncode", "(C)Z"⟩ : MethodName) jdk_43_method_3_code 1 (some .boolean) :: ws) ({ frames := 0, cells := 0, slots := 0, locals := 0 } : Room)) (fun as' U => as' = #[(.int p1)] ∧ Z.Warmed39 U.vm ∧ U.heap = h0) (fun _ _ _ _ _ => True) (fun _ U o U' => ∃ v L, o = .returned v ∧ Qce Z p1 h0 n0 v U'.heap L ∧ FrameEnd U o U' L ({ frames := 0, cells := 0, slots := 0, locals := 0 } : Room).cells ({ frames := 0, cells := 0, slots := 0, locals := 0 } : Room).slots) := by
  refine MetFree.of_bodySF pn_ce hisR ?_
  intro p e s m args below meth c s₁ Bd hml0 hP hK
  obtain ⟨rfl, hZ, hh⟩ := hP
  have hx := Bd.exec
  have hby := Bd.bytes
  have hml : c.maxLocals = 1 := hml0
  have hown : s.vm.findClass "java/lang/StringLatin1" = some m.cls := findClass_of_methodNamed Bd.named
  have hnm := (name_of_methodNamed Bd.named Bd.method).1
  have X0 : Stand p l e ({ frames := 0, cells := 0, slots := 0, locals := 0 } : Room) s m #[(.int p1)] below meth c s₁ [] 0 0 := Stand.of_body Bd
  have e0 : s₁.heap = h0 := by rw [← hh, Bd.state]; rfl
  have N0 := Fr.nil n0
  refine own_via (fun t k => castTop (ef_ce m p1) k) ?_
  show own_G _ _ _ _ (s₁.setTop (mkF m 0 #[.val (.int p1)] []))
  refine own_via (fun _ k => XS.iloadN X0.here hx rfl (hb hby dce_0) rfl k) ?_
  show own_G _ _ _ _ (s₁.setTop (mkF m 1 #[.val (.int p1)] [(.int p1)]))
  refine own_via (fun _ k => XS.sipush X0.here hx rfl (hb hby dce_1) k) ?_
  show own_G _ _ _ _ (s₁.setTop (mkF m 4 #[.val (.int p1)] [(.int (255 : Int32)), (.int p1)]))
  refine own_via (fun _ k => XS.icmpNo X0.here hx rfl (hb hby dce_4) rfl (flt (by rw [Int32.lt_iff_toInt_lt, show (255 : Int32).toInt = 255 from by decide]; omega)).2.2.1 k) ?_
  show own_G _ _ _ _ (s₁.setTop (mkF m 7 #[.val (.int p1)] []))
  refine own_via (fun _ k => XS.iconst X0.here hx rfl (hb hby dce_7) k) ?_
  show own_G _ _ _ _ (s₁.setTop (mkF m 8 #[.val (.int p1)] [(.int (1 : Int32))]))
  refine own_via (fun _ k => XS.goto X0.here hx rfl (pc0 := 8) (pc' := 12) rfl (hb hby dce_8) (by decide) (by decide) k) ?_
  show own_G _ _ _ _ (s₁.setTop (mkF m 12 #[.val (.int p1)] [(.int (1 : Int32))]))
  obtain ⟨fs, hr, hrun, hended, hW, hsame⟩ := X0.leave (v := some (.int (1 : Int32))) (fun h => by rw [Bd.returns] at h; cases h)
  refine ⟨_, _, ?_, hrun, hended, _, _, rfl, ?_, ⟨_, rfl⟩, hW, hsame.mono (by decide) (by decide)⟩
  · exact retN X0 hx (t := .boolean) Bd.returns (by simp) (hb hby dce_12) hr
  · show Qce Z p1 h0 n0 _ s₁.heap _
    rw [e0]
    exact ⟨rfl, N0, rfl⟩
theorem dtb_0 : decode jdk_43_method_46_code 0 = .ok (.iconst 1, 1) := by decide +kernel
theorem dtb_1 : decode jdk_43_method_46_code 1 = .ok (.newarray .byte, 2) := by decide +kernel
theorem dtb_3 : decode jdk_43_method_46_code 3 = .ok (.dup, 1) := by decide +kernel
theorem dtb_4 : decode jdk_43_method_46_code 4 = .ok (.iconst 0, 1) := by decide +kernel
theorem dtb_5 : decode jdk_43_method_46_code 5 = .ok (.iload_n 0, 1) := by decide +kernel
theorem dtb_6 : decode jdk_43_method_46_code 6 = .ok (.i2b, 1) := by decide +kernel
theorem dtb_7 : decode jdk_43_method_46_code 7 = .ok (.bastore, 1) := by decide +kernel
theorem dtb_8 : decode jdk_43_method_46_code 8 = .ok (.areturn, 1) := by decide +kernel
theorem pn_tb : plainFor (⟨"java/lang/StringLatin1", "toBytes", "(C)[B"⟩ : MethodName) = true := by decide +kernel
theorem ef_tb (m : MethodId) (p1 : Int32) : entryFrame m #[(.int p1)] 1 = (mkF m 0 #[.val (.int p1)] []) := by first | (simp [entryFrame, mkF, argsToLocals, Value.category]; done) | rfl
def Qtb (Z : State) (p1 : Int32) (h0 : Heap) (n0 : Nat) (v : Option Value) (h : Heap) (L : List Loc) : Prop := ∃ (t : Addr) (k : ClassId) (z : Int32), v = some (.ref t) ∧ Fr n0 L ∧ Keep h0 h [] ∧ n0 ≤ t ∧ h0.size ≤ t ∧ Arv Z h t k .byte (1 : Int32) ([(.int z)] : List Value) (.int (0 : Int32))
set_option maxRecDepth 65536 in
set_option maxHeartbeats 40000000 in
theorem rmtb (l : Launch) (Z : State) (a0 : Array Value) (hw : ∀ d ∈ tables_1, d.before a0 Z = true) (ws : List Jvm.Cond) (p1 : Int32) (h0 : Heap) (n0 : Nat) (Z0 : n0 ≤ h0.size) :
    MetFree l (⟨"java/lang/StringLatin1", "toBytes", "(C)[B"⟩ : MethodName) (head1 (Jvm.Cond.code (⟨"java/lang/StringLatin1", "toBytes", "(C)[B"⟩ : MethodName) jdk_43_method_46_code 1 (some (.array .byte)) :: ws) ({ frames := 0, cells := 1, slots := 1, locals := 0 } : Room)) (fun as' U => as' = #[(.int p1)] ∧ Z.Warmed39 U.vm ∧ U.heap = h0) (fun _ _ _ _ _ => True) (fun _ U o U' => ∃ v L, o = .returned v ∧ Qtb Z p1 h0 n0 v U'.heap L ∧ FrameEnd U o U' L ({ frames := 0, cells := 1, slots := 1, locals := 0 } : Room).cells ({ frames := 0, cells := 1, slots := 1, locals := 0 } : Room).slots) := by
  refine MetFree.of_bodySF pn_tb hisR ?_
  intro p e s m args below meth c s₁ Bd hml0 hP hK
  obtain ⟨rfl, hZ, hh⟩ := hP
  have hx := Bd.exec
  have hby := Bd.bytes
  have hml : c.maxLocals = 1 := hml0
  have hown : s.vm.findClass "java/lang/StringLatin1" = some m.cls := findClass_of_methodNamed Bd.named
  have hnm := (name_of_methodNamed Bd.named Bd.method).1
  have X0 : Stand p l e ({ frames := 0, cells := 1, slots := 1, locals := 0 } : Room) s m #[(.int p1)] below meth c s₁ [] 0 0 := Stand.of_body Bd
  have e0 : s₁.heap = h0 := by rw [← hh, Bd.state]; rfl
  have N0 := Fr.nil n0
  have K : Keep h0 h0 [] := Keep.refl _ _
  refine own_via (fun t k => castTop (ef_tb m p1) k) ?_
  show own_G _ _ _ _ (s₁.setTop (mkF m 0 #[.val (.int p1)] []))
  refine own_via (fun _ k => XS.iconst X0.here hx rfl (hb hby dtb_0) k) ?_
  show own_G _ _ _ _ (s₁.setTop (mkF m 1 #[.val (.int p1)] [(.int (1 : Int32))]))
  obtain ⟨T1, h1, k_t, X1, e1, E1, A1, st1⟩ := newP X0 hx hZ (hw _ (List.mem_of_getElem? (i := 14) rfl)) e0 (g := (mkF m 1 #[.val (.int p1)] [(.int (1 : Int32))])) rfl (hb hby dtb_1) rfl (by decide) (cap := 1) (by decide) (by decide) (by decide) (by decide)
  obtain ⟨t, g1⟩ : ∃ z, z = h0.size := ⟨_, rfl⟩
  rw [← g1] at A1 st1
  have g_t : n0 ≤ t := Nat.le_trans Z0 (Nat.le_of_eq g1.symm)
  have sz_t : h0.size ≤ t := Nat.le_trans K.1 (Nat.le_of_eq g1.symm)
  have Z0 := Nat.le_trans Z0 E1.1
  have K := K.ext E1
  have V_t : Arv Z h1 t k_t .byte (1 : Int32) [(.int (0 : Int32))] (.int (0 : Int32)) := (Arv.new A1 (by decide)).pad (pad_rep [] (.int (0 : Int32)) 1)
  refine own_via st1 ?_
  show own_G _ _ _ _ (T1.setTop (mkF m 3 #[.val (.int p1)] [(.ref t)]))
  refine own_via (fun _ k => XS.dup X1.here hx rfl (hb hby dtb_3) rfl rfl k) ?_
  show own_G _ _ _ _ (T1.setTop (mkF m 4 #[.val (.int p1)] [(.ref t), (.ref t)]))
  refine own_via (fun _ k => XS.iconst X1.here hx rfl (hb hby dtb_4) k) ?_
  show own_G _ _ _ _ (T1.setTop (mkF m 5 #[.val (.int p1)] [(.int (0 : Int32)), (.ref t), (.ref t)]))
  refine own_via (fun _ k => XS.iloadN X1.here hx rfl (hb hby dtb_5) rfl k) ?_
  show own_G _ _ _ _ (T1.setTop (mkF m 6 #[.val (.int p1)] [(.int p1), (.int (0 : Int32)), (.ref t), (.ref t)]))
  refine own_via (fun _ k => XS.i2b X1.here hx rfl (hb hby dtb_6) rfl k) ?_
  show own_G _ _ _ _ (T1.setTop (mkF m 7 #[.val (.int p1)] [(.int (p1.toInt8.toInt32)), (.int (0 : Int32)), (.ref t), (.ref t)]))
  obtain ⟨cl_t, Ar_t, q_t, S_t, Nn_t, H_t, G_t⟩ := V_t
  have hin2 : ¬ ((0 : Int32) < 0 ∨ cl_t.slots.size ≤ ((0 : Int32)).toNatClampNeg) := inb_of S_t ⟨by decide, by decide⟩
  obtain ⟨T2, h2, X2, e2, W2, st2⟩ := stB X1 hx hZ e1 Ar_t (j := (0 : Int32)) hin2 (g := (mkF m 7 #[.val (.int p1)] [(.int (p1.toInt8.toInt32)), (.int (0 : Int32)), (.ref t), (.ref t)])) rfl rfl (hb hby dtb_7)
  have V_t : Arv Z h2 t k_t .byte (1 : Int32) ([(.int (nar .byte (p1.toInt8.toInt32)))] : List Value) (.int (0 : Int32)) := Arv.set Ar_t q_t S_t Nn_t H_t G_t (fits_nar_byte _) W2 0 rfl (Nat.le_of_ble_eq_true rfl)
  have Z0 := Nat.le_trans Z0 (Keep.of_wr W2).1
  have K := K.wr W2 (Or.inr sz_t)
  have N2 := Fr.snoc X2 N0 g_t
  refine own_via st2 ?_
  show own_G _ _ _ _ (T2.setTop (mkF m 8 #[.val (.int p1)] [(.ref t)]))
  obtain ⟨fs, hr, hrun, hended, hW, hsame⟩ := X2.leave (v := some (.ref t)) (fun h => by rw [Bd.returns] at h; cases h)
  refine ⟨_, _, ?_, hrun, hended, _, _, rfl, ?_, ⟨_, rfl⟩, hW, hsame.mono (by decide) (by decide)⟩
  · jvm_step X2.here [X2.here.top, hx, (hb hby dtb_8), X2.method', Bd.returns, Value.isRef, FieldType.isReference]
    first | (intro acts; rw [hr _ acts rfl rfl rfl]) | rw [hr _ _ rfl rfl rfl]
    exact Steps.refl _
  · show Qtb Z p1 h0 n0 _ T2.heap _
    rw [e2]
    exact ⟨t, _, _, rfl, N2, K, g_t, sz_t, V_t⟩
theorem dsi_0 : decode jdk_42_method_151_code 0 = .ok (.aload_n 0, 1) := by decide +kernel
theorem dsi_1 : decode jdk_42_method_151_code 1 = .ok (.invokespecial 1, 3) := by decide +kernel
theorem dsi_4 : decode jdk_42_method_151_code 4 = .ok (.aload_n 0, 1) := by decide +kernel
theorem dsi_5 : decode jdk_42_method_151_code 5 = .ok (.aload_n 1, 1) := by decide +kernel
theorem dsi_6 : decode jdk_42_method_151_code 6 = .ok (.putfield 9, 3) := by decide +kernel
theorem dsi_9 : decode jdk_42_method_151_code 9 = .ok (.aload_n 0, 1) := by decide +kernel
theorem dsi_10 : decode jdk_42_method_151_code 10 = .ok (.iload_n 2, 1) := by decide +kernel
theorem dsi_11 : decode jdk_42_method_151_code 11 = .ok (.putfield 15, 3) := by decide +kernel
theorem dsi_14 : decode jdk_42_method_151_code 14 = .ok (.return_, 1) := by decide +kernel
theorem pn_si : plainFor (⟨"java/lang/String", "<init>", "([BB)V"⟩ : MethodName) = true := by decide +kernel
theorem ef_si (m : MethodId) (a : Addr) (b : Addr) (p1 : Int32) : entryFrame m #[(.ref a), (.ref b), (.int p1)] 3 = (mkF m 0 #[.val (.ref a), .val (.ref b), .val (.int p1)] []) := by first | (simp [entryFrame, mkF, argsToLocals, Value.category]; done) | rfl
def Qsi (Z : State) (a : Addr) (b : Addr) (p1 : Int32) (h0 : Heap) (n0 : Nat) (v : Option Value) (h : Heap) (L : List Loc) : Prop := v = none ∧ Fr n0 L ∧ Keep h0 h [a] ∧ Exa Z h a "java/lang/String" ∧ Fld Z h a "java/lang/String" "value" "[B" (.ref b) ∧ Fld Z h a "java/lang/String" "coder" "B" (.int (p1.toInt8.toInt32))
set_option maxRecDepth 65536 in
set_option maxHeartbeats 40000000 in
theorem rmsi (l : Launch) (Z : State) (a0 : Array Value) (hw : ∀ d ∈ tables_1, d.before a0 Z = true) (ws : List Jvm.Cond) (a : Addr) (b : Addr) (p1 : Int32) (h0 : Heap) (n0 : Nat) (Z0 : n0 ≤ h0.size) (E_a : Exa Z h0 a "java/lang/String") (F_a_value : Fld Z h0 a "java/lang/String" "value" "[B" .null) (F_a_coder : Fld Z h0 a "java/lang/String" "coder" "B" (.int 0)) (g_a : n0 ≤ a) :
    MetFree l (⟨"java/lang/String", "<init>", "([BB)V"⟩ : MethodName) (head1 (Jvm.Cond.code (⟨"java/lang/String", "<init>", "([BB)V"⟩ : MethodName) jdk_42_method_151_code 3 none :: ws) ({ frames := 1, cells := 0, slots := 0, locals := 20 } : Room)) (fun as' U => as' = #[(.ref a), (.ref b), (.int p1)] ∧ Z.Warmed39 U.vm ∧ U.heap = h0) (fun _ _ _ _ _ => True) (fun _ U o U' => ∃ v L, o = .returned v ∧ Qsi Z a b p1 h0 n0 v U'.heap L ∧ FrameEnd U o U' L ({ frames := 1, cells := 0, slots := 0, locals := 20 } : Room).cells ({ frames := 1, cells := 0, slots := 0, locals := 20 } : Room).slots) := by
  refine MetFree.of_bodySF pn_si hisR ?_
  intro p e s m args below meth c s₁ Bd hml0 hP hK
  obtain ⟨rfl, hZ, hh⟩ := hP
  have hx := Bd.exec
  have hby := Bd.bytes
  have hml : c.maxLocals = 3 := hml0
  have hown : s.vm.findClass "java/lang/String" = some m.cls := findClass_of_methodNamed Bd.named
  have hnm := (name_of_methodNamed Bd.named Bd.method).1
  have X0 : Stand p l e ({ frames := 1, cells := 0, slots := 0, locals := 20 } : Room) s m #[(.ref a), (.ref b), (.int p1)] below meth c s₁ [] 0 0 := Stand.of_body Bd
  have e0 : s₁.heap = h0 := by rw [← hh, Bd.state]; rfl
  have N0 := Fr.nil n0
  have K : Keep h0 h0 [a] := Keep.refl _ _
  refine own_via (fun t k => castTop (ef_si m a b p1) k) ?_
  show own_G _ _ _ _ (s₁.setTop (mkF m 0 #[.val (.ref a), .val (.ref b), .val (.int p1)] []))
  refine own_via (fun _ k => XS.aloadN X0.here hx rfl (hb hby dsi_0) rfl rfl k) ?_
  show own_G _ _ _ _ (s₁.setTop (mkF m 1 #[.val (.ref a), .val (.ref b), .val (.int p1)] [(.ref a)]))
  obtain ⟨T3, X3, e3, st3⟩ := initO X0 hx hZ hown (hw _ (List.mem_of_getElem? (i := 19) rfl)) (hw _ (List.mem_of_getElem? (i := 20) rfl)) (hw _ (List.mem_of_getElem? (i := 21) rfl)) e0 (g := (mkF m 1 #[.val (.ref a), .val (.ref b), .val (.int p1)] [(.ref a)])) rfl (by rw [hml]; rfl) rfl (hb hby dsi_1) (by decide) (W := 0) (by show 2 * 0 + _ ≤ _; exact Nat.le_of_eq rfl) (by decide)
  refine own_via st3 ?_
  show own_G _ _ _ _ (T3.setTop (mkF m 4 #[.val (.ref a), .val (.ref b), .val (.int p1)] []))
  refine own_via (fun _ k => XS.aloadN X3.here hx rfl (hb hby dsi_4) rfl rfl k) ?_
  show own_G _ _ _ _ (T3.setTop (mkF m 5 #[.val (.ref a), .val (.ref b), .val (.int p1)] [(.ref a)]))
  refine own_via (fun _ k => XS.aloadN X3.here hx rfl (hb hby dsi_5) rfl rfl k) ?_
  show own_G _ _ _ _ (T3.setTop (mkF m 6 #[.val (.ref a), .val (.ref b), .val (.int p1)] [(.ref b), (.ref a)]))
  obtain ⟨T4, h4, X4, e4, W4, st4⟩ := putF X3 hx hZ hown (host := "") (Or.inl (hw _ (List.mem_of_getElem? (i := 22) rfl))) Via.refl e3 F_a_value E_a (Or.inr ⟨(hw _ (List.mem_of_getElem? (i := 23) rfl)), rfl, hnm⟩) (hw _ (List.mem_of_getElem? (i := 10) rfl)) (ty := (.array .byte)) (by decide) rfl rfl (g := (mkF m 6 #[.val (.ref a), .val (.ref b), .val (.int p1)] [(.ref b), (.ref a)])) rfl rfl (hb hby dsi_6)
  have F_a_value := F_a_value.same W4
  have F_a_coder := F_a_coder.other W4 (Or.inr (slot_ne (Or.inr (hw _ (List.mem_of_getElem? (i := 25) rfl))) (Or.inr (hw _ (List.mem_of_getElem? (i := 23) rfl))) (by decide) (t := .byte) (t' := (.array .byte)) (by decide) (by decide)))
  have E_a := E_a.wr W4
  have Z0 := Nat.le_trans Z0 (Keep.of_wr W4).1
  have K := K.wr W4 (Or.inl (by simp))
  have N4 := Fr.snoc X4 N0 g_a
  refine own_via st4 ?_
  show own_G _ _ _ _ (T4.setTop (mkF m 9 #[.val (.ref a), .val (.ref b), .val (.int p1)] []))
  refine own_via (fun _ k => XS.aloadN X4.here hx rfl (hb hby dsi_9) rfl rfl k) ?_
  show own_G _ _ _ _ (T4.setTop (mkF m 10 #[.val (.ref a), .val (.ref b), .val (.int p1)] [(.ref a)]))
  refine own_via (fun _ k => XS.iloadN X4.here hx rfl (hb hby dsi_10) rfl k) ?_
  show own_G _ _ _ _ (T4.setTop (mkF m 11 #[.val (.ref a), .val (.ref b), .val (.int p1)] [(.int p1), (.ref a)]))
  obtain ⟨T5, h5, X5, e5, W5, st5⟩ := putFN X4 hx hZ hown (hw _ (List.mem_of_getElem? (i := 24) rfl)) Via.refl e4 F_a_coder E_a (Or.inr ⟨(hw _ (List.mem_of_getElem? (i := 25) rfl)), rfl, hnm⟩) (hw _ (List.mem_of_getElem? (i := 10) rfl)) (ty := .byte) (v' := (.int (p1.toInt8.toInt32))) (by decide) rfl (fits_nar_byte _) (g := (mkF m 11 #[.val (.ref a), .val (.ref b), .val (.int p1)] [(.int p1), (.ref a)])) rfl rfl (hb hby dsi_11)
  have F_a_coder := F_a_coder.same W5
  have F_a_value := F_a_value.other W5 (Or.inr (slot_ne (Or.inr (hw _ (List.mem_of_getElem? (i := 23) rfl))) (Or.inr (hw _ (List.mem_of_getElem? (i := 25) rfl))) (by decide) (t := (.array .byte)) (t' := .byte) (by decide) (by decide)))
  have E_a := E_a.wr W5
  have Z0 := Nat.le_trans Z0 (Keep.of_wr W5).1
  have K := K.wr W5 (Or.inl (by simp))
  have N5 := Fr.snoc X5 N4 g_a
  refine own_via st5 ?_
  show own_G _ _ _ _ (T5.setTop (mkF m 14 #[.val (.ref a), .val (.ref b), .val (.int p1)] []))
  obtain ⟨fs, hr, hrun, hended, hW, hsame⟩ := X5.leave (v := none) (fun _ => rfl)
  refine ⟨_, _, ?_, hrun, hended, _, _, rfl, ?_, ⟨_, rfl⟩, hW, hsame.mono (by decide) (by decide)⟩
  · exact X5.returnOut hx Bd.returns (hb hby dsi_14) hr
  · show Qsi Z a b p1 h0 n0 _ T5.heap _
    rw [e5]
    exact ⟨rfl, N5, K, E_a, F_a_value, F_a_coder⟩
theorem dvo_0 : decode jdk_42_method_139_code 0 = .ok (.getstatic 38, 3) := by decide +kernel
theorem dvo_3 : decode jdk_42_method_139_code 3 = .ok (.ifCond .eq 23, 3) := by decide +kernel
theorem dvo_6 : decode jdk_42_method_139_code 6 = .ok (.iload_n 0, 1) := by decide +kernel
theorem dvo_7 : decode jdk_42_method_139_code 7 = .ok (.invokestatic 1015, 3) := by decide +kernel
theorem dvo_10 : decode jdk_42_method_139_code 10 = .ok (.ifCond .eq 16, 3) := by decide +kernel
theorem dvo_13 : decode jdk_42_method_139_code 13 = .ok (.new 10, 3) := by decide +kernel
theorem dvo_16 : decode jdk_42_method_139_code 16 = .ok (.dup, 1) := by decide +kernel
theorem dvo_17 : decode jdk_42_method_139_code 17 = .ok (.iload_n 0, 1) := by decide +kernel
theorem dvo_18 : decode jdk_42_method_139_code 18 = .ok (.invokestatic 1018, 3) := by decide +kernel
theorem dvo_21 : decode jdk_42_method_139_code 21 = .ok (.iconst 0, 1) := by decide +kernel
theorem dvo_22 : decode jdk_42_method_139_code 22 = .ok (.invokespecial 209, 3) := by decide +kernel
theorem dvo_25 : decode jdk_42_method_139_code 25 = .ok (.areturn, 1) := by decide +kernel
theorem dvo_26 : decode jdk_42_method_139_code 26 = .ok (.new 10, 3) := by decide +kernel
theorem dvo_29 : decode jdk_42_method_139_code 29 = .ok (.dup, 1) := by decide +kernel
theorem dvo_30 : decode jdk_42_method_139_code 30 = .ok (.iload_n 0, 1) := by decide +kernel
theorem dvo_31 : decode jdk_42_method_139_code 31 = .ok (.invokestatic 1021, 3) := by decide +kernel
theorem dvo_34 : decode jdk_42_method_139_code 34 = .ok (.iconst 1, 1) := by decide +kernel
theorem dvo_35 : decode jdk_42_method_139_code 35 = .ok (.invokespecial 209, 3) := by decide +kernel
theorem dvo_38 : decode jdk_42_method_139_code 38 = .ok (.areturn, 1) := by decide +kernel
theorem pn_vo : plainFor (⟨"java/lang/String", "valueOf", "(C)Ljava/lang/String;"⟩ : MethodName) = true := by decide +kernel
theorem ef_vo (m : MethodId) (p1 : Int32) : entryFrame m #[(.int p1)] 1 = (mkF m 0 #[.val (.int p1)] []) := by first | (simp [entryFrame, mkF, argsToLocals, Value.category]; done) | rfl
def Qvo (Z : State) (p1 : Int32) (cs : Int32) (h0 : Heap) (n0 : Nat) (v : Option Value) (h : Heap) (L : List Loc) : Prop := ∃ (t : Addr) (y : Addr) (k : ClassId) (z : Int32), v = some (.ref t) ∧ Fr n0 L ∧ Keep h0 h [] ∧ n0 ≤ t ∧ Exa Z h t "java/lang/String" ∧ Fld Z h t "java/lang/String" "value" "[B" (.ref y) ∧ Fld Z h t "java/lang/String" "coder" "B" (.int ((0 : Int32).toInt8.toInt32)) ∧ Arv Z h y k .byte (1 : Int32) ([(.int z)] : List Value) (.int (0 : Int32))
set_option maxRecDepth 65536 in
set_option maxHeartbeats 40000000 in
theorem rmvo (l : Launch) (Z : State) (a0 : Array Value) (hw : ∀ d ∈ tables_1, d.before a0 Z = true) (ws : List Jvm.Cond) (p1 : Int32) (cs : Int32) (h0 : Heap) (n0 : Nat) (Z0 : n0 ≤ h0.size) (hp : p1.toInt ≤ 255) (S_c : Sta Z h0 "java/lang/String" "COMPACT_STRINGS" "Z" (.int cs)) (hcs : ¬ cs = (0 : Int32)) :
    MetFree l (⟨"java/lang/String", "valueOf", "(C)Ljava/lang/String;"⟩ : MethodName) (head1 (Jvm.Cond.code (⟨"java/lang/String", "valueOf", "(C)Ljava/lang/String;"⟩ : MethodName) jdk_42_method_139_code 1 (some (.object "java/lang/String")) :: ws) ({ frames := 2, cells := 2, slots := 5, locals := 60 } : Room)) (fun as' U => as' = #[(.int p1)] ∧ Z.Warmed39 U.vm ∧ U.heap = h0) (fun _ _ _ _ _ => True) (fun _ U o U' => ∃ v L, o = .returned v ∧ Qvo Z p1 cs h0 n0 v U'.heap L ∧ FrameEnd U o U' L ({ frames := 2, cells := 2, slots := 5, locals := 60 } : Room).cells ({ frames := 2, cells := 2, slots := 5, locals := 60 } : Room).slots) := by
  refine MetFree.of_bodySF pn_vo hisR ?_
  intro p e s m args below meth c s₁ Bd hml0 hP hK
  obtain ⟨rfl, hZ, hh⟩ := hP
  have hx := Bd.exec
  have hby := Bd.bytes
  have hml : c.maxLocals = 1 := hml0
  have hown : s.vm.findClass "java/lang/String" = some m.cls := findClass_of_methodNamed Bd.named
  have hnm := (name_of_methodNamed Bd.named Bd.method).1
  have X0 : Stand p l e ({ frames := 2, cells := 2, slots := 5, locals := 60 } : Room) s m #[(.int p1)] below meth c s₁ [] 0 0 := Stand.of_body Bd
  have e0 : s₁.heap = h0 := by rw [← hh, Bd.state]; rfl
  have N0 := Fr.nil n0
  have K : Keep h0 h0 [] := Keep.refl _ _
  refine own_via (fun t k => castTop (ef_vo m p1) k) ?_
  show own_G _ _ _ _ (s₁.setTop (mkF m 0 #[.val (.int p1)] []))
  obtain ⟨T6, X6, e6, st6⟩ := getS2 X0 hx hZ hown (host := "") (Or.inl (hw _ (List.mem_of_getElem? (i := 4) rfl))) Via.refl e0 S_c (g := (mkF m 0 #[.val (.int p1)] [])) rfl (hb hby dvo_0)
  refine own_via st6 ?_
  show own_G _ _ _ _ (T6.setTop (mkF m 3 #[.val (.int p1)] [(.int cs)]))
  refine own_via (fun _ k => XS.ifNo X6.here hx rfl (hb hby dvo_3) rfl ((if0 _ _).trans (feq hcs).1) k) ?_
  show own_G _ _ _ _ (T6.setTop (mkF m 6 #[.val (.int p1)] []))
  refine own_via (fun _ k => XS.iloadN X6.here hx rfl (hb hby dvo_6) rfl k) ?_
  show own_G _ _ _ _ (T6.setTop (mkF m 7 #[.val (.int p1)] [(.int p1)]))
  obtain ⟨_, _, ⟨T7, L7, k7, n7⟩, -, X7, ⟨Lc7, hQ7, l7, y7, z7⟩, st7⟩ := Jvm.LawKit.callS X6 hx (y := (⟨"java/lang/StringLatin1", "canEncode", "(C)Z"⟩ : MethodName)) hown (mvT hZ (hw _ (List.mem_of_getElem? (i := 5) rfl))) (mvT hZ (hw _ (List.mem_of_getElem? (i := 6) rfl))) (mvT hZ (hw _ (List.mem_of_getElem? (i := 7) rfl))) (mvT hZ (hw _ (List.mem_of_getElem? (i := 8) rfl))) (by decide) (backOf (W := 0) (rmce l Z a0 hw [] p1 h0 n0 Z0 hp) hZ (hw _ (List.mem_of_getElem? (i := 8) rfl)) (hw _ (List.mem_of_getElem? (i := 7) rfl)) (by decide) (by decide)) (g := (mkF m 7 #[.val (.int p1)] [(.int p1)])) rfl (by rw [hml]; rfl) (argsL := [(.int p1)]) (rest := []) (lenOf pd_0 rfl) rfl (by show 2 * 0 + _ ≤ _; exact Nat.le_of_eq rfl) (hb hby dvo_7) (fun _ _ => ⟨rfl, e6, Nat.le_of_ble_eq_true rfl, Nat.le_of_ble_eq_true rfl⟩)
  dsimp only [Pt.U, Pt.locs, Pt.cells, Pt.slots] at X7 l7 y7 z7 st7 hQ7
  subst l7 y7 z7
  obtain ⟨rfl, N7q, e7⟩ := hQ7
  have N7 := Fr.app N0 N7q
  refine own_via st7 ?_
  show own_G _ _ _ _ (T7.setTop (mkF m 10 #[.val (.int p1)] [(.int (1 : Int32))]))
  refine own_via (fun _ k => XS.ifNo X7.here hx rfl (hb hby dvo_10) rfl ((if0 _ _).trans (feq (by decide)).1) k) ?_
  show own_G _ _ _ _ (T7.setTop (mkF m 13 #[.val (.int p1)] []))
  obtain ⟨T8, h8, X8, e8, E8, A8, D8, -, st8⟩ := newO X7 hx hZ hown (hw _ (List.mem_of_getElem? (i := 9) rfl)) (hw _ (List.mem_of_getElem? (i := 10) rfl)) (hw _ (List.mem_of_getElem? (i := 2) rfl)) e7 (g := (mkF m 13 #[.val (.int p1)] [])) rfl (hb hby dvo_13) (by decide) (by decide)
  obtain ⟨t, g8⟩ : ∃ z, z = h0.size := ⟨_, rfl⟩
  rw [← g8] at A8 D8 st8
  have g_t : n0 ≤ t := Nat.le_trans Z0 (Nat.le_of_eq g8.symm)
  have sz_t : h0.size ≤ t := Nat.le_trans K.1 (Nat.le_of_eq g8.symm)
  have Z0 := Nat.le_trans Z0 E8.1
  have K := K.ext E8
  have E_t := A8
  have F_t_value : Fld Z h8 t "java/lang/String" "value" "[B" .null := D8 (Or.inr (hw _ (List.mem_of_getElem? (i := 23) rfl))) (ty := (.array .byte)) (by decide)
  have F_t_coder : Fld Z h8 t "java/lang/String" "coder" "B" (.int (0 : Int32)) := D8 (Or.inr (hw _ (List.mem_of_getElem? (i := 25) rfl))) (ty := .byte) (by decide)
  refine own_via st8 ?_
  show own_G _ _ _ _ (T8.setTop (mkF m 16 #[.val (.int p1)] [(.ref t)]))
  refine own_via (fun _ k => XS.dup X8.here hx rfl (hb hby dvo_16) rfl rfl k) ?_
  show own_G _ _ _ _ (T8.setTop (mkF m 17 #[.val (.int p1)] [(.ref t), (.ref t)]))
  refine own_via (fun _ k => XS.iloadN X8.here hx rfl (hb hby dvo_17) rfl k) ?_
  show own_G _ _ _ _ (T8.setTop (mkF m 18 #[.val (.int p1)] [(.int p1), (.ref t), (.ref t)]))
  have E_t0 := E_t
  obtain ⟨_, _, ⟨T9, L9, k9, n9⟩, -, X9, ⟨Lc9, hQ9, l9, y9, z9⟩, st9⟩ := Jvm.LawKit.callS X8 hx (y := (⟨"java/lang/StringLatin1", "toBytes", "(C)[B"⟩ : MethodName)) hown (mvT hZ (hw _ (List.mem_of_getElem? (i := 11) rfl))) (mvT hZ (hw _ (List.mem_of_getElem? (i := 12) rfl))) (mvT hZ (hw _ (List.mem_of_getElem? (i := 7) rfl))) (mvT hZ (hw _ (List.mem_of_getElem? (i := 13) rfl))) (by decide) (backOf (W := 2) (rmtb l Z a0 hw [] p1 h8 n0 Z0) hZ (hw _ (List.mem_of_getElem? (i := 13) rfl)) (hw _ (List.mem_of_getElem? (i := 7) rfl)) (by decide) (by decide)) (g := (mkF m 18 #[.val (.int p1)] [(.int p1), (.ref t), (.ref t)])) rfl (by rw [hml]; rfl) (argsL := [(.int p1)]) (rest := [(.ref t), (.ref t)]) (lenOf pd_1 rfl) rfl (by show 2 * 0 + _ ≤ _; exact Nat.le_of_eq rfl) (hb hby dvo_18) (fun _ _ => ⟨rfl, e8, Nat.le_of_ble_eq_true rfl, Nat.le_of_ble_eq_true rfl⟩)
  dsimp only [Pt.U, Pt.locs, Pt.cells, Pt.slots] at X9 l9 y9 z9 st9 hQ9
  subst l9 y9 z9
  obtain ⟨y, ky, zy, rfl, N9q, K9, g_y, sz_y, V_y⟩ := hQ9
  have N9 := Fr.app N7 N9q
  have E_t := E_t.keep K9
  have F_t_value := F_t_value.keep K9 (by simp)
  have F_t_coder := F_t_coder.keep K9 (by simp)
  have Z0 := Nat.le_trans Z0 K9.1
  have K := K.trans K9 (fun z hz => nomatch hz)
  refine own_via st9 ?_
  show own_G _ _ _ _ (T9.setTop (mkF m 21 #[.val (.int p1)] [(.ref y), (.ref t), (.ref t)]))
  have ne_y_t : y ≠ t := Ne.symm (Nat.ne_of_lt (Nat.lt_of_lt_of_le E_t0.lt sz_y))
  refine own_via (fun _ k => XS.iconst X9.here hx rfl (hb hby dvo_21) k) ?_
  show own_G _ _ _ _ (T9.setTop (mkF m 22 #[.val (.int p1)] [(.int (0 : Int32)), (.ref y), (.ref t), (.ref t)]))
  obtain ⟨_, _, ⟨T10, L10, k10, n10⟩, -, X10, ⟨Lc10, hQ10, l10, y10, z10⟩, st10⟩ := X9.specialBack hx (y := (⟨"java/lang/String", "<init>", "([BB)V"⟩ : MethodName)) rfl hown (mvT hZ (hw _ (List.mem_of_getElem? (i := 15) rfl))) (mvT hZ (hw _ (List.mem_of_getElem? (i := 16) rfl))) (mvT hZ (hw _ (List.mem_of_getElem? (i := 18) rfl))) (by decide) (backOf (W := 1) (rmsi l Z a0 hw [] t y (0 : Int32) T9.heap n0 Z0 E_t F_t_value F_t_coder g_t) hZ (hw _ (List.mem_of_getElem? (i := 18) rfl)) (hw _ (List.mem_of_getElem? (i := 2) rfl)) (by decide) (by decide)) (g := (mkF m 22 #[.val (.int p1)] [(.int (0 : Int32)), (.ref y), (.ref t), (.ref t)])) rfl (by rw [hml]; rfl) (Steps.refl _) (a := t) (argsL := [(.ref y), (.int (0 : Int32))]) (rest := [(.ref t)]) (lenOf pd_2 rfl) rfl (by show 2 * 0 + _ ≤ _; exact Nat.le_of_eq rfl) (hb hby dvo_22) (fun _ _ => ⟨rfl, rfl, Nat.le_of_ble_eq_true rfl, Nat.le_of_ble_eq_true rfl⟩)
  dsimp only [Pt.U, Pt.locs, Pt.cells, Pt.slots] at X10 l10 y10 z10 st10 hQ10
  subst l10 y10 z10
  obtain ⟨rfl, N10q, K10, -, F_t_value, F_t_coder⟩ := hQ10
  have N10 := Fr.app N9 N10q
  have E_t := E_t.keep K10
  have V_y := V_y.keep K10 (by simp [ne_y_t])
  have Z0 := Nat.le_trans Z0 K10.1
  have K := K.trans K10 (fun z hz => by cases List.mem_singleton.mp hz; exact Or.inr sz_t)
  refine own_via (fun _ kt => st10.trans kt) ?_
  show own_G _ _ _ _ (T10.setTop (mkF m 25 #[.val (.int p1)] [(.ref t)]))
  obtain ⟨fs, hr, hrun, hended, hW, hsame⟩ := X10.leave (v := some (.ref t)) (fun h => by rw [Bd.returns] at h; cases h)
  refine ⟨_, _, ?_, hrun, hended, _, _, rfl, ?_, ⟨_, rfl⟩, hW, hsame.mono (by decide) (by decide)⟩
  · jvm_step X10.here [X10.here.top, hx, (hb hby dvo_25), X10.method', Bd.returns, Value.isRef, FieldType.isReference]
    first | (intro acts; rw [hr _ acts rfl rfl rfl]) | rw [hr _ _ rfl rfl rfl]
    exact Steps.refl _
  · show Qvo Z p1 cs h0 n0 _ T10.heap _
    exact ⟨t, y, _, _, rfl, N10, K, g_t, E_t, F_t_value, F_t_coder, V_y⟩
theorem dle_0 : decode jdk_43_method_13_code 0 = .ok (.aload_n 0, 1) := by decide +kernel
theorem dle_1 : decode jdk_43_method_13_code 1 = .ok (.arraylength, 1) := by decide +kernel
theorem dle_2 : decode jdk_43_method_13_code 2 = .ok (.aload_n 1, 1) := by decide +kernel
theorem dle_3 : decode jdk_43_method_13_code 3 = .ok (.arraylength, 1) := by decide +kernel
theorem dle_4 : decode jdk_43_method_13_code 4 = .ok (.if_icmp .ne 30, 3) := by decide +kernel
theorem dle_7 : decode jdk_43_method_13_code 7 = .ok (.iconst 0, 1) := by decide +kernel
theorem dle_8 : decode jdk_43_method_13_code 8 = .ok (.istore_n 2, 1) := by decide +kernel
theorem dle_9 : decode jdk_43_method_13_code 9 = .ok (.iload_n 2, 1) := by decide +kernel
theorem dle_10 : decode jdk_43_method_13_code 10 = .ok (.aload_n 0, 1) := by decide +kernel
theorem dle_11 : decode jdk_43_method_13_code 11 = .ok (.arraylength, 1) := by decide +kernel
theorem dle_12 : decode jdk_43_method_13_code 12 = .ok (.if_icmp .ge 20, 3) := by decide +kernel
theorem dle_15 : decode jdk_43_method_13_code 15 = .ok (.aload_n 0, 1) := by decide +kernel
theorem dle_16 : decode jdk_43_method_13_code 16 = .ok (.iload_n 2, 1) := by decide +kernel
theorem dle_17 : decode jdk_43_method_13_code 17 = .ok (.baload, 1) := by decide +kernel
theorem dle_18 : decode jdk_43_method_13_code 18 = .ok (.aload_n 1, 1) := by decide +kernel
theorem dle_19 : decode jdk_43_method_13_code 19 = .ok (.iload_n 2, 1) := by decide +kernel
theorem dle_20 : decode jdk_43_method_13_code 20 = .ok (.baload, 1) := by decide +kernel
theorem dle_21 : decode jdk_43_method_13_code 21 = .ok (.if_icmp .eq 5, 3) := by decide +kernel
theorem dle_24 : decode jdk_43_method_13_code 24 = .ok (.iconst 0, 1) := by decide +kernel
theorem dle_25 : decode jdk_43_method_13_code 25 = .ok (.ireturn, 1) := by decide +kernel
theorem dle_26 : decode jdk_43_method_13_code 26 = .ok (.iinc 2 1, 3) := by decide +kernel
theorem dle_29 : decode jdk_43_method_13_code 29 = .ok (.goto (-20), 3) := by decide +kernel
theorem dle_32 : decode jdk_43_method_13_code 32 = .ok (.iconst 1, 1) := by decide +kernel
theorem dle_33 : decode jdk_43_method_13_code 33 = .ok (.ireturn, 1) := by decide +kernel
theorem dle_34 : decode jdk_43_method_13_code 34 = .ok (.iconst 0, 1) := by decide +kernel
theorem dle_35 : decode jdk_43_method_13_code 35 = .ok (.ireturn, 1) := by decide +kernel
theorem pn_le : plainFor (⟨"java/lang/StringLatin1", "equals", "([B[B)Z"⟩ : MethodName) = true := by decide +kernel
theorem ef_le (m : MethodId) (a : Addr) (b : Addr) : entryFrame m #[(.ref a), (.ref b)] 3 = (mkF m 0 #[.val (.ref a), .val (.ref b), .unset] []) := by first | (simp [entryFrame, mkF, argsToLocals, Value.category]; done) | rfl
def Qle (Z : State) (a : Addr) (b : Addr) (k1 : ClassId) (k2 : ClassId) (z1 : Int32) (z2 : Int32) (h0 : Heap) (n0 : Nat) (v : Option Value) (h : Heap) (L : List Loc) : Prop := ∃ r : Int32, v = some (.int r) ∧ Fr n0 L ∧ h = h0
set_option maxRecDepth 65536 in
set_option maxHeartbeats 40000000 in
theorem rmle (l : Launch) (Z : State) (a0 : Array Value) (hw : ∀ d ∈ tables_1, d.before a0 Z = true) (ws : List Jvm.Cond) (a : Addr) (b : Addr) (k1 : ClassId) (k2 : ClassId) (z1 : Int32) (z2 : Int32) (h0 : Heap) (n0 : Nat) (Z0 : n0 ≤ h0.size) (V_a : Arv Z h0 a k1 .byte (1 : Int32) ([(.int z1)] : List Value) (.int (0 : Int32))) (V_b : Arv Z h0 b k2 .byte (1 : Int32) ([(.int z2)] : List Value) (.int (0 : Int32))) :
    MetFree l (⟨"java/lang/StringLatin1", "equals", "([B[B)Z"⟩ : MethodName) (head1 (Jvm.Cond.code (⟨"java/lang/StringLatin1", "equals", "([B[B)Z"⟩ : MethodName) jdk_43_method_13_code 3 (some .boolean) :: ws) ({ frames := 0, cells := 0, slots := 0, locals := 0 } : Room)) (fun as' U => as' = #[(.ref a), (.ref b)] ∧ Z.Warmed39 U.vm ∧ U.heap = h0) (fun _ _ _ _ _ => True) (fun _ U o U' => ∃ v L, o = .returned v ∧ Qle Z a b k1 k2 z1 z2 h0 n0 v U'.heap L ∧ FrameEnd U o U' L ({ frames := 0, cells := 0, slots := 0, locals := 0 } : Room).cells ({ frames := 0, cells := 0, slots := 0, locals := 0 } : Room).slots) := by
  refine MetFree.of_bodySF pn_le hisR ?_
  intro p e s m args below meth c s₁ Bd hml0 hP hK
  obtain ⟨rfl, hZ, hh⟩ := hP
  have hx := Bd.exec
  have hby := Bd.bytes
  have hml : c.maxLocals = 3 := hml0
  have hown : s.vm.findClass "java/lang/StringLatin1" = some m.cls := findClass_of_methodNamed Bd.named
  have hnm := (name_of_methodNamed Bd.named Bd.method).1
  have X0 : Stand p l e ({ frames := 0, cells := 0, slots := 0, locals := 0 } : Room) s m #[(.ref a), (.ref b)] below meth c s₁ [] 0 0 := Stand.of_body Bd
  have e0 : s₁.heap = h0 := by rw [← hh, Bd.state]; rfl
  have N0 := Fr.nil n0
  refine own_via (fun t k => castTop (ef_le m a b) k) ?_
  show own_G _ _ _ _ (s₁.setTop (mkF m 0 #[.val (.ref a), .val (.ref b), .unset] []))
  refine own_via (fun _ k => XS.aloadN X0.here hx rfl (hb hby dle_0) rfl rfl k) ?_
  show own_G _ _ _ _ (s₁.setTop (mkF m 1 #[.val (.ref a), .val (.ref b), .unset] [(.ref a)]))
  obtain ⟨cl11, Ar11, -, Sz11, Nn11, -, -⟩ := id V_a
  refine own_via (fun _ k => X0.arraylength hx (by rw [e0]; exact Ar11.1) (State.isArrayOf_alike hZ.alike Ar11.2.1) (g := (mkF m 1 #[.val (.ref a), .val (.ref b), .unset] [(.ref a)])) rfl rfl (hb hby dle_1) _ k) ?_
  rw [len_of Sz11 Nn11]
  show own_G _ _ _ _ (s₁.setTop (mkF m 2 #[.val (.ref a), .val (.ref b), .unset] [(.int (1 : Int32))]))
  refine own_via (fun _ k => XS.aloadN X0.here hx rfl (hb hby dle_2) rfl rfl k) ?_
  show own_G _ _ _ _ (s₁.setTop (mkF m 3 #[.val (.ref a), .val (.ref b), .unset] [(.ref b), (.int (1 : Int32))]))
  obtain ⟨cl12, Ar12, -, Sz12, Nn12, -, -⟩ := id V_b
  refine own_via (fun _ k => X0.arraylength hx (by rw [e0]; exact Ar12.1) (State.isArrayOf_alike hZ.alike Ar12.2.1) (g := (mkF m 3 #[.val (.ref a), .val (.ref b), .unset] [(.ref b), (.int (1 : Int32))])) rfl rfl (hb hby dle_3) _ k) ?_
  rw [len_of Sz12 Nn12]
  show own_G _ _ _ _ (s₁.setTop (mkF m 4 #[.val (.ref a), .val (.ref b), .unset] [(.int (1 : Int32)), (.int (1 : Int32))]))
  refine own_via (fun _ k => XS.icmpNo X0.here hx rfl (hb hby dle_4) rfl (teq (by decide)).2 k) ?_
  show own_G _ _ _ _ (s₁.setTop (mkF m 7 #[.val (.ref a), .val (.ref b), .unset] []))
  refine own_via (fun _ k => XS.iconst X0.here hx rfl (hb hby dle_7) k) ?_
  show own_G _ _ _ _ (s₁.setTop (mkF m 8 #[.val (.ref a), .val (.ref b), .unset] [(.int (0 : Int32))]))
  refine own_via (fun _ k => XS.istoreN X0.here hx rfl (hb hby dle_8) rfl (l' := #[.val (.ref a), .val (.ref b), .val (.int (0 : Int32))]) rfl k) ?_
  show own_G _ _ _ _ (s₁.setTop (mkF m 9 #[.val (.ref a), .val (.ref b), .val (.int (0 : Int32))] []))
  refine own_via (fun _ k => XS.iloadN X0.here hx rfl (hb hby dle_9) rfl k) ?_
  show own_G _ _ _ _ (s₁.setTop (mkF m 10 #[.val (.ref a), .val (.ref b), .val (.int (0 : Int32))] [(.int (0 : Int32))]))
  refine own_via (fun _ k => XS.aloadN X0.here hx rfl (hb hby dle_10) rfl rfl k) ?_
  show own_G _ _ _ _ (s₁.setTop (mkF m 11 #[.val (.ref a), .val (.ref b), .val (.int (0 : Int32))] [(.ref a), (.int (0 : Int32))]))
  obtain ⟨cl13, Ar13, -, Sz13, Nn13, -, -⟩ := id V_a
  refine own_via (fun _ k => X0.arraylength hx (by rw [e0]; exact Ar13.1) (State.isArrayOf_alike hZ.alike Ar13.2.1) (g := (mkF m 11 #[.val (.ref a), .val (.ref b), .val (.int (0 : Int32))] [(.ref a), (.int (0 : Int32))])) rfl rfl (hb hby dle_11) _ k) ?_
  rw [len_of Sz13 Nn13]
  show own_G _ _ _ _ (s₁.setTop (mkF m 12 #[.val (.ref a), .val (.ref b), .val (.int (0 : Int32))] [(.int (1 : Int32)), (.int (0 : Int32))]))
  refine own_via (fun _ k => XS.icmpNo X0.here hx rfl (hb hby dle_12) rfl (tlt (by decide)).2.1 k) ?_
  show own_G _ _ _ _ (s₁.setTop (mkF m 15 #[.val (.ref a), .val (.ref b), .val (.int (0 : Int32))] []))
  refine own_via (fun _ k => XS.aloadN X0.here hx rfl (hb hby dle_15) rfl rfl k) ?_
  show own_G _ _ _ _ (s₁.setTop (mkF m 16 #[.val (.ref a), .val (.ref b), .val (.int (0 : Int32))] [(.ref a)]))
  refine own_via (fun _ k => XS.iloadN X0.here hx rfl (hb hby dle_16) rfl k) ?_
  show own_G _ _ _ _ (s₁.setTop (mkF m 17 #[.val (.ref a), .val (.ref b), .val (.int (0 : Int32))] [(.int (0 : Int32)), (.ref a)]))
  obtain ⟨cl14, Ar14, -, Sz14, Nn14, Hh14, -⟩ := id V_a
  have hin14 : ¬ ((0 : Int32) < 0 ∨ cl14.slots.size ≤ ((0 : Int32)).toNatClampNeg) := inb_of Sz14 ⟨by decide, by decide⟩
  have hat14 : cl14.slots[((0 : Int32)).toNatClampNeg]? = some (.int z1) := Has.at Hh14 hin14 rfl
  refine own_via (fun _ k => X0.baloadBytes hx (j := (0 : Int32)) (v := (.int z1)) (by rw [e0]; exact Ar14.1) (State.isArrayOf_alike hZ.alike Ar14.2.1) Ar14.2.2 hin14 hat14 (g := (mkF m 17 #[.val (.ref a), .val (.ref b), .val (.int (0 : Int32))] [(.int (0 : Int32)), (.ref a)])) rfl rfl (hb hby dle_17) _ k) ?_
  show own_G _ _ _ _ (s₁.setTop (mkF m 18 #[.val (.ref a), .val (.ref b), .val (.int (0 : Int32))] [(.int z1)]))
  refine own_via (fun _ k => XS.aloadN X0.here hx rfl (hb hby dle_18) rfl rfl k) ?_
  show own_G _ _ _ _ (s₁.setTop (mkF m 19 #[.val (.ref a), .val (.ref b), .val (.int (0 : Int32))] [(.ref b), (.int z1)]))
  refine own_via (fun _ k => XS.iloadN X0.here hx rfl (hb hby dle_19) rfl k) ?_
  show own_G _ _ _ _ (s₁.setTop (mkF m 20 #[.val (.ref a), .val (.ref b), .val (.int (0 : Int32))] [(.int (0 : Int32)), (.ref b), (.int z1)]))
  obtain ⟨cl15, Ar15, -, Sz15, Nn15, Hh15, -⟩ := id V_b
  have hin15 : ¬ ((0 : Int32) < 0 ∨ cl15.slots.size ≤ ((0 : Int32)).toNatClampNeg) := inb_of Sz15 ⟨by decide, by decide⟩
  have hat15 : cl15.slots[((0 : Int32)).toNatClampNeg]? = some (.int z2) := Has.at Hh15 hin15 rfl
  refine own_via (fun _ k => X0.baloadBytes hx (j := (0 : Int32)) (v := (.int z2)) (by rw [e0]; exact Ar15.1) (State.isArrayOf_alike hZ.alike Ar15.2.1) Ar15.2.2 hin15 hat15 (g := (mkF m 20 #[.val (.ref a), .val (.ref b), .val (.int (0 : Int32))] [(.int (0 : Int32)), (.ref b), (.int z1)])) rfl rfl (hb hby dle_20) _ k) ?_
  show own_G _ _ _ _ (s₁.setTop (mkF m 21 #[.val (.ref a), .val (.ref b), .val (.int (0 : Int32))] [(.int z2), (.int z1)]))
  by_cases hz : z1 = z2
  · refine own_via (fun _ k => XS.icmpYes X0.here hx rfl (pc0 := 21) (pc' := 26) rfl (hb hby dle_21) rfl (teq hz).1 (by decide) (by decide) k) ?_
    show own_G _ _ _ _ (s₁.setTop (mkF m 26 #[.val (.ref a), .val (.ref b), .val (.int (0 : Int32))] []))
    refine own_via (fun _ k => XS.iinc X0.here hx rfl (hb hby dle_26) rfl (l' := #[.val (.ref a), .val (.ref b), .val (.int ((0 : Int32) + (1 : Int32)))]) rfl k) ?_
    show own_G _ _ _ _ (s₁.setTop (mkF m 29 #[.val (.ref a), .val (.ref b), .val (.int ((0 : Int32) + (1 : Int32)))] []))
    refine own_via (fun _ k => XS.goto X0.here hx rfl (pc0 := 29) (pc' := 9) rfl (hb hby dle_29) (by decide) (by decide) k) ?_
    show own_G _ _ _ _ (s₁.setTop (mkF m 9 #[.val (.ref a), .val (.ref b), .val (.int ((0 : Int32) + (1 : Int32)))] []))
    refine own_via (fun _ k => XS.iloadN X0.here hx rfl (hb hby dle_9) rfl k) ?_
    show own_G _ _ _ _ (s₁.setTop (mkF m 10 #[.val (.ref a), .val (.ref b), .val (.int ((0 : Int32) + (1 : Int32)))] [(.int ((0 : Int32) + (1 : Int32)))]))
    refine own_via (fun _ k => XS.aloadN X0.here hx rfl (hb hby dle_10) rfl rfl k) ?_
    show own_G _ _ _ _ (s₁.setTop (mkF m 11 #[.val (.ref a), .val (.ref b), .val (.int ((0 : Int32) + (1 : Int32)))] [(.ref a), (.int ((0 : Int32) + (1 : Int32)))]))
    obtain ⟨cl16, Ar16, -, Sz16, Nn16, -, -⟩ := id V_a
    refine own_via (fun _ k => X0.arraylength hx (by rw [e0]; exact Ar16.1) (State.isArrayOf_alike hZ.alike Ar16.2.1) (g := (mkF m 11 #[.val (.ref a), .val (.ref b), .val (.int ((0 : Int32) + (1 : Int32)))] [(.ref a), (.int ((0 : Int32) + (1 : Int32)))])) rfl rfl (hb hby dle_11) _ k) ?_
    rw [len_of Sz16 Nn16]
    show own_G _ _ _ _ (s₁.setTop (mkF m 12 #[.val (.ref a), .val (.ref b), .val (.int ((0 : Int32) + (1 : Int32)))] [(.int (1 : Int32)), (.int ((0 : Int32) + (1 : Int32)))]))
    refine own_via (fun _ k => XS.icmpYes X0.here hx rfl (pc0 := 12) (pc' := 32) rfl (hb hby dle_12) rfl (flt (by decide)).2.1 (by decide) (by decide) k) ?_
    show own_G _ _ _ _ (s₁.setTop (mkF m 32 #[.val (.ref a), .val (.ref b), .val (.int ((0 : Int32) + (1 : Int32)))] []))
    refine own_via (fun _ k => XS.iconst X0.here hx rfl (hb hby dle_32) k) ?_
    show own_G _ _ _ _ (s₁.setTop (mkF m 33 #[.val (.ref a), .val (.ref b), .val (.int ((0 : Int32) + (1 : Int32)))] [(.int (1 : Int32))]))
    obtain ⟨fs, hr, hrun, hended, hW, hsame⟩ := X0.leave (v := some (.int (1 : Int32))) (fun h => by rw [Bd.returns] at h; cases h)
    refine ⟨_, _, ?_, hrun, hended, _, _, rfl, ?_, ⟨_, rfl⟩, hW, hsame.mono (by decide) (by decide)⟩
    · exact retN X0 hx (t := .boolean) Bd.returns (by simp) (hb hby dle_33) hr
    · show Qle Z a b k1 k2 z1 z2 h0 n0 _ s₁.heap _
      rw [e0]
      exact ⟨_, rfl, N0, rfl⟩
  · refine own_via (fun _ k => XS.icmpNo X0.here hx rfl (hb hby dle_21) rfl (feq hz).1 k) ?_
    show own_G _ _ _ _ (s₁.setTop (mkF m 24 #[.val (.ref a), .val (.ref b), .val (.int (0 : Int32))] []))
    refine own_via (fun _ k => XS.iconst X0.here hx rfl (hb hby dle_24) k) ?_
    show own_G _ _ _ _ (s₁.setTop (mkF m 25 #[.val (.ref a), .val (.ref b), .val (.int (0 : Int32))] [(.int (0 : Int32))]))
    obtain ⟨fs, hr, hrun, hended, hW, hsame⟩ := X0.leave (v := some (.int (0 : Int32))) (fun h => by rw [Bd.returns] at h; cases h)
    refine ⟨_, _, ?_, hrun, hended, _, _, rfl, ?_, ⟨_, rfl⟩, hW, hsame.mono (by decide) (by decide)⟩
    · exact retN X0 hx (t := .boolean) Bd.returns (by simp) (hb hby dle_25) hr
    · show Qle Z a b k1 k2 z1 z2 h0 n0 _ s₁.heap _
      rw [e0]
      exact ⟨_, rfl, N0, rfl⟩
theorem deq_0 : decode jdk_42_method_66_code 0 = .ok (.aload_n 0, 1) := by decide +kernel
theorem deq_1 : decode jdk_42_method_66_code 1 = .ok (.aload_n 1, 1) := by decide +kernel
theorem deq_2 : decode jdk_42_method_66_code 2 = .ok (.if_acmp .ne 5, 3) := by decide +kernel
theorem deq_5 : decode jdk_42_method_66_code 5 = .ok (.iconst 1, 1) := by decide +kernel
theorem deq_6 : decode jdk_42_method_66_code 6 = .ok (.ireturn, 1) := by decide +kernel
theorem deq_7 : decode jdk_42_method_66_code 7 = .ok (.aload_n 1, 1) := by decide +kernel
theorem deq_8 : decode jdk_42_method_66_code 8 = .ok (.instanceof 10, 3) := by decide +kernel
theorem deq_11 : decode jdk_42_method_66_code 11 = .ok (.ifCond .eq 43, 3) := by decide +kernel
theorem deq_14 : decode jdk_42_method_66_code 14 = .ok (.aload_n 1, 1) := by decide +kernel
theorem deq_15 : decode jdk_42_method_66_code 15 = .ok (.checkcast 10, 3) := by decide +kernel
theorem deq_18 : decode jdk_42_method_66_code 18 = .ok (.astore_n 2, 1) := by decide +kernel
theorem deq_19 : decode jdk_42_method_66_code 19 = .ok (.getstatic 38, 3) := by decide +kernel
theorem deq_22 : decode jdk_42_method_66_code 22 = .ok (.ifCond .eq 14, 3) := by decide +kernel
theorem deq_25 : decode jdk_42_method_66_code 25 = .ok (.aload_n 0, 1) := by decide +kernel
theorem deq_26 : decode jdk_42_method_66_code 26 = .ok (.getfield 15, 3) := by decide +kernel
theorem deq_29 : decode jdk_42_method_66_code 29 = .ok (.aload_n 2, 1) := by decide +kernel
theorem deq_30 : decode jdk_42_method_66_code 30 = .ok (.getfield 15, 3) := by decide +kernel
theorem deq_33 : decode jdk_42_method_66_code 33 = .ok (.if_icmp .ne 21, 3) := by decide +kernel
theorem deq_36 : decode jdk_42_method_66_code 36 = .ok (.aload_n 0, 1) := by decide +kernel
theorem deq_37 : decode jdk_42_method_66_code 37 = .ok (.getfield 9, 3) := by decide +kernel
theorem deq_40 : decode jdk_42_method_66_code 40 = .ok (.aload_n 2, 1) := by decide +kernel
theorem deq_41 : decode jdk_42_method_66_code 41 = .ok (.getfield 9, 3) := by decide +kernel
theorem deq_44 : decode jdk_42_method_66_code 44 = .ok (.invokestatic 541, 3) := by decide +kernel
theorem deq_47 : decode jdk_42_method_66_code 47 = .ok (.ifCond .eq 7, 3) := by decide +kernel
theorem deq_50 : decode jdk_42_method_66_code 50 = .ok (.iconst 1, 1) := by decide +kernel
theorem deq_51 : decode jdk_42_method_66_code 51 = .ok (.goto 4, 3) := by decide +kernel
theorem deq_54 : decode jdk_42_method_66_code 54 = .ok (.iconst 0, 1) := by decide +kernel
theorem deq_55 : decode jdk_42_method_66_code 55 = .ok (.ireturn, 1) := by decide +kernel
theorem pn_eq : plainFor (⟨"java/lang/String", "equals", "(Ljava/lang/Object;)Z"⟩ : MethodName) = true := by decide +kernel
theorem ef_eq (m : MethodId) (a : Addr) (b : Addr) : entryFrame m #[(.ref a), (.ref b)] 3 = (mkF m 0 #[.val (.ref a), .val (.ref b), .unset] []) := by first | (simp [entryFrame, mkF, argsToLocals, Value.category]; done) | rfl
def Qeq (Z : State) (a : Addr) (b : Addr) (t1 : Addr) (t2 : Addr) (k1 : ClassId) (k2 : ClassId) (z1 : Int32) (z2 : Int32) (cs : Int32) (h0 : Heap) (n0 : Nat) (v : Option Value) (h : Heap) (L : List Loc) : Prop := ∃ r : Int32, v = some (.int r) ∧ Fr n0 L ∧ h = h0
set_option maxRecDepth 65536 in
set_option maxHeartbeats 40000000 in
theorem rmeq (l : Launch) (Z : State) (a0 : Array Value) (hw : ∀ d ∈ tables_1, d.before a0 Z = true) (ws : List Jvm.Cond) (a : Addr) (b : Addr) (t1 : Addr) (t2 : Addr) (k1 : ClassId) (k2 : ClassId) (z1 : Int32) (z2 : Int32) (cs : Int32) (h0 : Heap) (n0 : Nat) (Z0 : n0 ≤ h0.size) (E_a : Exa Z h0 a "java/lang/String") (F_a_value : Fld Z h0 a "java/lang/String" "value" "[B" (.ref t1)) (F_a_coder : Fld Z h0 a "java/lang/String" "coder" "B" (.int ((0 : Int32).toInt8.toInt32))) (V_t1 : Arv Z h0 t1 k1 .byte (1 : Int32) ([(.int z1)] : List Value) (.int (0 : Int32))) (E_b : Exa Z h0 b "java/lang/String") (F_b_value : Fld Z h0 b "java/lang/String" "value" "[B" (.ref t2)) (F_b_coder : Fld Z h0 b "java/lang/String" "coder" "B" (.int ((0 : Int32).toInt8.toInt32))) (V_t2 : Arv Z h0 t2 k2 .byte (1 : Int32) ([(.int z2)] : List Value) (.int (0 : Int32))) (S_c : Sta Z h0 "java/lang/String" "COMPACT_STRINGS" "Z" (.int cs)) (hcs : ¬ cs = (0 : Int32)) :
    MetFree l (⟨"java/lang/String", "equals", "(Ljava/lang/Object;)Z"⟩ : MethodName) (head1 (Jvm.Cond.code (⟨"java/lang/String", "equals", "(Ljava/lang/Object;)Z"⟩ : MethodName) jdk_42_method_66_code 3 (some .boolean) :: ws) ({ frames := 1, cells := 0, slots := 0, locals := 30 } : Room)) (fun as' U => as' = #[(.ref a), (.ref b)] ∧ Z.Warmed39 U.vm ∧ U.heap = h0) (fun _ _ _ _ _ => True) (fun _ U o U' => ∃ v L, o = .returned v ∧ Qeq Z a b t1 t2 k1 k2 z1 z2 cs h0 n0 v U'.heap L ∧ FrameEnd U o U' L ({ frames := 1, cells := 0, slots := 0, locals := 30 } : Room).cells ({ frames := 1, cells := 0, slots := 0, locals := 30 } : Room).slots) := by
  refine MetFree.of_bodySF pn_eq hisR ?_
  intro p e s m args below meth c s₁ Bd hml0 hP hK
  obtain ⟨rfl, hZ, hh⟩ := hP
  have hx := Bd.exec
  have hby := Bd.bytes
  have hml : c.maxLocals = 3 := hml0
  have hown : s.vm.findClass "java/lang/String" = some m.cls := findClass_of_methodNamed Bd.named
  have hnm := (name_of_methodNamed Bd.named Bd.method).1
  have X0 : Stand p l e ({ frames := 1, cells := 0, slots := 0, locals := 30 } : Room) s m #[(.ref a), (.ref b)] below meth c s₁ [] 0 0 := Stand.of_body Bd
  have e0 : s₁.heap = h0 := by rw [← hh, Bd.state]; rfl
  have N0 := Fr.nil n0
  refine own_via (fun t k => castTop (ef_eq m a b) k) ?_
  show own_G _ _ _ _ (s₁.setTop (mkF m 0 #[.val (.ref a), .val (.ref b), .unset] []))
  refine own_via (fun _ k => XS.aloadN X0.here hx rfl (hb hby deq_0) rfl rfl k) ?_
  show own_G _ _ _ _ (s₁.setTop (mkF m 1 #[.val (.ref a), .val (.ref b), .unset] [(.ref a)]))
  refine own_via (fun _ k => XS.aloadN X0.here hx rfl (hb hby deq_1) rfl rfl k) ?_
  show own_G _ _ _ _ (s₁.setTop (mkF m 2 #[.val (.ref a), .val (.ref b), .unset] [(.ref b), (.ref a)]))
  by_cases hab : a = b
  · refine own_via (fun _ k => Jvm.RoadKit.acmp (g := (mkF m 2 #[.val (.ref a), .val (.ref b), .unset] [(.ref b), (.ref a)])) X0 hx rfl rfl rfl (pc0 := 2) (pc' := 5) (same := true) rfl (hb hby deq_2) rfl (decide_eq_true (congrArg Value.ref hab)) (by decide) (by decide) k) ?_
    show own_G _ _ _ _ (s₁.setTop (mkF m 5 #[.val (.ref a), .val (.ref b), .unset] []))
    refine own_via (fun _ k => XS.iconst X0.here hx rfl (hb hby deq_5) k) ?_
    show own_G _ _ _ _ (s₁.setTop (mkF m 6 #[.val (.ref a), .val (.ref b), .unset] [(.int (1 : Int32))]))
    obtain ⟨fs, hr, hrun, hended, hW, hsame⟩ := X0.leave (v := some (.int (1 : Int32))) (fun h => by rw [Bd.returns] at h; cases h)
    refine ⟨_, _, ?_, hrun, hended, _, _, rfl, ?_, ⟨_, rfl⟩, hW, hsame.mono (by decide) (by decide)⟩
    · exact retN X0 hx (t := .boolean) Bd.returns (by simp) (hb hby deq_6) hr
    · show Qeq Z a b t1 t2 k1 k2 z1 z2 cs h0 n0 _ s₁.heap _
      rw [e0]
      exact ⟨_, rfl, N0, rfl⟩
  · refine own_via (fun _ k => Jvm.RoadKit.acmp (g := (mkF m 2 #[.val (.ref a), .val (.ref b), .unset] [(.ref b), (.ref a)])) X0 hx rfl rfl rfl (pc0 := 2) (pc' := 7) (same := false) rfl (hb hby deq_2) rfl (decide_eq_false fun q => hab (Value.ref.inj q)) (by decide) (by decide) k) ?_
    show own_G _ _ _ _ (s₁.setTop (mkF m 7 #[.val (.ref a), .val (.ref b), .unset] []))
    refine own_via (fun _ k => XS.aloadN X0.here hx rfl (hb hby deq_7) rfl rfl k) ?_
    show own_G _ _ _ _ (s₁.setTop (mkF m 8 #[.val (.ref a), .val (.ref b), .unset] [(.ref b)]))
    obtain ⟨T17, X17, e17, st17⟩ := instY X0 hx hZ hown (hw _ (List.mem_of_getElem? (i := 9) rfl)) e0 (Ins.self E_b) (g := (mkF m 8 #[.val (.ref a), .val (.ref b), .unset] [(.ref b)])) rfl rfl (hb hby deq_8)
    refine own_via st17 ?_
    show own_G _ _ _ _ (T17.setTop (mkF m 11 #[.val (.ref a), .val (.ref b), .unset] [(.int (1 : Int32))]))
    refine own_via (fun _ k => XS.ifNo X17.here hx rfl (hb hby deq_11) rfl ((if0 _ _).trans (feq (by decide)).1) k) ?_
    show own_G _ _ _ _ (T17.setTop (mkF m 14 #[.val (.ref a), .val (.ref b), .unset] []))
    refine own_via (fun _ k => XS.aloadN X17.here hx rfl (hb hby deq_14) rfl rfl k) ?_
    show own_G _ _ _ _ (T17.setTop (mkF m 15 #[.val (.ref a), .val (.ref b), .unset] [(.ref b)]))
    obtain ⟨T18, X18, e18, st18⟩ := castY X17 hx hZ hown (hw _ (List.mem_of_getElem? (i := 9) rfl)) e17 (Ins.self E_b) (g := (mkF m 15 #[.val (.ref a), .val (.ref b), .unset] [(.ref b)])) rfl rfl (hb hby deq_15)
    refine own_via st18 ?_
    show own_G _ _ _ _ (T18.setTop (mkF m 18 #[.val (.ref a), .val (.ref b), .unset] [(.ref b)]))
    refine own_via (fun _ k => XS.astoreN X18.here hx rfl (hb hby deq_18) rfl rfl (l' := #[.val (.ref a), .val (.ref b), .val (.ref b)]) rfl k) ?_
    show own_G _ _ _ _ (T18.setTop (mkF m 19 #[.val (.ref a), .val (.ref b), .val (.ref b)] []))
    obtain ⟨T19, X19, e19, st19⟩ := getS2 X18 hx hZ hown (host := "") (Or.inl (hw _ (List.mem_of_getElem? (i := 4) rfl))) Via.refl e18 S_c (g := (mkF m 19 #[.val (.ref a), .val (.ref b), .val (.ref b)] [])) rfl (hb hby deq_19)
    refine own_via st19 ?_
    show own_G _ _ _ _ (T19.setTop (mkF m 22 #[.val (.ref a), .val (.ref b), .val (.ref b)] [(.int cs)]))
    refine own_via (fun _ k => XS.ifNo X19.here hx rfl (hb hby deq_22) rfl ((if0 _ _).trans (feq hcs).1) k) ?_
    show own_G _ _ _ _ (T19.setTop (mkF m 25 #[.val (.ref a), .val (.ref b), .val (.ref b)] []))
    refine own_via (fun _ k => XS.aloadN X19.here hx rfl (hb hby deq_25) rfl rfl k) ?_
    show own_G _ _ _ _ (T19.setTop (mkF m 26 #[.val (.ref a), .val (.ref b), .val (.ref b)] [(.ref a)]))
    obtain ⟨T20, X20, e20, st20⟩ := getF X19 hx hZ hown (host := "") (Or.inl (hw _ (List.mem_of_getElem? (i := 24) rfl))) Via.refl e19 F_a_coder (g := (mkF m 26 #[.val (.ref a), .val (.ref b), .val (.ref b)] [(.ref a)])) rfl rfl (hb hby deq_26)
    refine own_via st20 ?_
    show own_G _ _ _ _ (T20.setTop (mkF m 29 #[.val (.ref a), .val (.ref b), .val (.ref b)] [(.int ((0 : Int32).toInt8.toInt32))]))
    refine own_via (fun _ k => XS.aloadN X20.here hx rfl (hb hby deq_29) rfl rfl k) ?_
    show own_G _ _ _ _ (T20.setTop (mkF m 30 #[.val (.ref a), .val (.ref b), .val (.ref b)] [(.ref b), (.int ((0 : Int32).toInt8.toInt32))]))
    obtain ⟨T21, X21, e21, st21⟩ := getF X20 hx hZ hown (host := "") (Or.inl (hw _ (List.mem_of_getElem? (i := 24) rfl))) Via.refl e20 F_b_coder (g := (mkF m 30 #[.val (.ref a), .val (.ref b), .val (.ref b)] [(.ref b), (.int ((0 : Int32).toInt8.toInt32))])) rfl rfl (hb hby deq_30)
    refine own_via st21 ?_
    show own_G _ _ _ _ (T21.setTop (mkF m 33 #[.val (.ref a), .val (.ref b), .val (.ref b)] [(.int ((0 : Int32).toInt8.toInt32)), (.int ((0 : Int32).toInt8.toInt32))]))
    refine own_via (fun _ k => XS.icmpNo X21.here hx rfl (hb hby deq_33) rfl (teq rfl).2 k) ?_
    show own_G _ _ _ _ (T21.setTop (mkF m 36 #[.val (.ref a), .val (.ref b), .val (.ref b)] []))
    refine own_via (fun _ k => XS.aloadN X21.here hx rfl (hb hby deq_36) rfl rfl k) ?_
    show own_G _ _ _ _ (T21.setTop (mkF m 37 #[.val (.ref a), .val (.ref b), .val (.ref b)] [(.ref a)]))
    obtain ⟨T22, X22, e22, st22⟩ := getF X21 hx hZ hown (host := "") (Or.inl (hw _ (List.mem_of_getElem? (i := 22) rfl))) Via.refl e21 F_a_value (g := (mkF m 37 #[.val (.ref a), .val (.ref b), .val (.ref b)] [(.ref a)])) rfl rfl (hb hby deq_37)
    refine own_via st22 ?_
    show own_G _ _ _ _ (T22.setTop (mkF m 40 #[.val (.ref a), .val (.ref b), .val (.ref b)] [(.ref t1)]))
    refine own_via (fun _ k => XS.aloadN X22.here hx rfl (hb hby deq_40) rfl rfl k) ?_
    show own_G _ _ _ _ (T22.setTop (mkF m 41 #[.val (.ref a), .val (.ref b), .val (.ref b)] [(.ref b), (.ref t1)]))
    obtain ⟨T23, X23, e23, st23⟩ := getF X22 hx hZ hown (host := "") (Or.inl (hw _ (List.mem_of_getElem? (i := 22) rfl))) Via.refl e22 F_b_value (g := (mkF m 41 #[.val (.ref a), .val (.ref b), .val (.ref b)] [(.ref b), (.ref t1)])) rfl rfl (hb hby deq_41)
    refine own_via st23 ?_
    show own_G _ _ _ _ (T23.setTop (mkF m 44 #[.val (.ref a), .val (.ref b), .val (.ref b)] [(.ref t2), (.ref t1)]))
    obtain ⟨_, _, ⟨T24, L24, k24, n24⟩, -, X24, ⟨Lc24, hQ24, l24, y24, z24⟩, st24⟩ := Jvm.LawKit.callS X23 hx (y := (⟨"java/lang/StringLatin1", "equals", "([B[B)Z"⟩ : MethodName)) hown (mvT hZ (hw _ (List.mem_of_getElem? (i := 57) rfl))) (mvT hZ (hw _ (List.mem_of_getElem? (i := 58) rfl))) (mvT hZ (hw _ (List.mem_of_getElem? (i := 7) rfl))) (mvT hZ (hw _ (List.mem_of_getElem? (i := 59) rfl))) (by decide) (backOf (W := 0) (rmle l Z a0 hw [] t1 t2 k1 k2 z1 z2 h0 n0 Z0 V_t1 V_t2) hZ (hw _ (List.mem_of_getElem? (i := 59) rfl)) (hw _ (List.mem_of_getElem? (i := 7) rfl)) (by decide) (by decide)) (g := (mkF m 44 #[.val (.ref a), .val (.ref b), .val (.ref b)] [(.ref t2), (.ref t1)])) rfl (by rw [hml]; rfl) (argsL := [(.ref t1), (.ref t2)]) (rest := []) (lenOf pd_3 rfl) rfl (by show 2 * 0 + _ ≤ _; exact Nat.le_of_eq rfl) (hb hby deq_44) (fun _ _ => ⟨rfl, e23, Nat.le_of_ble_eq_true rfl, Nat.le_of_ble_eq_true rfl⟩)
    dsimp only [Pt.U, Pt.locs, Pt.cells, Pt.slots] at X24 l24 y24 z24 st24 hQ24
    subst l24 y24 z24
    obtain ⟨r, rfl, N24q, e24⟩ := hQ24
    have N24 := Fr.app N0 N24q
    refine own_via st24 ?_
    show own_G _ _ _ _ (T24.setTop (mkF m 47 #[.val (.ref a), .val (.ref b), .val (.ref b)] [(.int r)]))
    by_cases hr : r = (0 : Int32)
    · refine own_via (fun _ k => XS.ifYes X24.here hx rfl (pc0 := 47) (pc' := 54) rfl (hb hby deq_47) rfl ((if0 _ _).trans (teq hr).1) (by decide) (by decide) k) ?_
      show own_G _ _ _ _ (T24.setTop (mkF m 54 #[.val (.ref a), .val (.ref b), .val (.ref b)] []))
      refine own_via (fun _ k => XS.iconst X24.here hx rfl (hb hby deq_54) k) ?_
      show own_G _ _ _ _ (T24.setTop (mkF m 55 #[.val (.ref a), .val (.ref b), .val (.ref b)] [(.int (0 : Int32))]))
      obtain ⟨fs, hr, hrun, hended, hW, hsame⟩ := X24.leave (v := some (.int (0 : Int32))) (fun h => by rw [Bd.returns] at h; cases h)
      refine ⟨_, _, ?_, hrun, hended, _, _, rfl, ?_, ⟨_, rfl⟩, hW, hsame.mono (by decide) (by decide)⟩
      · exact retN X24 hx (t := .boolean) Bd.returns (by simp) (hb hby deq_55) hr
      · show Qeq Z a b t1 t2 k1 k2 z1 z2 cs h0 n0 _ T24.heap _
        rw [e24]
        exact ⟨_, rfl, N24, rfl⟩
    · refine own_via (fun _ k => XS.ifNo X24.here hx rfl (hb hby deq_47) rfl ((if0 _ _).trans (feq hr).1) k) ?_
      show own_G _ _ _ _ (T24.setTop (mkF m 50 #[.val (.ref a), .val (.ref b), .val (.ref b)] []))
      refine own_via (fun _ k => XS.iconst X24.here hx rfl (hb hby deq_50) k) ?_
      show own_G _ _ _ _ (T24.setTop (mkF m 51 #[.val (.ref a), .val (.ref b), .val (.ref b)] [(.int (1 : Int32))]))
      refine own_via (fun _ k => XS.goto X24.here hx rfl (pc0 := 51) (pc' := 55) rfl (hb hby deq_51) (by decide) (by decide) k) ?_
      show own_G _ _ _ _ (T24.setTop (mkF m 55 #[.val (.ref a), .val (.ref b), .val (.ref b)] [(.int (1 : Int32))]))
      obtain ⟨fs, hr, hrun, hended, hW, hsame⟩ := X24.leave (v := some (.int (1 : Int32))) (fun h => by rw [Bd.returns] at h; cases h)
      refine ⟨_, _, ?_, hrun, hended, _, _, rfl, ?_, ⟨_, rfl⟩, hW, hsame.mono (by decide) (by decide)⟩
      · exact retN X24 hx (t := .boolean) Bd.returns (by simp) (hb hby deq_55) hr
      · show Qeq Z a b t1 t2 k1 k2 z1 z2 cs h0 n0 _ T24.heap _
        rw [e24]
        exact ⟨_, rfl, N24, rfl⟩
theorem dab_0 : decode jdk_29_method_61_code 0 = .ok (.lload_n 0, 1) := by decide +kernel
theorem dab_1 : decode jdk_29_method_61_code 1 = .ok (.lconst 0, 1) := by decide +kernel
theorem dab_2 : decode jdk_29_method_61_code 2 = .ok (.lcmp, 1) := by decide +kernel
theorem dab_3 : decode jdk_29_method_61_code 3 = .ok (.ifCond .ge 8, 3) := by decide +kernel
theorem dab_6 : decode jdk_29_method_61_code 6 = .ok (.lload_n 0, 1) := by decide +kernel
theorem dab_7 : decode jdk_29_method_61_code 7 = .ok (.lneg, 1) := by decide +kernel
theorem dab_8 : decode jdk_29_method_61_code 8 = .ok (.goto 4, 3) := by decide +kernel
theorem dab_11 : decode jdk_29_method_61_code 11 = .ok (.lload_n 0, 1) := by decide +kernel
theorem dab_12 : decode jdk_29_method_61_code 12 = .ok (.lreturn, 1) := by decide +kernel
theorem ef_ab (m : MethodId) (q1 : Int64) : entryFrame m #[(.long q1)] 2 = (mkF m 0 #[.val (.long q1), .second] []) := by first | (simp [entryFrame, mkF, argsToLocals, Value.category]; done) | rfl
def Qab (Z : State) (q1 : Int64) (h0 : Heap) (n0 : Nat) (v : Option Value) (h : Heap) (L : List Loc) : Prop := v = some (.long q1) ∧ Fr n0 L ∧ h = h0
set_option maxRecDepth 65536 in
set_option maxHeartbeats 40000000 in
theorem rmab (l : Launch) (Z : State) (a0 : Array Value) (hw : ∀ d ∈ tables_1, d.before a0 Z = true) (ws : List Jvm.Cond) (q1 : Int64) (h0 : Heap) (n0 : Nat) (Z0 : n0 ≤ h0.size) (hq : ¬ q1 < (0 : Int64)) :
    MetFree l (⟨"java/lang/Math", "abs", "(J)J"⟩ : MethodName) (head1 (Jvm.Cond.code (⟨"java/lang/Math", "abs", "(J)J"⟩ : MethodName) jdk_29_method_61_code 2 (some .long) :: ws) ({ frames := 0, cells := 0, slots := 0, locals := 0 } : Room)) (fun as' U => as' = #[(.long q1)] ∧ Z.Warmed39 U.vm ∧ U.heap = h0) (fun _ _ _ _ _ => True) (fun _ U o U' => ∃ v L, o = .returned v ∧ Qab Z q1 h0 n0 v U'.heap L ∧ FrameEnd U o U' L ({ frames := 0, cells := 0, slots := 0, locals := 0 } : Room).cells ({ frames := 0, cells := 0, slots := 0, locals := 0 } : Room).slots) := by
  refine MetFree.of_bodySF (Jvm.Free.JP.mathPlain rfl (by decide +kernel)) hisR ?_
  intro p e s m args below meth c s₁ Bd hml0 hP hK
  obtain ⟨rfl, hZ, hh⟩ := hP
  have hx := Bd.exec
  have hby := Bd.bytes
  have hml : c.maxLocals = 2 := hml0
  have hown : s.vm.findClass "java/lang/Math" = some m.cls := findClass_of_methodNamed Bd.named
  have hnm := (name_of_methodNamed Bd.named Bd.method).1
  have X0 : Stand p l e ({ frames := 0, cells := 0, slots := 0, locals := 0 } : Room) s m #[(.long q1)] below meth c s₁ [] 0 0 := Stand.of_body Bd
  have e0 : s₁.heap = h0 := by rw [← hh, Bd.state]; rfl
  have N0 := Fr.nil n0
  refine own_via (fun t k => castTop (ef_ab m q1) k) ?_
  show own_G _ _ _ _ (s₁.setTop (mkF m 0 #[.val (.long q1), .second] []))
  refine own_via (fun _ k => XS.lloadN X0.here hx rfl (hb hby dab_0) rfl k) ?_
  show own_G _ _ _ _ (s₁.setTop (mkF m 1 #[.val (.long q1), .second] [(.long q1)]))
  refine own_via (fun _ k => XS.lconst X0.here hx rfl (hb hby dab_1) k) ?_
  show own_G _ _ _ _ (s₁.setTop (mkF m 2 #[.val (.long q1), .second] [(.long (0 : Int64)), (.long q1)]))
  refine own_via (fun _ k => XS.lcmp X0.here hx rfl (hb hby dab_2) rfl k) ?_
  show own_G _ _ _ _ (s₁.setTop (mkF m 3 #[.val (.long q1), .second] [(.int (lcmpW q1 (0 : Int64)))]))
  refine own_via (fun _ k => XS.ifYes X0.here hx rfl (pc0 := 3) (pc' := 11) rfl (hb hby dab_3) rfl ((if0 _ _).trans (flt (fun z => hq ((lw_lt _ _).mp z))).2.1) (by decide) (by decide) k) ?_
  show own_G _ _ _ _ (s₁.setTop (mkF m 11 #[.val (.long q1), .second] []))
  refine own_via (fun _ k => XS.lloadN X0.here hx rfl (hb hby dab_11) rfl k) ?_
  show own_G _ _ _ _ (s₁.setTop (mkF m 12 #[.val (.long q1), .second] [(.long q1)]))
  obtain ⟨fs, hr, hrun, hended, hW, hsame⟩ := X0.leave (v := some (.long q1)) (fun h => by rw [Bd.returns] at h; cases h)
  refine ⟨_, _, ?_, hrun, hended, _, _, rfl, ?_, ⟨_, rfl⟩, hW, hsame.mono (by decide) (by decide)⟩
  · jvm_step X0.here [X0.here.top, hx, (hb hby dab_12), X0.method', Bd.returns, narrow]
    first | (intro acts; rw [hr _ acts rfl rfl rfl]) | rw [hr _ _ rfl rfl rfl]
    exact Steps.refl _
  · show Qab Z q1 h0 n0 _ s₁.heap _
    rw [e0]
    exact ⟨rfl, N0, rfl⟩
theorem dmx_0 : decode jdk_29_method_30_code 0 = .ok (.lload_n 0, 1) := by decide +kernel
theorem dmx_1 : decode jdk_29_method_30_code 1 = .ok (.lload_n 2, 1) := by decide +kernel
theorem dmx_2 : decode jdk_29_method_30_code 2 = .ok (.lmul, 1) := by decide +kernel
theorem dmx_3 : decode jdk_29_method_30_code 3 = .ok (.lstore 4, 2) := by decide +kernel
theorem dmx_5 : decode jdk_29_method_30_code 5 = .ok (.lload_n 0, 1) := by decide +kernel
theorem dmx_6 : decode jdk_29_method_30_code 6 = .ok (.invokestatic 122, 3) := by decide +kernel
theorem dmx_9 : decode jdk_29_method_30_code 9 = .ok (.lstore 6, 2) := by decide +kernel
theorem dmx_11 : decode jdk_29_method_30_code 11 = .ok (.lload_n 2, 1) := by decide +kernel
theorem dmx_12 : decode jdk_29_method_30_code 12 = .ok (.invokestatic 122, 3) := by decide +kernel
theorem dmx_15 : decode jdk_29_method_30_code 15 = .ok (.lstore 8, 2) := by decide +kernel
theorem dmx_17 : decode jdk_29_method_30_code 17 = .ok (.lload 6, 2) := by decide +kernel
theorem dmx_19 : decode jdk_29_method_30_code 19 = .ok (.lload 8, 2) := by decide +kernel
theorem dmx_21 : decode jdk_29_method_30_code 21 = .ok (.lor, 1) := by decide +kernel
theorem dmx_22 : decode jdk_29_method_30_code 22 = .ok (.bipush 31, 2) := by decide +kernel
theorem dmx_24 : decode jdk_29_method_30_code 24 = .ok (.lushr, 1) := by decide +kernel
theorem dmx_25 : decode jdk_29_method_30_code 25 = .ok (.lconst 0, 1) := by decide +kernel
theorem dmx_26 : decode jdk_29_method_30_code 26 = .ok (.lcmp, 1) := by decide +kernel
theorem dmx_27 : decode jdk_29_method_30_code 27 = .ok (.ifCond .eq 44, 3) := by decide +kernel
theorem dmx_71 : decode jdk_29_method_30_code 71 = .ok (.lload 4, 2) := by decide +kernel
theorem dmx_73 : decode jdk_29_method_30_code 73 = .ok (.lreturn, 1) := by decide +kernel
theorem ef_mx (m : MethodId) (q1 : Int64) (q2 : Int64) : entryFrame m #[(.long q1), (.long q2)] 10 = (mkF m 0 #[.val (.long q1), .second, .val (.long q2), .second, .unset, .unset, .unset, .unset, .unset, .unset] []) := by first | (simp [entryFrame, mkF, argsToLocals, Value.category]; done) | rfl
def Qmx (Z : State) (q1 : Int64) (q2 : Int64) (h0 : Heap) (n0 : Nat) (v : Option Value) (h : Heap) (L : List Loc) : Prop := v = some (.long (q1 * q2)) ∧ Fr n0 L ∧ h = h0
set_option maxRecDepth 65536 in
set_option maxHeartbeats 40000000 in
theorem rmmx (l : Launch) (Z : State) (a0 : Array Value) (hw : ∀ d ∈ tables_1, d.before a0 Z = true) (ws : List Jvm.Cond) (q1 : Int64) (q2 : Int64) (h0 : Heap) (n0 : Nat) (Z0 : n0 ≤ h0.size) (hq1 : ¬ q1 < (0 : Int64)) (hq2 : ¬ q2 < (0 : Int64)) (hq3 : (((q1 ||| q2).toUInt64 >>> ((31 : Int32) &&& 0x3f).toInt64.toUInt64).toInt64) = (0 : Int64)) :
    MetFree l (⟨"java/lang/Math", "multiplyExact", "(JJ)J"⟩ : MethodName) (head1 (Jvm.Cond.code (⟨"java/lang/Math", "multiplyExact", "(JJ)J"⟩ : MethodName) jdk_29_method_30_code 10 (some .long) :: ws) ({ frames := 1, cells := 0, slots := 0, locals := 20 } : Room)) (fun as' U => as' = #[(.long q1), (.long q2)] ∧ Z.Warmed39 U.vm ∧ U.heap = h0) (fun _ _ _ _ _ => True) (fun _ U o U' => ∃ v L, o = .returned v ∧ Qmx Z q1 q2 h0 n0 v U'.heap L ∧ FrameEnd U o U' L ({ frames := 1, cells := 0, slots := 0, locals := 20 } : Room).cells ({ frames := 1, cells := 0, slots := 0, locals := 20 } : Room).slots) := by
  refine MetFree.of_bodySF (Jvm.Free.JP.mathPlain rfl (by decide +kernel)) hisR ?_
  intro p e s m args below meth c s₁ Bd hml0 hP hK
  obtain ⟨rfl, hZ, hh⟩ := hP
  have hx := Bd.exec
  have hby := Bd.bytes
  have hml : c.maxLocals = 10 := hml0
  have hown : s.vm.findClass "java/lang/Math" = some m.cls := findClass_of_methodNamed Bd.named
  have hnm := (name_of_methodNamed Bd.named Bd.method).1
  have X0 : Stand p l e ({ frames := 1, cells := 0, slots := 0, locals := 20 } : Room) s m #[(.long q1), (.long q2)] below meth c s₁ [] 0 0 := Stand.of_body Bd
  have e0 : s₁.heap = h0 := by rw [← hh, Bd.state]; rfl
  have N0 := Fr.nil n0
  refine own_via (fun t k => castTop (ef_mx m q1 q2) k) ?_
  show own_G _ _ _ _ (s₁.setTop (mkF m 0 #[.val (.long q1), .second, .val (.long q2), .second, .unset, .unset, .unset, .unset, .unset, .unset] []))
  refine own_via (fun _ k => XS.lloadN X0.here hx rfl (hb hby dmx_0) rfl k) ?_
  show own_G _ _ _ _ (s₁.setTop (mkF m 1 #[.val (.long q1), .second, .val (.long q2), .second, .unset, .unset, .unset, .unset, .unset, .unset] [(.long q1)]))
  refine own_via (fun _ k => XS.lloadN X0.here hx rfl (hb hby dmx_1) rfl k) ?_
  show own_G _ _ _ _ (s₁.setTop (mkF m 2 #[.val (.long q1), .second, .val (.long q2), .second, .unset, .unset, .unset, .unset, .unset, .unset] [(.long q2), (.long q1)]))
  refine own_via (fun _ k => XS.lmul X0.here hx rfl (hb hby dmx_2) rfl k) ?_
  show own_G _ _ _ _ (s₁.setTop (mkF m 3 #[.val (.long q1), .second, .val (.long q2), .second, .unset, .unset, .unset, .unset, .unset, .unset] [(.long (q1 * q2))]))
  refine own_via (fun _ k => XS.lstore X0.here hx rfl (hb hby dmx_3) rfl (l' := #[.val (.long q1), .second, .val (.long q2), .second, .val (.long (q1 * q2)), .second, .unset, .unset, .unset, .unset]) rfl k) ?_
  show own_G _ _ _ _ (s₁.setTop (mkF m 5 #[.val (.long q1), .second, .val (.long q2), .second, .val (.long (q1 * q2)), .second, .unset, .unset, .unset, .unset] []))
  refine own_via (fun _ k => XS.lloadN X0.here hx rfl (hb hby dmx_5) rfl k) ?_
  show own_G _ _ _ _ (s₁.setTop (mkF m 6 #[.val (.long q1), .second, .val (.long q2), .second, .val (.long (q1 * q2)), .second, .unset, .unset, .unset, .unset] [(.long q1)]))
  obtain ⟨_, _, ⟨T25, L25, k25, n25⟩, -, X25, ⟨Lc25, hQ25, l25, y25, z25⟩, st25⟩ := Jvm.LawKit.callS X0 hx (y := (⟨"java/lang/Math", "abs", "(J)J"⟩ : MethodName)) hown (mvT hZ (hw _ (List.mem_of_getElem? (i := 77) rfl))) (mvT hZ (hw _ (List.mem_of_getElem? (i := 78) rfl))) (mvT hZ (hw _ (List.mem_of_getElem? (i := 75) rfl))) (mvT hZ (hw _ (List.mem_of_getElem? (i := 79) rfl))) (by decide) (backOf (W := 0) (rmab l Z a0 hw [] q1 h0 n0 Z0 hq1) hZ (hw _ (List.mem_of_getElem? (i := 79) rfl)) (hw _ (List.mem_of_getElem? (i := 75) rfl)) (by decide) (by decide)) (g := (mkF m 6 #[.val (.long q1), .second, .val (.long q2), .second, .val (.long (q1 * q2)), .second, .unset, .unset, .unset, .unset] [(.long q1)])) rfl (by rw [hml]; rfl) (argsL := [(.long q1)]) (rest := []) (lenOf pd_4 rfl) rfl (by show 2 * 0 + _ ≤ _; exact Nat.le_of_eq rfl) (hb hby dmx_6) (fun _ _ => ⟨rfl, e0, Nat.le_of_ble_eq_true rfl, Nat.le_of_ble_eq_true rfl⟩)
  dsimp only [Pt.U, Pt.locs, Pt.cells, Pt.slots] at X25 l25 y25 z25 st25 hQ25
  subst l25 y25 z25
  obtain ⟨rfl, N25q, e25⟩ := hQ25
  have N25 := Fr.app N0 N25q
  refine own_via st25 ?_
  show own_G _ _ _ _ (T25.setTop (mkF m 9 #[.val (.long q1), .second, .val (.long q2), .second, .val (.long (q1 * q2)), .second, .unset, .unset, .unset, .unset] [(.long q1)]))
  refine own_via (fun _ k => XS.lstore X25.here hx rfl (hb hby dmx_9) rfl (l' := #[.val (.long q1), .second, .val (.long q2), .second, .val (.long (q1 * q2)), .second, .val (.long q1), .second, .unset, .unset]) rfl k) ?_
  show own_G _ _ _ _ (T25.setTop (mkF m 11 #[.val (.long q1), .second, .val (.long q2), .second, .val (.long (q1 * q2)), .second, .val (.long q1), .second, .unset, .unset] []))
  refine own_via (fun _ k => XS.lloadN X25.here hx rfl (hb hby dmx_11) rfl k) ?_
  show own_G _ _ _ _ (T25.setTop (mkF m 12 #[.val (.long q1), .second, .val (.long q2), .second, .val (.long (q1 * q2)), .second, .val (.long q1), .second, .unset, .unset] [(.long q2)]))
  obtain ⟨_, _, ⟨T26, L26, k26, n26⟩, -, X26, ⟨Lc26, hQ26, l26, y26, z26⟩, st26⟩ := Jvm.LawKit.callS X25 hx (y := (⟨"java/lang/Math", "abs", "(J)J"⟩ : MethodName)) hown (mvT hZ (hw _ (List.mem_of_getElem? (i := 77) rfl))) (mvT hZ (hw _ (List.mem_of_getElem? (i := 78) rfl))) (mvT hZ (hw _ (List.mem_of_getElem? (i := 75) rfl))) (mvT hZ (hw _ (List.mem_of_getElem? (i := 79) rfl))) (by decide) (backOf (W := 0) (rmab l Z a0 hw [] q2 h0 n0 Z0 hq2) hZ (hw _ (List.mem_of_getElem? (i := 79) rfl)) (hw _ (List.mem_of_getElem? (i := 75) rfl)) (by decide) (by decide)) (g := (mkF m 12 #[.val (.long q1), .second, .val (.long q2), .second, .val (.long (q1 * q2)), .second, .val (.long q1), .second, .unset, .unset] [(.long q2)])) rfl (by rw [hml]; rfl) (argsL := [(.long q2)]) (rest := []) (lenOf pd_4 rfl) rfl (by show 2 * 0 + _ ≤ _; exact Nat.le_of_eq rfl) (hb hby dmx_12) (fun _ _ => ⟨rfl, e25, Nat.le_of_ble_eq_true rfl, Nat.le_of_ble_eq_true rfl⟩)
  dsimp only [Pt.U, Pt.locs, Pt.cells, Pt.slots] at X26 l26 y26 z26 st26 hQ26
  subst l26 y26 z26
  obtain ⟨rfl, N26q, e26⟩ := hQ26
  have N26 := Fr.app N25 N26q
  refine own_via st26 ?_
  show own_G _ _ _ _ (T26.setTop (mkF m 15 #[.val (.long q1), .second, .val (.long q2), .second, .val (.long (q1 * q2)), .second, .val (.long q1), .second, .unset, .unset] [(.long q2)]))
  refine own_via (fun _ k => XS.lstore X26.here hx rfl (hb hby dmx_15) rfl (l' := #[.val (.long q1), .second, .val (.long q2), .second, .val (.long (q1 * q2)), .second, .val (.long q1), .second, .val (.long q2), .second]) rfl k) ?_
  show own_G _ _ _ _ (T26.setTop (mkF m 17 #[.val (.long q1), .second, .val (.long q2), .second, .val (.long (q1 * q2)), .second, .val (.long q1), .second, .val (.long q2), .second] []))
  refine own_via (fun _ k => XS.lload X26.here hx rfl (hb hby dmx_17) rfl k) ?_
  show own_G _ _ _ _ (T26.setTop (mkF m 19 #[.val (.long q1), .second, .val (.long q2), .second, .val (.long (q1 * q2)), .second, .val (.long q1), .second, .val (.long q2), .second] [(.long q1)]))
  refine own_via (fun _ k => XS.lload X26.here hx rfl (hb hby dmx_19) rfl k) ?_
  show own_G _ _ _ _ (T26.setTop (mkF m 21 #[.val (.long q1), .second, .val (.long q2), .second, .val (.long (q1 * q2)), .second, .val (.long q1), .second, .val (.long q2), .second] [(.long q2), (.long q1)]))
  refine own_via (fun _ k => XS.lor X26.here hx rfl (hb hby dmx_21) rfl k) ?_
  show own_G _ _ _ _ (T26.setTop (mkF m 22 #[.val (.long q1), .second, .val (.long q2), .second, .val (.long (q1 * q2)), .second, .val (.long q1), .second, .val (.long q2), .second] [(.long (q1 ||| q2))]))
  refine own_via (fun _ k => XS.bipush X26.here hx rfl (hb hby dmx_22) k) ?_
  show own_G _ _ _ _ (T26.setTop (mkF m 24 #[.val (.long q1), .second, .val (.long q2), .second, .val (.long (q1 * q2)), .second, .val (.long q1), .second, .val (.long q2), .second] [(.int (31 : Int32)), (.long (q1 ||| q2))]))
  refine own_via (fun _ k => XS.lushr X26.here hx rfl (hb hby dmx_24) rfl k) ?_
  show own_G _ _ _ _ (T26.setTop (mkF m 25 #[.val (.long q1), .second, .val (.long q2), .second, .val (.long (q1 * q2)), .second, .val (.long q1), .second, .val (.long q2), .second] [(.long (((q1 ||| q2).toUInt64 >>> ((31 : Int32) &&& 0x3f).toInt64.toUInt64).toInt64))]))
  refine own_via (fun _ k => XS.lconst X26.here hx rfl (hb hby dmx_25) k) ?_
  show own_G _ _ _ _ (T26.setTop (mkF m 26 #[.val (.long q1), .second, .val (.long q2), .second, .val (.long (q1 * q2)), .second, .val (.long q1), .second, .val (.long q2), .second] [(.long (0 : Int64)), (.long (((q1 ||| q2).toUInt64 >>> ((31 : Int32) &&& 0x3f).toInt64.toUInt64).toInt64))]))
  refine own_via (fun _ k => XS.lcmp X26.here hx rfl (hb hby dmx_26) rfl k) ?_
  show own_G _ _ _ _ (T26.setTop (mkF m 27 #[.val (.long q1), .second, .val (.long q2), .second, .val (.long (q1 * q2)), .second, .val (.long q1), .second, .val (.long q2), .second] [(.int (lcmpW (((q1 ||| q2).toUInt64 >>> ((31 : Int32) &&& 0x3f).toInt64.toUInt64).toInt64) (0 : Int64)))]))
  refine own_via (fun _ k => XS.ifYes X26.here hx rfl (pc0 := 27) (pc' := 71) rfl (hb hby dmx_27) rfl ((if0 _ _).trans (teq ((lw_eq _ _).mpr hq3)).1) (by decide) (by decide) k) ?_
  show own_G _ _ _ _ (T26.setTop (mkF m 71 #[.val (.long q1), .second, .val (.long q2), .second, .val (.long (q1 * q2)), .second, .val (.long q1), .second, .val (.long q2), .second] []))
  refine own_via (fun _ k => XS.lload X26.here hx rfl (hb hby dmx_71) rfl k) ?_
  show own_G _ _ _ _ (T26.setTop (mkF m 73 #[.val (.long q1), .second, .val (.long q2), .second, .val (.long (q1 * q2)), .second, .val (.long q1), .second, .val (.long q2), .second] [(.long (q1 * q2))]))
  obtain ⟨fs, hr, hrun, hended, hW, hsame⟩ := X26.leave (v := some (.long (q1 * q2))) (fun h => by rw [Bd.returns] at h; cases h)
  refine ⟨_, _, ?_, hrun, hended, _, _, rfl, ?_, ⟨_, rfl⟩, hW, hsame.mono (by decide) (by decide)⟩
  · jvm_step X26.here [X26.here.top, hx, (hb hby dmx_73), X26.method', Bd.returns, narrow]
    first | (intro acts; rw [hr _ acts rfl rfl rfl]) | rw [hr _ _ rfl rfl rfl]
    exact Steps.refl _
  · show Qmx Z q1 q2 h0 n0 _ T26.heap _
    rw [e26]
    exact ⟨rfl, N26, rfl⟩
theorem dax_0 : decode jdk_29_method_25_code 0 = .ok (.lload_n 0, 1) := by decide +kernel
theorem dax_1 : decode jdk_29_method_25_code 1 = .ok (.lload_n 2, 1) := by decide +kernel
theorem dax_2 : decode jdk_29_method_25_code 2 = .ok (.ladd, 1) := by decide +kernel
theorem dax_3 : decode jdk_29_method_25_code 3 = .ok (.lstore 4, 2) := by decide +kernel
theorem dax_5 : decode jdk_29_method_25_code 5 = .ok (.lload_n 0, 1) := by decide +kernel
theorem dax_6 : decode jdk_29_method_25_code 6 = .ok (.lload 4, 2) := by decide +kernel
theorem dax_8 : decode jdk_29_method_25_code 8 = .ok (.lxor, 1) := by decide +kernel
theorem dax_9 : decode jdk_29_method_25_code 9 = .ok (.lload_n 2, 1) := by decide +kernel
theorem dax_10 : decode jdk_29_method_25_code 10 = .ok (.lload 4, 2) := by decide +kernel
theorem dax_12 : decode jdk_29_method_25_code 12 = .ok (.lxor, 1) := by decide +kernel
theorem dax_13 : decode jdk_29_method_25_code 13 = .ok (.land, 1) := by decide +kernel
theorem dax_14 : decode jdk_29_method_25_code 14 = .ok (.lconst 0, 1) := by decide +kernel
theorem dax_15 : decode jdk_29_method_25_code 15 = .ok (.lcmp, 1) := by decide +kernel
theorem dax_16 : decode jdk_29_method_25_code 16 = .ok (.ifCond .ge 13, 3) := by decide +kernel
theorem dax_29 : decode jdk_29_method_25_code 29 = .ok (.lload 4, 2) := by decide +kernel
theorem dax_31 : decode jdk_29_method_25_code 31 = .ok (.lreturn, 1) := by decide +kernel
theorem ef_ax (m : MethodId) (q1 : Int64) (q2 : Int64) : entryFrame m #[(.long q1), (.long q2)] 6 = (mkF m 0 #[.val (.long q1), .second, .val (.long q2), .second, .unset, .unset] []) := by first | (simp [entryFrame, mkF, argsToLocals, Value.category]; done) | rfl
def Qax (Z : State) (q1 : Int64) (q2 : Int64) (h0 : Heap) (n0 : Nat) (v : Option Value) (h : Heap) (L : List Loc) : Prop := v = some (.long (q1 + q2)) ∧ Fr n0 L ∧ h = h0
set_option maxRecDepth 65536 in
set_option maxHeartbeats 40000000 in
theorem rmax (l : Launch) (Z : State) (a0 : Array Value) (hw : ∀ d ∈ tables_1, d.before a0 Z = true) (ws : List Jvm.Cond) (q1 : Int64) (q2 : Int64) (h0 : Heap) (n0 : Nat) (Z0 : n0 ≤ h0.size) (hq : ¬ ((q1 ^^^ (q1 + q2)) &&& (q2 ^^^ (q1 + q2))) < (0 : Int64)) :
    MetFree l (⟨"java/lang/Math", "addExact", "(JJ)J"⟩ : MethodName) (head1 (Jvm.Cond.code (⟨"java/lang/Math", "addExact", "(JJ)J"⟩ : MethodName) jdk_29_method_25_code 6 (some .long) :: ws) ({ frames := 0, cells := 0, slots := 0, locals := 0 } : Room)) (fun as' U => as' = #[(.long q1), (.long q2)] ∧ Z.Warmed39 U.vm ∧ U.heap = h0) (fun _ _ _ _ _ => True) (fun _ U o U' => ∃ v L, o = .returned v ∧ Qax Z q1 q2 h0 n0 v U'.heap L ∧ FrameEnd U o U' L ({ frames := 0, cells := 0, slots := 0, locals := 0 } : Room).cells ({ frames := 0, cells := 0, slots := 0, locals := 0 } : Room).slots) := by
  refine MetFree.of_bodySF (Jvm.Free.JP.mathPlain rfl (by decide +kernel)) hisR ?_
  intro p e s m args below meth c s₁ Bd hml0 hP hK
  obtain ⟨rfl, hZ, hh⟩ := hP
  have hx := Bd.exec
  have hby := Bd.bytes
  have hml : c.maxLocals = 6 := hml0
  have hown : s.vm.findClass "java/lang/Math" = some m.cls := findClass_of_methodNamed Bd.named
  have hnm := (name_of_methodNamed Bd.named Bd.method).1
  have X0 : Stand p l e ({ frames := 0, cells := 0, slots := 0, locals := 0 } : Room) s m #[(.long q1), (.long q2)] below meth c s₁ [] 0 0 := Stand.of_body Bd
  have e0 : s₁.heap = h0 := by rw [← hh, Bd.state]; rfl
  have N0 := Fr.nil n0
  refine own_via (fun t k => castTop (ef_ax m q1 q2) k) ?_
  show own_G _ _ _ _ (s₁.setTop (mkF m 0 #[.val (.long q1), .second, .val (.long q2), .second, .unset, .unset] []))
  refine own_via (fun _ k => XS.lloadN X0.here hx rfl (hb hby dax_0) rfl k) ?_
  show own_G _ _ _ _ (s₁.setTop (mkF m 1 #[.val (.long q1), .second, .val (.long q2), .second, .unset, .unset] [(.long q1)]))
  refine own_via (fun _ k => XS.lloadN X0.here hx rfl (hb hby dax_1) rfl k) ?_
  show own_G _ _ _ _ (s₁.setTop (mkF m 2 #[.val (.long q1), .second, .val (.long q2), .second, .unset, .unset] [(.long q2), (.long q1)]))
  refine own_via (fun _ k => XS.ladd X0.here hx rfl (hb hby dax_2) rfl k) ?_
  show own_G _ _ _ _ (s₁.setTop (mkF m 3 #[.val (.long q1), .second, .val (.long q2), .second, .unset, .unset] [(.long (q1 + q2))]))
  refine own_via (fun _ k => XS.lstore X0.here hx rfl (hb hby dax_3) rfl (l' := #[.val (.long q1), .second, .val (.long q2), .second, .val (.long (q1 + q2)), .second]) rfl k) ?_
  show own_G _ _ _ _ (s₁.setTop (mkF m 5 #[.val (.long q1), .second, .val (.long q2), .second, .val (.long (q1 + q2)), .second] []))
  refine own_via (fun _ k => XS.lloadN X0.here hx rfl (hb hby dax_5) rfl k) ?_
  show own_G _ _ _ _ (s₁.setTop (mkF m 6 #[.val (.long q1), .second, .val (.long q2), .second, .val (.long (q1 + q2)), .second] [(.long q1)]))
  refine own_via (fun _ k => XS.lload X0.here hx rfl (hb hby dax_6) rfl k) ?_
  show own_G _ _ _ _ (s₁.setTop (mkF m 8 #[.val (.long q1), .second, .val (.long q2), .second, .val (.long (q1 + q2)), .second] [(.long (q1 + q2)), (.long q1)]))
  refine own_via (fun _ k => XS.lxor X0.here hx rfl (hb hby dax_8) rfl k) ?_
  show own_G _ _ _ _ (s₁.setTop (mkF m 9 #[.val (.long q1), .second, .val (.long q2), .second, .val (.long (q1 + q2)), .second] [(.long (q1 ^^^ (q1 + q2)))]))
  refine own_via (fun _ k => XS.lloadN X0.here hx rfl (hb hby dax_9) rfl k) ?_
  show own_G _ _ _ _ (s₁.setTop (mkF m 10 #[.val (.long q1), .second, .val (.long q2), .second, .val (.long (q1 + q2)), .second] [(.long q2), (.long (q1 ^^^ (q1 + q2)))]))
  refine own_via (fun _ k => XS.lload X0.here hx rfl (hb hby dax_10) rfl k) ?_
  show own_G _ _ _ _ (s₁.setTop (mkF m 12 #[.val (.long q1), .second, .val (.long q2), .second, .val (.long (q1 + q2)), .second] [(.long (q1 + q2)), (.long q2), (.long (q1 ^^^ (q1 + q2)))]))
  refine own_via (fun _ k => XS.lxor X0.here hx rfl (hb hby dax_12) rfl k) ?_
  show own_G _ _ _ _ (s₁.setTop (mkF m 13 #[.val (.long q1), .second, .val (.long q2), .second, .val (.long (q1 + q2)), .second] [(.long (q2 ^^^ (q1 + q2))), (.long (q1 ^^^ (q1 + q2)))]))
  refine own_via (fun _ k => XS.land X0.here hx rfl (hb hby dax_13) rfl k) ?_
  show own_G _ _ _ _ (s₁.setTop (mkF m 14 #[.val (.long q1), .second, .val (.long q2), .second, .val (.long (q1 + q2)), .second] [(.long ((q1 ^^^ (q1 + q2)) &&& (q2 ^^^ (q1 + q2))))]))
  refine own_via (fun _ k => XS.lconst X0.here hx rfl (hb hby dax_14) k) ?_
  show own_G _ _ _ _ (s₁.setTop (mkF m 15 #[.val (.long q1), .second, .val (.long q2), .second, .val (.long (q1 + q2)), .second] [(.long (0 : Int64)), (.long ((q1 ^^^ (q1 + q2)) &&& (q2 ^^^ (q1 + q2))))]))
  refine own_via (fun _ k => XS.lcmp X0.here hx rfl (hb hby dax_15) rfl k) ?_
  show own_G _ _ _ _ (s₁.setTop (mkF m 16 #[.val (.long q1), .second, .val (.long q2), .second, .val (.long (q1 + q2)), .second] [(.int (lcmpW ((q1 ^^^ (q1 + q2)) &&& (q2 ^^^ (q1 + q2))) (0 : Int64)))]))
  refine own_via (fun _ k => XS.ifYes X0.here hx rfl (pc0 := 16) (pc' := 29) rfl (hb hby dax_16) rfl ((if0 _ _).trans (flt (fun z => hq ((lw_lt _ _).mp z))).2.1) (by decide) (by decide) k) ?_
  show own_G _ _ _ _ (s₁.setTop (mkF m 29 #[.val (.long q1), .second, .val (.long q2), .second, .val (.long (q1 + q2)), .second] []))
  refine own_via (fun _ k => XS.lload X0.here hx rfl (hb hby dax_29) rfl k) ?_
  show own_G _ _ _ _ (s₁.setTop (mkF m 31 #[.val (.long q1), .second, .val (.long q2), .second, .val (.long (q1 + q2)), .second] [(.long (q1 + q2))]))
  obtain ⟨fs, hr, hrun, hended, hW, hsame⟩ := X0.leave (v := some (.long (q1 + q2))) (fun h => by rw [Bd.returns] at h; cases h)
  refine ⟨_, _, ?_, hrun, hended, _, _, rfl, ?_, ⟨_, rfl⟩, hW, hsame.mono (by decide) (by decide)⟩
  · jvm_step X0.here [X0.here.top, hx, (hb hby dax_31), X0.method', Bd.returns, narrow]
    first | (intro acts; rw [hr _ acts rfl rfl rfl]) | rw [hr _ _ rfl rfl rfl]
    exact Steps.refl _
  · show Qax Z q1 q2 h0 n0 _ s₁.heap _
    rw [e0]
    exact ⟨rfl, N0, rfl⟩
theorem dtn_0 : decode jdk_2316_method_58_code 0 = .ok (.aload_n 0, 1) := by decide +kernel
theorem dtn_1 : decode jdk_2316_method_58_code 1 = .ok (.getfield 221, 3) := by decide +kernel
theorem dtn_4 : decode jdk_2316_method_58_code 4 = .ok (.lstore_n 1, 1) := by decide +kernel
theorem dtn_5 : decode jdk_2316_method_58_code 5 = .ok (.aload_n 0, 1) := by decide +kernel
theorem dtn_6 : decode jdk_2316_method_58_code 6 = .ok (.getfield 224, 3) := by decide +kernel
theorem dtn_9 : decode jdk_2316_method_58_code 9 = .ok (.i2l, 1) := by decide +kernel
theorem dtn_10 : decode jdk_2316_method_58_code 10 = .ok (.lstore_n 3, 1) := by decide +kernel
theorem dtn_11 : decode jdk_2316_method_58_code 11 = .ok (.lload_n 1, 1) := by decide +kernel
theorem dtn_12 : decode jdk_2316_method_58_code 12 = .ok (.lconst 0, 1) := by decide +kernel
theorem dtn_13 : decode jdk_2316_method_58_code 13 = .ok (.lcmp, 1) := by decide +kernel
theorem dtn_14 : decode jdk_2316_method_58_code 14 = .ok (.ifCond .ge 13, 3) := by decide +kernel
theorem dtn_17 : decode jdk_2316_method_58_code 17 = .ok (.lload_n 1, 1) := by decide +kernel
theorem dtn_18 : decode jdk_2316_method_58_code 18 = .ok (.lconst 1, 1) := by decide +kernel
theorem dtn_19 : decode jdk_2316_method_58_code 19 = .ok (.ladd, 1) := by decide +kernel
theorem dtn_20 : decode jdk_2316_method_58_code 20 = .ok (.lstore_n 1, 1) := by decide +kernel
theorem dtn_21 : decode jdk_2316_method_58_code 21 = .ok (.lload_n 3, 1) := by decide +kernel
theorem dtn_22 : decode jdk_2316_method_58_code 22 = .ok (.ldc2_w 16, 3) := by decide +kernel
theorem dtn_25 : decode jdk_2316_method_58_code 25 = .ok (.lsub, 1) := by decide +kernel
theorem dtn_26 : decode jdk_2316_method_58_code 26 = .ok (.lstore_n 3, 1) := by decide +kernel
theorem dtn_27 : decode jdk_2316_method_58_code 27 = .ok (.lload_n 1, 1) := by decide +kernel
theorem dtn_28 : decode jdk_2316_method_58_code 28 = .ok (.ldc2_w 16, 3) := by decide +kernel
theorem dtn_31 : decode jdk_2316_method_58_code 31 = .ok (.invokestatic 289, 3) := by decide +kernel
theorem dtn_34 : decode jdk_2316_method_58_code 34 = .ok (.lstore 5, 2) := by decide +kernel
theorem dtn_36 : decode jdk_2316_method_58_code 36 = .ok (.lload 5, 2) := by decide +kernel
theorem dtn_38 : decode jdk_2316_method_58_code 38 = .ok (.lload_n 3, 1) := by decide +kernel
theorem dtn_39 : decode jdk_2316_method_58_code 39 = .ok (.invokestatic 22, 3) := by decide +kernel
theorem dtn_42 : decode jdk_2316_method_58_code 42 = .ok (.lstore 5, 2) := by decide +kernel
theorem dtn_44 : decode jdk_2316_method_58_code 44 = .ok (.lload 5, 2) := by decide +kernel
theorem dtn_46 : decode jdk_2316_method_58_code 46 = .ok (.lreturn, 1) := by decide +kernel
theorem pn_tn : plainName "java/time/Duration" = true := by first | (simp [plainName, overriddenIn]; done) | decide +kernel
theorem ef_tn (m : MethodId) (a : Addr) : entryFrame m #[(.ref a)] 7 = (mkF m 0 #[.val (.ref a), .unset, .unset, .unset, .unset, .unset, .unset] []) := by first | (simp [entryFrame, mkF, argsToLocals, Value.category]; done) | rfl
def Qtn (Z : State) (a : Addr) (h0 : Heap) (n0 : Nat) (v : Option Value) (h : Heap) (L : List Loc) : Prop := ∃ r : Int64, v = some (.long r) ∧ Fr n0 L ∧ h = h0
set_option maxRecDepth 65536 in
set_option maxHeartbeats 40000000 in
theorem rmtn (l : Launch) (Z : State) (a0 : Array Value) (hw : ∀ d ∈ tables_1, d.before a0 Z = true) (ws : List Jvm.Cond) (a : Addr) (h0 : Heap) (n0 : Nat) (Z0 : n0 ≤ h0.size) (F_a_seconds : Fld Z h0 a "java/time/Duration" "seconds" "J" (.long 10)) (F_a_nanos : Fld Z h0 a "java/time/Duration" "nanos" "I" (.int 0)) :
    MetFree l (⟨"java/time/Duration", "toNanos", "()J"⟩ : MethodName) (head1 (Jvm.Cond.code (⟨"java/time/Duration", "toNanos", "()J"⟩ : MethodName) jdk_2316_method_58_code 7 (some .long) :: ws) ({ frames := 2, cells := 0, slots := 0, locals := 50 } : Room)) (fun as' U => as' = #[(.ref a)] ∧ Z.Warmed39 U.vm ∧ U.heap = h0) (fun _ _ _ _ _ => True) (fun _ U o U' => ∃ v L, o = .returned v ∧ Qtn Z a h0 n0 v U'.heap L ∧ FrameEnd U o U' L ({ frames := 2, cells := 0, slots := 0, locals := 50 } : Room).cells ({ frames := 2, cells := 0, slots := 0, locals := 50 } : Room).slots) := by
  refine MetFree.of_bodySF (plainFor_of_name pn_tn) hisR ?_
  intro p e s m args below meth c s₁ Bd hml0 hP hK
  obtain ⟨rfl, hZ, hh⟩ := hP
  have hx := Bd.exec
  have hby := Bd.bytes
  have hml : c.maxLocals = 7 := hml0
  have hown : s.vm.findClass "java/time/Duration" = some m.cls := findClass_of_methodNamed Bd.named
  have hnm := (name_of_methodNamed Bd.named Bd.method).1
  have X0 : Stand p l e ({ frames := 2, cells := 0, slots := 0, locals := 50 } : Room) s m #[(.ref a)] below meth c s₁ [] 0 0 := Stand.of_body Bd
  have e0 : s₁.heap = h0 := by rw [← hh, Bd.state]; rfl
  have N0 := Fr.nil n0
  refine own_via (fun t k => castTop (ef_tn m a) k) ?_
  show own_G _ _ _ _ (s₁.setTop (mkF m 0 #[.val (.ref a), .unset, .unset, .unset, .unset, .unset, .unset] []))
  refine own_via (fun _ k => XS.aloadN X0.here hx rfl (hb hby dtn_0) rfl rfl k) ?_
  show own_G _ _ _ _ (s₁.setTop (mkF m 1 #[.val (.ref a), .unset, .unset, .unset, .unset, .unset, .unset] [(.ref a)]))
  obtain ⟨T27, X27, e27, st27⟩ := getF X0 hx hZ hown (host := "") (Or.inl (hw _ (List.mem_of_getElem? (i := 68) rfl))) Via.refl e0 F_a_seconds (g := (mkF m 1 #[.val (.ref a), .unset, .unset, .unset, .unset, .unset, .unset] [(.ref a)])) rfl rfl (hb hby dtn_1)
  refine own_via st27 ?_
  show own_G _ _ _ _ (T27.setTop (mkF m 4 #[.val (.ref a), .unset, .unset, .unset, .unset, .unset, .unset] [(.long (10 : Int64))]))
  refine own_via (fun _ k => XS.lstoreN X27.here hx rfl (hb hby dtn_4) rfl (l' := #[.val (.ref a), .val (.long (10 : Int64)), .second, .unset, .unset, .unset, .unset]) rfl k) ?_
  show own_G _ _ _ _ (T27.setTop (mkF m 5 #[.val (.ref a), .val (.long (10 : Int64)), .second, .unset, .unset, .unset, .unset] []))
  refine own_via (fun _ k => XS.aloadN X27.here hx rfl (hb hby dtn_5) rfl rfl k) ?_
  show own_G _ _ _ _ (T27.setTop (mkF m 6 #[.val (.ref a), .val (.long (10 : Int64)), .second, .unset, .unset, .unset, .unset] [(.ref a)]))
  obtain ⟨T28, X28, e28, st28⟩ := getF X27 hx hZ hown (host := "") (Or.inl (hw _ (List.mem_of_getElem? (i := 70) rfl))) Via.refl e27 F_a_nanos (g := (mkF m 6 #[.val (.ref a), .val (.long (10 : Int64)), .second, .unset, .unset, .unset, .unset] [(.ref a)])) rfl rfl (hb hby dtn_6)
  refine own_via st28 ?_
  show own_G _ _ _ _ (T28.setTop (mkF m 9 #[.val (.ref a), .val (.long (10 : Int64)), .second, .unset, .unset, .unset, .unset] [(.int (0 : Int32))]))
  refine own_via (fun _ k => XS.i2l X28.here hx rfl (hb hby dtn_9) rfl k) ?_
  show own_G _ _ _ _ (T28.setTop (mkF m 10 #[.val (.ref a), .val (.long (10 : Int64)), .second, .unset, .unset, .unset, .unset] [(.long ((0 : Int32).toInt64))]))
  refine own_via (fun _ k => XS.lstoreN X28.here hx rfl (hb hby dtn_10) rfl (l' := #[.val (.ref a), .val (.long (10 : Int64)), .second, .val (.long ((0 : Int32).toInt64)), .second, .unset, .unset]) rfl k) ?_
  show own_G _ _ _ _ (T28.setTop (mkF m 11 #[.val (.ref a), .val (.long (10 : Int64)), .second, .val (.long ((0 : Int32).toInt64)), .second, .unset, .unset] []))
  refine own_via (fun _ k => XS.lloadN X28.here hx rfl (hb hby dtn_11) rfl k) ?_
  show own_G _ _ _ _ (T28.setTop (mkF m 12 #[.val (.ref a), .val (.long (10 : Int64)), .second, .val (.long ((0 : Int32).toInt64)), .second, .unset, .unset] [(.long (10 : Int64))]))
  refine own_via (fun _ k => XS.lconst X28.here hx rfl (hb hby dtn_12) k) ?_
  show own_G _ _ _ _ (T28.setTop (mkF m 13 #[.val (.ref a), .val (.long (10 : Int64)), .second, .val (.long ((0 : Int32).toInt64)), .second, .unset, .unset] [(.long (0 : Int64)), (.long (10 : Int64))]))
  refine own_via (fun _ k => XS.lcmp X28.here hx rfl (hb hby dtn_13) rfl k) ?_
  show own_G _ _ _ _ (T28.setTop (mkF m 14 #[.val (.ref a), .val (.long (10 : Int64)), .second, .val (.long ((0 : Int32).toInt64)), .second, .unset, .unset] [(.int (lcmpW (10 : Int64) (0 : Int64)))]))
  refine own_via (fun _ k => XS.ifYes X28.here hx rfl (pc0 := 14) (pc' := 27) rfl (hb hby dtn_14) rfl ((if0 _ _).trans (flt (fun z => (show ¬ ((10 : Int64) < (0 : Int64)) by decide) ((lw_lt _ _).mp z))).2.1) (by decide) (by decide) k) ?_
  show own_G _ _ _ _ (T28.setTop (mkF m 27 #[.val (.ref a), .val (.long (10 : Int64)), .second, .val (.long ((0 : Int32).toInt64)), .second, .unset, .unset] []))
  refine own_via (fun _ k => XS.lloadN X28.here hx rfl (hb hby dtn_27) rfl k) ?_
  show own_G _ _ _ _ (T28.setTop (mkF m 28 #[.val (.ref a), .val (.long (10 : Int64)), .second, .val (.long ((0 : Int32).toInt64)), .second, .unset, .unset] [(.long (10 : Int64))]))
  refine own_via (fun _ k => X28.ldc2Long hx hown (mvT hZ (hw _ (List.mem_of_getElem? (i := 72) rfl))) (g := (mkF m 28 #[.val (.ref a), .val (.long (10 : Int64)), .second, .val (.long ((0 : Int32).toInt64)), .second, .unset, .unset] [(.long (10 : Int64))])) rfl (hb hby dtn_28) _ k) ?_
  show own_G _ _ _ _ (T28.setTop (mkF m 31 #[.val (.ref a), .val (.long (10 : Int64)), .second, .val (.long ((0 : Int32).toInt64)), .second, .unset, .unset] [(.long (1000000000 : Int64)), (.long (10 : Int64))]))
  obtain ⟨_, _, ⟨T29, L29, k29, n29⟩, -, X29, ⟨Lc29, hQ29, l29, y29, z29⟩, st29⟩ := Jvm.LawKit.callS X28 hx (y := (⟨"java/lang/Math", "multiplyExact", "(JJ)J"⟩ : MethodName)) hown (mvT hZ (hw _ (List.mem_of_getElem? (i := 73) rfl))) (mvT hZ (hw _ (List.mem_of_getElem? (i := 74) rfl))) (mvT hZ (hw _ (List.mem_of_getElem? (i := 75) rfl))) (mvT hZ (hw _ (List.mem_of_getElem? (i := 76) rfl))) (by decide) (backOf (W := 0) (rmmx l Z a0 hw [] (10 : Int64) (1000000000 : Int64) h0 n0 Z0 (by decide) (by decide) (by decide)) hZ (hw _ (List.mem_of_getElem? (i := 76) rfl)) (hw _ (List.mem_of_getElem? (i := 75) rfl)) (by decide) (by decide)) (g := (mkF m 31 #[.val (.ref a), .val (.long (10 : Int64)), .second, .val (.long ((0 : Int32).toInt64)), .second, .unset, .unset] [(.long (1000000000 : Int64)), (.long (10 : Int64))])) rfl (by rw [hml]; rfl) (argsL := [(.long (10 : Int64)), (.long (1000000000 : Int64))]) (rest := []) (lenOf pd_5 rfl) rfl (by show 2 * 0 + _ ≤ _; exact Nat.le_of_eq rfl) (hb hby dtn_31) (fun _ _ => ⟨rfl, e28, Nat.le_of_ble_eq_true rfl, Nat.le_of_ble_eq_true rfl⟩)
  dsimp only [Pt.U, Pt.locs, Pt.cells, Pt.slots] at X29 l29 y29 z29 st29 hQ29
  subst l29 y29 z29
  obtain ⟨rfl, N29q, e29⟩ := hQ29
  have N29 := Fr.app N0 N29q
  refine own_via st29 ?_
  show own_G _ _ _ _ (T29.setTop (mkF m 34 #[.val (.ref a), .val (.long (10 : Int64)), .second, .val (.long ((0 : Int32).toInt64)), .second, .unset, .unset] [(.long ((10 : Int64) * (1000000000 : Int64)))]))
  refine own_via (fun _ k => XS.lstore X29.here hx rfl (hb hby dtn_34) rfl (l' := #[.val (.ref a), .val (.long (10 : Int64)), .second, .val (.long ((0 : Int32).toInt64)), .second, .val (.long ((10 : Int64) * (1000000000 : Int64))), .second]) rfl k) ?_
  show own_G _ _ _ _ (T29.setTop (mkF m 36 #[.val (.ref a), .val (.long (10 : Int64)), .second, .val (.long ((0 : Int32).toInt64)), .second, .val (.long ((10 : Int64) * (1000000000 : Int64))), .second] []))
  refine own_via (fun _ k => XS.lload X29.here hx rfl (hb hby dtn_36) rfl k) ?_
  show own_G _ _ _ _ (T29.setTop (mkF m 38 #[.val (.ref a), .val (.long (10 : Int64)), .second, .val (.long ((0 : Int32).toInt64)), .second, .val (.long ((10 : Int64) * (1000000000 : Int64))), .second] [(.long ((10 : Int64) * (1000000000 : Int64)))]))
  refine own_via (fun _ k => XS.lloadN X29.here hx rfl (hb hby dtn_38) rfl k) ?_
  show own_G _ _ _ _ (T29.setTop (mkF m 39 #[.val (.ref a), .val (.long (10 : Int64)), .second, .val (.long ((0 : Int32).toInt64)), .second, .val (.long ((10 : Int64) * (1000000000 : Int64))), .second] [(.long ((0 : Int32).toInt64)), (.long ((10 : Int64) * (1000000000 : Int64)))]))
  obtain ⟨_, _, ⟨T30, L30, k30, n30⟩, -, X30, ⟨Lc30, hQ30, l30, y30, z30⟩, st30⟩ := Jvm.LawKit.callS X29 hx (y := (⟨"java/lang/Math", "addExact", "(JJ)J"⟩ : MethodName)) hown (mvT hZ (hw _ (List.mem_of_getElem? (i := 80) rfl))) (mvT hZ (hw _ (List.mem_of_getElem? (i := 81) rfl))) (mvT hZ (hw _ (List.mem_of_getElem? (i := 75) rfl))) (mvT hZ (hw _ (List.mem_of_getElem? (i := 82) rfl))) (by decide) (backOf (W := 0) (rmax l Z a0 hw [] ((10 : Int64) * (1000000000 : Int64)) ((0 : Int32).toInt64) h0 n0 Z0 (by decide)) hZ (hw _ (List.mem_of_getElem? (i := 82) rfl)) (hw _ (List.mem_of_getElem? (i := 75) rfl)) (by decide) (by decide)) (g := (mkF m 39 #[.val (.ref a), .val (.long (10 : Int64)), .second, .val (.long ((0 : Int32).toInt64)), .second, .val (.long ((10 : Int64) * (1000000000 : Int64))), .second] [(.long ((0 : Int32).toInt64)), (.long ((10 : Int64) * (1000000000 : Int64)))])) rfl (by rw [hml]; rfl) (argsL := [(.long ((10 : Int64) * (1000000000 : Int64))), (.long ((0 : Int32).toInt64))]) (rest := []) (lenOf pd_5 rfl) rfl (by show 2 * 0 + _ ≤ _; exact Nat.le_of_eq rfl) (hb hby dtn_39) (fun _ _ => ⟨rfl, e29, Nat.le_of_ble_eq_true rfl, Nat.le_of_ble_eq_true rfl⟩)
  dsimp only [Pt.U, Pt.locs, Pt.cells, Pt.slots] at X30 l30 y30 z30 st30 hQ30
  subst l30 y30 z30
  obtain ⟨rfl, N30q, e30⟩ := hQ30
  have N30 := Fr.app N29 N30q
  refine own_via st30 ?_
  show own_G _ _ _ _ (T30.setTop (mkF m 42 #[.val (.ref a), .val (.long (10 : Int64)), .second, .val (.long ((0 : Int32).toInt64)), .second, .val (.long ((10 : Int64) * (1000000000 : Int64))), .second] [(.long (((10 : Int64) * (1000000000 : Int64)) + ((0 : Int32).toInt64)))]))
  refine own_via (fun _ k => XS.lstore X30.here hx rfl (hb hby dtn_42) rfl (l' := #[.val (.ref a), .val (.long (10 : Int64)), .second, .val (.long ((0 : Int32).toInt64)), .second, .val (.long (((10 : Int64) * (1000000000 : Int64)) + ((0 : Int32).toInt64))), .second]) rfl k) ?_
  show own_G _ _ _ _ (T30.setTop (mkF m 44 #[.val (.ref a), .val (.long (10 : Int64)), .second, .val (.long ((0 : Int32).toInt64)), .second, .val (.long (((10 : Int64) * (1000000000 : Int64)) + ((0 : Int32).toInt64))), .second] []))
  refine own_via (fun _ k => XS.lload X30.here hx rfl (hb hby dtn_44) rfl k) ?_
  show own_G _ _ _ _ (T30.setTop (mkF m 46 #[.val (.ref a), .val (.long (10 : Int64)), .second, .val (.long ((0 : Int32).toInt64)), .second, .val (.long (((10 : Int64) * (1000000000 : Int64)) + ((0 : Int32).toInt64))), .second] [(.long (((10 : Int64) * (1000000000 : Int64)) + ((0 : Int32).toInt64)))]))
  obtain ⟨rr, hrr⟩ : ∃ z, z = (((10 : Int64) * (1000000000 : Int64)) + ((0 : Int32).toInt64)) := ⟨_, rfl⟩
  rw [← hrr] at ⊢
  show own_G _ _ _ _ (T30.setTop (mkF m 46 #[.val (.ref a), .val (.long (10 : Int64)), .second, .val (.long ((0 : Int32).toInt64)), .second, .val (.long rr), .second] [(.long rr)]))
  obtain ⟨fs, hr, hrun, hended, hW, hsame⟩ := X30.leave (v := some (.long rr)) (fun h => by rw [Bd.returns] at h; cases h)
  refine ⟨_, _, ?_, hrun, hended, _, _, rfl, ?_, ⟨_, rfl⟩, hW, hsame.mono (by decide) (by decide)⟩
  · jvm_step X30.here [X30.here.top, hx, (hb hby dtn_46), X30.method', Bd.returns, narrow]
    first | (intro acts; rw [hr _ acts rfl rfl rfl]) | rw [hr _ _ rfl rfl rfl]
    exact Steps.refl _
  · show Qtn Z a h0 n0 _ T30.heap _
    rw [e30]
    exact ⟨_, rfl, N30, rfl⟩
theorem dfi_0 : decode prog_31_method_1_code 0 = .ok (.aload_n 0, 1) := by decide +kernel
theorem dfi_1 : decode prog_31_method_1_code 1 = .ok (.invokespecial 1, 3) := by decide +kernel
theorem dfi_4 : decode prog_31_method_1_code 4 = .ok (.return_, 1) := by decide +kernel
theorem pn_fi : plainName "com/example/rafterwire/rafterwire/radio/FaultLines" = true := by first | (simp [plainName, overriddenIn]; done) | decide +kernel
theorem ef_fi (m : MethodId) (a : Addr) : entryFrame m #[(.ref a)] 1 = (mkF m 0 #[.val (.ref a)] []) := by first | (simp [entryFrame, mkF, argsToLocals, Value.category]; done) | rfl
def Qfi (Z : State) (a : Addr) (h0 : Heap) (n0 : Nat) (v : Option Value) (h : Heap) (L : List Loc) : Prop := v = none ∧ Fr n0 L ∧ h = h0
set_option maxRecDepth 65536 in
set_option maxHeartbeats 40000000 in
theorem rmfi (l : Launch) (Z : State) (a0 : Array Value) (hw : ∀ d ∈ tables_1, d.before a0 Z = true) (ws : List Jvm.Cond) (a : Addr) (h0 : Heap) (n0 : Nat) (Z0 : n0 ≤ h0.size) :
    MetFree l (⟨"com/example/rafterwire/rafterwire/radio/FaultLines", "<init>", "()V"⟩ : MethodName) (head1 (Jvm.Cond.code (⟨"com/example/rafterwire/rafterwire/radio/FaultLines", "<init>", "()V"⟩ : MethodName) prog_31_method_1_code 1 none :: ws) ({ frames := 1, cells := 0, slots := 0, locals := 12 } : Room)) (fun as' U => as' = #[(.ref a)] ∧ Z.Warmed39 U.vm ∧ U.heap = h0) (fun _ _ _ _ _ => True) (fun _ U o U' => ∃ v L, o = .returned v ∧ Qfi Z a h0 n0 v U'.heap L ∧ FrameEnd U o U' L ({ frames := 1, cells := 0, slots := 0, locals := 12 } : Room).cells ({ frames := 1, cells := 0, slots := 0, locals := 12 } : Room).slots) := by
  refine MetFree.of_bodySF (plainFor_of_name pn_fi) hisR ?_
  intro p e s m args below meth c s₁ Bd hml0 hP hK
  obtain ⟨rfl, hZ, hh⟩ := hP
  have hx := Bd.exec
  have hby := Bd.bytes
  have hml : c.maxLocals = 1 := hml0
  have hown : s.vm.findClass "com/example/rafterwire/rafterwire/radio/FaultLines" = some m.cls := findClass_of_methodNamed Bd.named
  have hnm := (name_of_methodNamed Bd.named Bd.method).1
  have X0 : Stand p l e ({ frames := 1, cells := 0, slots := 0, locals := 12 } : Room) s m #[(.ref a)] below meth c s₁ [] 0 0 := Stand.of_body Bd
  have e0 : s₁.heap = h0 := by rw [← hh, Bd.state]; rfl
  have N0 := Fr.nil n0
  refine own_via (fun t k => castTop (ef_fi m a) k) ?_
  show own_G _ _ _ _ (s₁.setTop (mkF m 0 #[.val (.ref a)] []))
  refine own_via (fun _ k => XS.aloadN X0.here hx rfl (hb hby dfi_0) rfl rfl k) ?_
  show own_G _ _ _ _ (s₁.setTop (mkF m 1 #[.val (.ref a)] [(.ref a)]))
  obtain ⟨T31, X31, e31, st31⟩ := initO X0 hx hZ hown (hw _ (List.mem_of_getElem? (i := 32) rfl)) (hw _ (List.mem_of_getElem? (i := 20) rfl)) (hw _ (List.mem_of_getElem? (i := 21) rfl)) e0 (g := (mkF m 1 #[.val (.ref a)] [(.ref a)])) rfl (by rw [hml]; rfl) rfl (hb hby dfi_1) (by decide) (W := 0) (by show 2 * 0 + _ ≤ _; exact Nat.le_of_eq rfl) (by decide)
  refine own_via st31 ?_
  show own_G _ _ _ _ (T31.setTop (mkF m 4 #[.val (.ref a)] []))
  obtain ⟨fs, hr, hrun, hended, hW, hsame⟩ := X31.leave (v := none) (fun _ => rfl)
  refine ⟨_, _, ?_, hrun, hended, _, _, rfl, ?_, ⟨_, rfl⟩, hW, hsame.mono (by decide) (by decide)⟩
  · exact X31.returnOut hx Bd.returns (hb hby dfi_4) hr
  · show Qfi Z a h0 n0 _ T31.heap _
    rw [e31]
    exact ⟨rfl, N0, rfl⟩
theorem dq0_0 : decode prog_31_method_2_code 0 = .ok (.aload_n 0, 1) := by decide +kernel
theorem dq0_1 : decode prog_31_method_2_code 1 = .ok (.getfield 7, 3) := by decide +kernel
theorem dq0_4 : decode prog_31_method_2_code 4 = .ok (.ifnonnull 7, 3) := by decide +kernel
theorem dq0_7 : decode prog_31_method_2_code 7 = .ok (.iconst 1, 1) := by decide +kernel
theorem dq0_8 : decode prog_31_method_2_code 8 = .ok (.goto 4, 3) := by decide +kernel
theorem dq0_11 : decode prog_31_method_2_code 11 = .ok (.iconst 0, 1) := by decide +kernel
theorem dq0_12 : decode prog_31_method_2_code 12 = .ok (.ireturn, 1) := by decide +kernel
theorem pn_q0 : plainName "com/example/rafterwire/rafterwire/radio/FaultLines" = true := by first | (simp [plainName, overriddenIn]; done) | decide +kernel
theorem ef_q0 (m : MethodId) (a : Addr) : entryFrame m #[(.ref a)] 1 = (mkF m 0 #[.val (.ref a)] []) := by first | (simp [entryFrame, mkF, argsToLocals, Value.category]; done) | rfl
def Qq0 (Z : State) (a : Addr) (h0 : Heap) (n0 : Nat) (v : Option Value) (h : Heap) (L : List Loc) : Prop := v = some (.int 1) ∧ Fr n0 L ∧ h = h0
set_option maxRecDepth 65536 in
set_option maxHeartbeats 40000000 in
theorem rmq0 (l : Launch) (Z : State) (a0 : Array Value) (hw : ∀ d ∈ tables_1, d.before a0 Z = true) (ws : List Jvm.Cond) (a : Addr) (h0 : Heap) (n0 : Nat) (Z0 : n0 ≤ h0.size) (F_a_logged : Fld Z h0 a "com/example/rafterwire/rafterwire/radio/FaultLines" "logged" "Ljava/lang/String;" .null) :
    MetFree l (⟨"com/example/rafterwire/rafterwire/radio/FaultLines", "isQuiet", "()Z"⟩ : MethodName) (head1 (Jvm.Cond.code (⟨"com/example/rafterwire/rafterwire/radio/FaultLines", "isQuiet", "()Z"⟩ : MethodName) prog_31_method_2_code 1 (some .boolean) :: ws) ({ frames := 0, cells := 0, slots := 0, locals := 0 } : Room)) (fun as' U => as' = #[(.ref a)] ∧ Z.Warmed39 U.vm ∧ U.heap = h0) (fun _ _ _ _ _ => True) (fun _ U o U' => ∃ v L, o = .returned v ∧ Qq0 Z a h0 n0 v U'.heap L ∧ FrameEnd U o U' L ({ frames := 0, cells := 0, slots := 0, locals := 0 } : Room).cells ({ frames := 0, cells := 0, slots := 0, locals := 0 } : Room).slots) := by
  refine MetFree.of_bodySF (plainFor_of_name pn_q0) hisR ?_
  intro p e s m args below meth c s₁ Bd hml0 hP hK
  obtain ⟨rfl, hZ, hh⟩ := hP
  have hx := Bd.exec
  have hby := Bd.bytes
  have hml : c.maxLocals = 1 := hml0
  have hown : s.vm.findClass "com/example/rafterwire/rafterwire/radio/FaultLines" = some m.cls := findClass_of_methodNamed Bd.named
  have hnm := (name_of_methodNamed Bd.named Bd.method).1
  have X0 : Stand p l e ({ frames := 0, cells := 0, slots := 0, locals := 0 } : Room) s m #[(.ref a)] below meth c s₁ [] 0 0 := Stand.of_body Bd
  have e0 : s₁.heap = h0 := by rw [← hh, Bd.state]; rfl
  have N0 := Fr.nil n0
  refine own_via (fun t k => castTop (ef_q0 m a) k) ?_
  show own_G _ _ _ _ (s₁.setTop (mkF m 0 #[.val (.ref a)] []))
  refine own_via (fun _ k => XS.aloadN X0.here hx rfl (hb hby dq0_0) rfl rfl k) ?_
  show own_G _ _ _ _ (s₁.setTop (mkF m 1 #[.val (.ref a)] [(.ref a)]))
  obtain ⟨T32, X32, e32, st32⟩ := getF X0 hx hZ hown (host := "") (Or.inl (hw _ (List.mem_of_getElem? (i := 38) rfl))) Via.refl e0 F_a_logged (g := (mkF m 1 #[.val (.ref a)] [(.ref a)])) rfl rfl (hb hby dq0_1)
  refine own_via st32 ?_
  show own_G _ _ _ _ (T32.setTop (mkF m 4 #[.val (.ref a)] [.null]))
  refine own_via (fun _ k => XS.ifnonnullNo X32.here hx rfl (hb hby dq0_4) rfl k) ?_
  show own_G _ _ _ _ (T32.setTop (mkF m 7 #[.val (.ref a)] []))
  refine own_via (fun _ k => XS.iconst X32.here hx rfl (hb hby dq0_7) k) ?_
  show own_G _ _ _ _ (T32.setTop (mkF m 8 #[.val (.ref a)] [(.int (1 : Int32))]))
  refine own_via (fun _ k => XS.goto X32.here hx rfl (pc0 := 8) (pc' := 12) rfl (hb hby dq0_8) (by decide) (by decide) k) ?_
  show own_G _ _ _ _ (T32.setTop (mkF m 12 #[.val (.ref a)] [(.int (1 : Int32))]))
  obtain ⟨fs, hr, hrun, hended, hW, hsame⟩ := X32.leave (v := some (.int (1 : Int32))) (fun h => by rw [Bd.returns] at h; cases h)
  refine ⟨_, _, ?_, hrun, hended, _, _, rfl, ?_, ⟨_, rfl⟩, hW, hsame.mono (by decide) (by decide)⟩
  · exact retN X32 hx (t := .boolean) Bd.returns (by simp) (hb hby dq0_12) hr
  · show Qq0 Z a h0 n0 _ T32.heap _
    rw [e32]
    exact ⟨rfl, N0, rfl⟩
theorem dq1_0 : decode prog_31_method_2_code 0 = .ok (.aload_n 0, 1) := by decide +kernel
theorem dq1_1 : decode prog_31_method_2_code 1 = .ok (.getfield 7, 3) := by decide +kernel
theorem dq1_4 : decode prog_31_method_2_code 4 = .ok (.ifnonnull 7, 3) := by decide +kernel
theorem dq1_7 : decode prog_31_method_2_code 7 = .ok (.iconst 1, 1) := by decide +kernel
theorem dq1_8 : decode prog_31_method_2_code 8 = .ok (.goto 4, 3) := by decide +kernel
theorem dq1_11 : decode prog_31_method_2_code 11 = .ok (.iconst 0, 1) := by decide +kernel
theorem dq1_12 : decode prog_31_method_2_code 12 = .ok (.ireturn, 1) := by decide +kernel
theorem pn_q1 : plainName "com/example/rafterwire/rafterwire/radio/FaultLines" = true := by first | (simp [plainName, overriddenIn]; done) | decide +kernel
theorem ef_q1 (m : MethodId) (a : Addr) : entryFrame m #[(.ref a)] 1 = (mkF m 0 #[.val (.ref a)] []) := by first | (simp [entryFrame, mkF, argsToLocals, Value.category]; done) | rfl
def Qq1 (Z : State) (a : Addr) (o1 : Addr) (h0 : Heap) (n0 : Nat) (v : Option Value) (h : Heap) (L : List Loc) : Prop := v = some (.int 0) ∧ Fr n0 L ∧ h = h0
set_option maxRecDepth 65536 in
set_option maxHeartbeats 40000000 in
theorem rmq1 (l : Launch) (Z : State) (a0 : Array Value) (hw : ∀ d ∈ tables_1, d.before a0 Z = true) (ws : List Jvm.Cond) (a : Addr) (o1 : Addr) (h0 : Heap) (n0 : Nat) (Z0 : n0 ≤ h0.size) (F_a_logged : Fld Z h0 a "com/example/rafterwire/rafterwire/radio/FaultLines" "logged" "Ljava/lang/String;" (.ref o1)) :
    MetFree l (⟨"com/example/rafterwire/rafterwire/radio/FaultLines", "isQuiet", "()Z"⟩ : MethodName) (head1 (Jvm.Cond.code (⟨"com/example/rafterwire/rafterwire/radio/FaultLines", "isQuiet", "()Z"⟩ : MethodName) prog_31_method_2_code 1 (some .boolean) :: ws) ({ frames := 0, cells := 0, slots := 0, locals := 0 } : Room)) (fun as' U => as' = #[(.ref a)] ∧ Z.Warmed39 U.vm ∧ U.heap = h0) (fun _ _ _ _ _ => True) (fun _ U o U' => ∃ v L, o = .returned v ∧ Qq1 Z a o1 h0 n0 v U'.heap L ∧ FrameEnd U o U' L ({ frames := 0, cells := 0, slots := 0, locals := 0 } : Room).cells ({ frames := 0, cells := 0, slots := 0, locals := 0 } : Room).slots) := by
  refine MetFree.of_bodySF (plainFor_of_name pn_q1) hisR ?_
  intro p e s m args below meth c s₁ Bd hml0 hP hK
  obtain ⟨rfl, hZ, hh⟩ := hP
  have hx := Bd.exec
  have hby := Bd.bytes
  have hml : c.maxLocals = 1 := hml0
  have hown : s.vm.findClass "com/example/rafterwire/rafterwire/radio/FaultLines" = some m.cls := findClass_of_methodNamed Bd.named
  have hnm := (name_of_methodNamed Bd.named Bd.method).1
  have X0 : Stand p l e ({ frames := 0, cells := 0, slots := 0, locals := 0 } : Room) s m #[(.ref a)] below meth c s₁ [] 0 0 := Stand.of_body Bd
  have e0 : s₁.heap = h0 := by rw [← hh, Bd.state]; rfl
  have N0 := Fr.nil n0
  refine own_via (fun t k => castTop (ef_q1 m a) k) ?_
  show own_G _ _ _ _ (s₁.setTop (mkF m 0 #[.val (.ref a)] []))
  refine own_via (fun _ k => XS.aloadN X0.here hx rfl (hb hby dq1_0) rfl rfl k) ?_
  show own_G _ _ _ _ (s₁.setTop (mkF m 1 #[.val (.ref a)] [(.ref a)]))
  obtain ⟨T33, X33, e33, st33⟩ := getF X0 hx hZ hown (host := "") (Or.inl (hw _ (List.mem_of_getElem? (i := 38) rfl))) Via.refl e0 F_a_logged (g := (mkF m 1 #[.val (.ref a)] [(.ref a)])) rfl rfl (hb hby dq1_1)
  refine own_via st33 ?_
  show own_G _ _ _ _ (T33.setTop (mkF m 4 #[.val (.ref a)] [(.ref o1)]))
  refine own_via (fun _ k => XS.ifnonnullYes X33.here hx rfl (pc0 := 4) (pc' := 11) rfl (hb hby dq1_4) rfl (by decide) (by decide) k) ?_
  show own_G _ _ _ _ (T33.setTop (mkF m 11 #[.val (.ref a)] []))
  refine own_via (fun _ k => XS.iconst X33.here hx rfl (hb hby dq1_11) k) ?_
  show own_G _ _ _ _ (T33.setTop (mkF m 12 #[.val (.ref a)] [(.int (0 : Int32))]))
  obtain ⟨fs, hr, hrun, hended, hW, hsame⟩ := X33.leave (v := some (.int (0 : Int32))) (fun h => by rw [Bd.returns] at h; cases h)
  refine ⟨_, _, ?_, hrun, hended, _, _, rfl, ?_, ⟨_, rfl⟩, hW, hsame.mono (by decide) (by decide)⟩
  · exact retN X33 hx (t := .boolean) Bd.returns (by simp) (hb hby dq1_12) hr
  · show Qq1 Z a o1 h0 n0 _ T33.heap _
    rw [e33]
    exact ⟨rfl, N0, rfl⟩
theorem drs_0 : decode prog_31_method_4_code 0 = .ok (.aload_n 0, 1) := by decide +kernel
theorem drs_1 : decode prog_31_method_4_code 1 = .ok (.aconst_null, 1) := by decide +kernel
theorem drs_2 : decode prog_31_method_4_code 2 = .ok (.putfield 7, 3) := by decide +kernel
theorem drs_5 : decode prog_31_method_4_code 5 = .ok (.return_, 1) := by decide +kernel
theorem pn_rs : plainName "com/example/rafterwire/rafterwire/radio/FaultLines" = true := by first | (simp [plainName, overriddenIn]; done) | decide +kernel
theorem ef_rs (m : MethodId) (a : Addr) : entryFrame m #[(.ref a)] 1 = (mkF m 0 #[.val (.ref a)] []) := by first | (simp [entryFrame, mkF, argsToLocals, Value.category]; done) | rfl
def Qrs (Z : State) (a : Addr) (u : Value) (q1 : Int64) (h0 : Heap) (n0 : Nat) (v : Option Value) (h : Heap) (L : List Loc) : Prop := v = none ∧ Fr n0 L ∧ Keep h0 h [a] ∧ Exa Z h a "com/example/rafterwire/rafterwire/radio/FaultLines" ∧ Fld Z h a "com/example/rafterwire/rafterwire/radio/FaultLines" "logged" "Ljava/lang/String;" .null ∧ Fld Z h a "com/example/rafterwire/rafterwire/radio/FaultLines" "loggedAt" "J" (.long q1)
set_option maxRecDepth 65536 in
set_option maxHeartbeats 40000000 in
theorem rmrs (l : Launch) (Z : State) (a0 : Array Value) (hw : ∀ d ∈ tables_1, d.before a0 Z = true) (ws : List Jvm.Cond) (a : Addr) (u : Value) (q1 : Int64) (h0 : Heap) (n0 : Nat) (Z0 : n0 ≤ h0.size) (E_a : Exa Z h0 a "com/example/rafterwire/rafterwire/radio/FaultLines") (F_a_logged : Fld Z h0 a "com/example/rafterwire/rafterwire/radio/FaultLines" "logged" "Ljava/lang/String;" u) (F_a_loggedAt : Fld Z h0 a "com/example/rafterwire/rafterwire/radio/FaultLines" "loggedAt" "J" (.long q1)) (g_a : n0 ≤ a) :
    MetFree l (⟨"com/example/rafterwire/rafterwire/radio/FaultLines", "reset", "()V"⟩ : MethodName) (head1 (Jvm.Cond.code (⟨"com/example/rafterwire/rafterwire/radio/FaultLines", "reset", "()V"⟩ : MethodName) prog_31_method_4_code 1 none :: ws) ({ frames := 0, cells := 0, slots := 0, locals := 0 } : Room)) (fun as' U => as' = #[(.ref a)] ∧ Z.Warmed39 U.vm ∧ U.heap = h0) (fun _ _ _ _ _ => True) (fun _ U o U' => ∃ v L, o = .returned v ∧ Qrs Z a u q1 h0 n0 v U'.heap L ∧ FrameEnd U o U' L ({ frames := 0, cells := 0, slots := 0, locals := 0 } : Room).cells ({ frames := 0, cells := 0, slots := 0, locals := 0 } : Room).slots) := by
  refine MetFree.of_bodySF (plainFor_of_name pn_rs) hisR ?_
  intro p e s m args below meth c s₁ Bd hml0 hP hK
  obtain ⟨rfl, hZ, hh⟩ := hP
  have hx := Bd.exec
  have hby := Bd.bytes
  have hml : c.maxLocals = 1 := hml0
  have hown : s.vm.findClass "com/example/rafterwire/rafterwire/radio/FaultLines" = some m.cls := findClass_of_methodNamed Bd.named
  have hnm := (name_of_methodNamed Bd.named Bd.method).1
  have X0 : Stand p l e ({ frames := 0, cells := 0, slots := 0, locals := 0 } : Room) s m #[(.ref a)] below meth c s₁ [] 0 0 := Stand.of_body Bd
  have e0 : s₁.heap = h0 := by rw [← hh, Bd.state]; rfl
  have N0 := Fr.nil n0
  have K : Keep h0 h0 [a] := Keep.refl _ _
  refine own_via (fun t k => castTop (ef_rs m a) k) ?_
  show own_G _ _ _ _ (s₁.setTop (mkF m 0 #[.val (.ref a)] []))
  refine own_via (fun _ k => XS.aloadN X0.here hx rfl (hb hby drs_0) rfl rfl k) ?_
  show own_G _ _ _ _ (s₁.setTop (mkF m 1 #[.val (.ref a)] [(.ref a)]))
  refine own_via (fun _ k => XS.aconstNull X0.here hx rfl (hb hby drs_1) k) ?_
  show own_G _ _ _ _ (s₁.setTop (mkF m 2 #[.val (.ref a)] [.null, (.ref a)]))
  obtain ⟨T34, h34, X34, e34, W34, st34⟩ := putF X0 hx hZ hown (host := "") (Or.inl (hw _ (List.mem_of_getElem? (i := 38) rfl))) Via.refl e0 F_a_logged E_a (Or.inl (hw _ (List.mem_of_getElem? (i := 39) rfl))) (hw _ (List.mem_of_getElem? (i := 27) rfl)) (ty := (.object "java/lang/String")) (by decide) rfl rfl (g := (mkF m 2 #[.val (.ref a)] [.null, (.ref a)])) rfl rfl (hb hby drs_2)
  have F_a_logged := F_a_logged.same W34
  have F_a_loggedAt := F_a_loggedAt.other W34 (Or.inr (slot_ne (Or.inl (hw _ (List.mem_of_getElem? (i := 46) rfl))) (Or.inl (hw _ (List.mem_of_getElem? (i := 39) rfl))) (by decide) (t := .long) (t' := (.object "java/lang/String")) (by decide) (by decide)))
  have E_a := E_a.wr W34
  have Z0 := Nat.le_trans Z0 (Keep.of_wr W34).1
  have K := K.wr W34 (Or.inl (by simp))
  have N34 := Fr.snoc X34 N0 g_a
  refine own_via st34 ?_
  show own_G _ _ _ _ (T34.setTop (mkF m 5 #[.val (.ref a)] []))
  obtain ⟨fs, hr, hrun, hended, hW, hsame⟩ := X34.leave (v := none) (fun _ => rfl)
  refine ⟨_, _, ?_, hrun, hended, _, _, rfl, ?_, ⟨_, rfl⟩, hW, hsame.mono (by decide) (by decide)⟩
  · exact X34.returnOut hx Bd.returns (hb hby drs_5) hr
  · show Qrs Z a u q1 h0 n0 _ T34.heap _
    rw [e34]
    exact ⟨rfl, N34, K, E_a, F_a_logged, F_a_loggedAt⟩
theorem dt0_0 : decode prog_31_method_3_code 0 = .ok (.aload_n 0, 1) := by decide +kernel
theorem dt0_1 : decode prog_31_method_3_code 1 = .ok (.getfield 7, 3) := by decide +kernel
theorem dt0_4 : decode prog_31_method_3_code 4 = .ok (.ifnull 32, 3) := by decide +kernel
theorem dt0_7 : decode prog_31_method_3_code 7 = .ok (.aload_n 1, 1) := by decide +kernel
theorem dt0_8 : decode prog_31_method_3_code 8 = .ok (.aload_n 0, 1) := by decide +kernel
theorem dt0_9 : decode prog_31_method_3_code 9 = .ok (.getfield 7, 3) := by decide +kernel
theorem dt0_12 : decode prog_31_method_3_code 12 = .ok (.invokevirtual 13, 3) := by decide +kernel
theorem dt0_15 : decode prog_31_method_3_code 15 = .ok (.ifCond .ne 19, 3) := by decide +kernel
theorem dt0_18 : decode prog_31_method_3_code 18 = .ok (.lload_n 2, 1) := by decide +kernel
theorem dt0_19 : decode prog_31_method_3_code 19 = .ok (.aload_n 0, 1) := by decide +kernel
theorem dt0_20 : decode prog_31_method_3_code 20 = .ok (.getfield 19, 3) := by decide +kernel
theorem dt0_23 : decode prog_31_method_3_code 23 = .ok (.lsub, 1) := by decide +kernel
theorem dt0_24 : decode prog_31_method_3_code 24 = .ok (.getstatic 23, 3) := by decide +kernel
theorem dt0_27 : decode prog_31_method_3_code 27 = .ok (.invokevirtual 27, 3) := by decide +kernel
theorem dt0_30 : decode prog_31_method_3_code 30 = .ok (.lcmp, 1) := by decide +kernel
theorem dt0_31 : decode prog_31_method_3_code 31 = .ok (.ifCond .ge 5, 3) := by decide +kernel
theorem dt0_34 : decode prog_31_method_3_code 34 = .ok (.iconst 0, 1) := by decide +kernel
theorem dt0_35 : decode prog_31_method_3_code 35 = .ok (.ireturn, 1) := by decide +kernel
theorem dt0_36 : decode prog_31_method_3_code 36 = .ok (.aload_n 0, 1) := by decide +kernel
theorem dt0_37 : decode prog_31_method_3_code 37 = .ok (.aload_n 1, 1) := by decide +kernel
theorem dt0_38 : decode prog_31_method_3_code 38 = .ok (.putfield 7, 3) := by decide +kernel
theorem dt0_41 : decode prog_31_method_3_code 41 = .ok (.aload_n 0, 1) := by decide +kernel
theorem dt0_42 : decode prog_31_method_3_code 42 = .ok (.lload_n 2, 1) := by decide +kernel
theorem dt0_43 : decode prog_31_method_3_code 43 = .ok (.putfield 19, 3) := by decide +kernel
theorem dt0_46 : decode prog_31_method_3_code 46 = .ok (.iconst 1, 1) := by decide +kernel
theorem dt0_47 : decode prog_31_method_3_code 47 = .ok (.ireturn, 1) := by decide +kernel
theorem pn_t0 : plainName "com/example/rafterwire/rafterwire/radio/FaultLines" = true := by first | (simp [plainName, overriddenIn]; done) | decide +kernel
theorem ef_t0 (m : MethodId) (a : Addr) (b : Addr) (q2 : Int64) : entryFrame m #[(.ref a), (.ref b), (.long q2)] 4 = (mkF m 0 #[.val (.ref a), .val (.ref b), .val (.long q2), .second] []) := by first | (simp [entryFrame, mkF, argsToLocals, Value.category]; done) | rfl
def Qt0 (Z : State) (a : Addr) (b : Addr) (q2 : Int64) (q1 : Int64) (h0 : Heap) (n0 : Nat) (v : Option Value) (h : Heap) (L : List Loc) : Prop := v = some (.int 1) ∧ Fr n0 L ∧ Keep h0 h [a] ∧ Exa Z h a "com/example/rafterwire/rafterwire/radio/FaultLines" ∧ Fld Z h a "com/example/rafterwire/rafterwire/radio/FaultLines" "logged" "Ljava/lang/String;" (.ref b) ∧ Fld Z h a "com/example/rafterwire/rafterwire/radio/FaultLines" "loggedAt" "J" (.long q2)
set_option maxRecDepth 65536 in
set_option maxHeartbeats 40000000 in
theorem rmt0 (l : Launch) (Z : State) (a0 : Array Value) (hw : ∀ d ∈ tables_1, d.before a0 Z = true) (ws : List Jvm.Cond) (a : Addr) (b : Addr) (q2 : Int64) (q1 : Int64) (h0 : Heap) (n0 : Nat) (Z0 : n0 ≤ h0.size) (E_a : Exa Z h0 a "com/example/rafterwire/rafterwire/radio/FaultLines") (F_a_logged : Fld Z h0 a "com/example/rafterwire/rafterwire/radio/FaultLines" "logged" "Ljava/lang/String;" .null) (F_a_loggedAt : Fld Z h0 a "com/example/rafterwire/rafterwire/radio/FaultLines" "loggedAt" "J" (.long q1)) (g_a : n0 ≤ a) :
    MetFree l (⟨"com/example/rafterwire/rafterwire/radio/FaultLines", "take", "(Ljava/lang/String;J)Z"⟩ : MethodName) (head1 (Jvm.Cond.code (⟨"com/example/rafterwire/rafterwire/radio/FaultLines", "take", "(Ljava/lang/String;J)Z"⟩ : MethodName) prog_31_method_3_code 4 (some .boolean) :: ws) ({ frames := 0, cells := 0, slots := 0, locals := 0 } : Room)) (fun as' U => as' = #[(.ref a), (.ref b), (.long q2)] ∧ Z.Warmed39 U.vm ∧ U.heap = h0) (fun _ _ _ _ _ => True) (fun _ U o U' => ∃ v L, o = .returned v ∧ Qt0 Z a b q2 q1 h0 n0 v U'.heap L ∧ FrameEnd U o U' L ({ frames := 0, cells := 0, slots := 0, locals := 0 } : Room).cells ({ frames := 0, cells := 0, slots := 0, locals := 0 } : Room).slots) := by
  refine MetFree.of_bodySF (plainFor_of_name pn_t0) hisR ?_
  intro p e s m args below meth c s₁ Bd hml0 hP hK
  obtain ⟨rfl, hZ, hh⟩ := hP
  have hx := Bd.exec
  have hby := Bd.bytes
  have hml : c.maxLocals = 4 := hml0
  have hown : s.vm.findClass "com/example/rafterwire/rafterwire/radio/FaultLines" = some m.cls := findClass_of_methodNamed Bd.named
  have hnm := (name_of_methodNamed Bd.named Bd.method).1
  have X0 : Stand p l e ({ frames := 0, cells := 0, slots := 0, locals := 0 } : Room) s m #[(.ref a), (.ref b), (.long q2)] below meth c s₁ [] 0 0 := Stand.of_body Bd
  have e0 : s₁.heap = h0 := by rw [← hh, Bd.state]; rfl
  have N0 := Fr.nil n0
  have K : Keep h0 h0 [a] := Keep.refl _ _
  refine own_via (fun t k => castTop (ef_t0 m a b q2) k) ?_
  show own_G _ _ _ _ (s₁.setTop (mkF m 0 #[.val (.ref a), .val (.ref b), .val (.long q2), .second] []))
  refine own_via (fun _ k => XS.aloadN X0.here hx rfl (hb hby dt0_0) rfl rfl k) ?_
  show own_G _ _ _ _ (s₁.setTop (mkF m 1 #[.val (.ref a), .val (.ref b), .val (.long q2), .second] [(.ref a)]))
  obtain ⟨T35, X35, e35, st35⟩ := getF X0 hx hZ hown (host := "") (Or.inl (hw _ (List.mem_of_getElem? (i := 38) rfl))) Via.refl e0 F_a_logged (g := (mkF m 1 #[.val (.ref a), .val (.ref b), .val (.long q2), .second] [(.ref a)])) rfl rfl (hb hby dt0_1)
  refine own_via st35 ?_
  show own_G _ _ _ _ (T35.setTop (mkF m 4 #[.val (.ref a), .val (.ref b), .val (.long q2), .second] [.null]))
  refine own_via (fun _ k => XS.ifnullYes X35.here hx rfl (pc0 := 4) (pc' := 36) rfl (hb hby dt0_4) rfl (by decide) (by decide) k) ?_
  show own_G _ _ _ _ (T35.setTop (mkF m 36 #[.val (.ref a), .val (.ref b), .val (.long q2), .second] []))
  refine own_via (fun _ k => XS.aloadN X35.here hx rfl (hb hby dt0_36) rfl rfl k) ?_
  show own_G _ _ _ _ (T35.setTop (mkF m 37 #[.val (.ref a), .val (.ref b), .val (.long q2), .second] [(.ref a)]))
  refine own_via (fun _ k => XS.aloadN X35.here hx rfl (hb hby dt0_37) rfl rfl k) ?_
  show own_G _ _ _ _ (T35.setTop (mkF m 38 #[.val (.ref a), .val (.ref b), .val (.long q2), .second] [(.ref b), (.ref a)]))
  obtain ⟨T36, h36, X36, e36, W36, st36⟩ := putF X35 hx hZ hown (host := "") (Or.inl (hw _ (List.mem_of_getElem? (i := 38) rfl))) Via.refl e35 F_a_logged E_a (Or.inl (hw _ (List.mem_of_getElem? (i := 39) rfl))) (hw _ (List.mem_of_getElem? (i := 27) rfl)) (ty := (.object "java/lang/String")) (by decide) rfl rfl (g := (mkF m 38 #[.val (.ref a), .val (.ref b), .val (.long q2), .second] [(.ref b), (.ref a)])) rfl rfl (hb hby dt0_38)
  have F_a_logged := F_a_logged.same W36
  have F_a_loggedAt := F_a_loggedAt.other W36 (Or.inr (slot_ne (Or.inl (hw _ (List.mem_of_getElem? (i := 46) rfl))) (Or.inl (hw _ (List.mem_of_getElem? (i := 39) rfl))) (by decide) (t := .long) (t' := (.object "java/lang/String")) (by decide) (by decide)))
  have E_a := E_a.wr W36
  have Z0 := Nat.le_trans Z0 (Keep.of_wr W36).1
  have K := K.wr W36 (Or.inl (by simp))
  have N36 := Fr.snoc X36 N0 g_a
  refine own_via st36 ?_
  show own_G _ _ _ _ (T36.setTop (mkF m 41 #[.val (.ref a), .val (.ref b), .val (.long q2), .second] []))
  refine own_via (fun _ k => XS.aloadN X36.here hx rfl (hb hby dt0_41) rfl rfl k) ?_
  show own_G _ _ _ _ (T36.setTop (mkF m 42 #[.val (.ref a), .val (.ref b), .val (.long q2), .second] [(.ref a)]))
  refine own_via (fun _ k => XS.lloadN X36.here hx rfl (hb hby dt0_42) rfl k) ?_
  show own_G _ _ _ _ (T36.setTop (mkF m 43 #[.val (.ref a), .val (.ref b), .val (.long q2), .second] [(.long q2), (.ref a)]))
  obtain ⟨T37, h37, X37, e37, W37, st37⟩ := putF X36 hx hZ hown (host := "") (Or.inl (hw _ (List.mem_of_getElem? (i := 45) rfl))) Via.refl e36 F_a_loggedAt E_a (Or.inl (hw _ (List.mem_of_getElem? (i := 46) rfl))) (hw _ (List.mem_of_getElem? (i := 27) rfl)) (ty := .long) (by decide) rfl rfl (g := (mkF m 43 #[.val (.ref a), .val (.ref b), .val (.long q2), .second] [(.long q2), (.ref a)])) rfl rfl (hb hby dt0_43)
  have F_a_loggedAt := F_a_loggedAt.same W37
  have F_a_logged := F_a_logged.other W37 (Or.inr (slot_ne (Or.inl (hw _ (List.mem_of_getElem? (i := 39) rfl))) (Or.inl (hw _ (List.mem_of_getElem? (i := 46) rfl))) (by decide) (t := (.object "java/lang/String")) (t' := .long) (by decide) (by decide)))
  have E_a := E_a.wr W37
  have Z0 := Nat.le_trans Z0 (Keep.of_wr W37).1
  have K := K.wr W37 (Or.inl (by simp))
  have N37 := Fr.snoc X37 N36 g_a
  refine own_via st37 ?_
  show own_G _ _ _ _ (T37.setTop (mkF m 46 #[.val (.ref a), .val (.ref b), .val (.long q2), .second] []))
  refine own_via (fun _ k => XS.iconst X37.here hx rfl (hb hby dt0_46) k) ?_
  show own_G _ _ _ _ (T37.setTop (mkF m 47 #[.val (.ref a), .val (.ref b), .val (.long q2), .second] [(.int (1 : Int32))]))
  obtain ⟨fs, hr, hrun, hended, hW, hsame⟩ := X37.leave (v := some (.int (1 : Int32))) (fun h => by rw [Bd.returns] at h; cases h)
  refine ⟨_, _, ?_, hrun, hended, _, _, rfl, ?_, ⟨_, rfl⟩, hW, hsame.mono (by decide) (by decide)⟩
  · exact retN X37 hx (t := .boolean) Bd.returns (by simp) (hb hby dt0_47) hr
  · show Qt0 Z a b q2 q1 h0 n0 _ T37.heap _
    rw [e37]
    exact ⟨rfl, N37, K, E_a, F_a_logged, F_a_loggedAt⟩
theorem pn_t1 : plainName "com/example/rafterwire/rafterwire/radio/FaultLines" = true := by first | (simp [plainName, overriddenIn]; done) | decide +kernel
theorem ef_t1 (m : MethodId) (a : Addr) (b : Addr) (q2 : Int64) : entryFrame m #[(.ref a), (.ref b), (.long q2)] 4 = (mkF m 0 #[.val (.ref a), .val (.ref b), .val (.long q2), .second] []) := by first | (simp [entryFrame, mkF, argsToLocals, Value.category]; done) | rfl
def Qt1 (Z : State) (a : Addr) (b : Addr) (q2 : Int64) (q1 : Int64) (o1 : Addr) (t1 : Addr) (t2 : Addr) (k1 : ClassId) (k2 : ClassId) (z1 : Int32) (z2 : Int32) (cs : Int32) (du : Addr) (h0 : Heap) (n0 : Nat) (v : Option Value) (h : Heap) (L : List Loc) : Prop := ∃ (r : Int32) (o2 : Addr) (q3 : Int64), v = some (.int r) ∧ Fr n0 L ∧ Keep h0 h [a] ∧ Exa Z h a "com/example/rafterwire/rafterwire/radio/FaultLines" ∧ Fld Z h a "com/example/rafterwire/rafterwire/radio/FaultLines" "logged" "Ljava/lang/String;" (.ref o2) ∧ Fld Z h a "com/example/rafterwire/rafterwire/radio/FaultLines" "loggedAt" "J" (.long q3)
set_option maxRecDepth 65536 in
set_option maxHeartbeats 40000000 in
theorem rmt1 (l : Launch) (Z : State) (a0 : Array Value) (hw : ∀ d ∈ tables_1, d.before a0 Z = true) (ws : List Jvm.Cond) (a : Addr) (b : Addr) (q2 : Int64) (q1 : Int64) (o1 : Addr) (t1 : Addr) (t2 : Addr) (k1 : ClassId) (k2 : ClassId) (z1 : Int32) (z2 : Int32) (cs : Int32) (du : Addr) (h0 : Heap) (n0 : Nat) (Z0 : n0 ≤ h0.size) (E_a : Exa Z h0 a "com/example/rafterwire/rafterwire/radio/FaultLines") (F_a_logged : Fld Z h0 a "com/example/rafterwire/rafterwire/radio/FaultLines" "logged" "Ljava/lang/String;" (.ref o1)) (F_a_loggedAt : Fld Z h0 a "com/example/rafterwire/rafterwire/radio/FaultLines" "loggedAt" "J" (.long q1)) (g_a : n0 ≤ a) (E_b : Exa Z h0 b "java/lang/String") (F_b_value : Fld Z h0 b "java/lang/String" "value" "[B" (.ref t1)) (F_b_coder : Fld Z h0 b "java/lang/String" "coder" "B" (.int ((0 : Int32).toInt8.toInt32))) (V_t1 : Arv Z h0 t1 k1 .byte (1 : Int32) ([(.int z1)] : List Value) (.int (0 : Int32))) (E_o1 : Exa Z h0 o1 "java/lang/String") (F_o1_value : Fld Z h0 o1 "java/lang/String" "value" "[B" (.ref t2)) (F_o1_coder : Fld Z h0 o1 "java/lang/String" "coder" "B" (.int ((0 : Int32).toInt8.toInt32))) (V_t2 : Arv Z h0 t2 k2 .byte (1 : Int32) ([(.int z2)] : List Value) (.int (0 : Int32))) (S_c : Sta Z h0 "java/lang/String" "COMPACT_STRINGS" "Z" (.int cs)) (hcs : ¬ cs = (0 : Int32)) (S_i : Sta Z h0 "com/example/rafterwire/rafterwire/radio/FaultLines" "INTERVAL" "Ljava/time/Duration;" (.ref du)) (E_du : Exa Z h0 du "java/time/Duration") (F_du_seconds : Fld Z h0 du "java/time/Duration" "seconds" "J" (.long 10)) (F_du_nanos : Fld Z h0 du "java/time/Duration" "nanos" "I" (.int 0)) :
    MetFree l (⟨"com/example/rafterwire/rafterwire/radio/FaultLines", "take", "(Ljava/lang/String;J)Z"⟩ : MethodName) (head1 (Jvm.Cond.code (⟨"com/example/rafterwire/rafterwire/radio/FaultLines", "take", "(Ljava/lang/String;J)Z"⟩ : MethodName) prog_31_method_3_code 4 (some .boolean) :: ws) ({ frames := 3, cells := 0, slots := 0, locals := 100 } : Room)) (fun as' U => as' = #[(.ref a), (.ref b), (.long q2)] ∧ Z.Warmed39 U.vm ∧ U.heap = h0) (fun _ _ _ _ _ => True) (fun _ U o U' => ∃ v L, o = .returned v ∧ Qt1 Z a b q2 q1 o1 t1 t2 k1 k2 z1 z2 cs du h0 n0 v U'.heap L ∧ FrameEnd U o U' L ({ frames := 3, cells := 0, slots := 0, locals := 100 } : Room).cells ({ frames := 3, cells := 0, slots := 0, locals := 100 } : Room).slots) := by
  refine MetFree.of_bodySF (plainFor_of_name pn_t1) hisR ?_
  intro p e s m args below meth c s₁ Bd hml0 hP hK
  obtain ⟨rfl, hZ, hh⟩ := hP
  have hx := Bd.exec
  have hby := Bd.bytes
  have hml : c.maxLocals = 4 := hml0
  have hown : s.vm.findClass "com/example/rafterwire/rafterwire/radio/FaultLines" = some m.cls := findClass_of_methodNamed Bd.named
  have hnm := (name_of_methodNamed Bd.named Bd.method).1
  have X0 : Stand p l e ({ frames := 3, cells := 0, slots := 0, locals := 100 } : Room) s m #[(.ref a), (.ref b), (.long q2)] below meth c s₁ [] 0 0 := Stand.of_body Bd
  have e0 : s₁.heap = h0 := by rw [← hh, Bd.state]; rfl
  have N0 := Fr.nil n0
  have K : Keep h0 h0 [a] := Keep.refl _ _
  refine own_via (fun t k => castTop (ef_t1 m a b q2) k) ?_
  show own_G _ _ _ _ (s₁.setTop (mkF m 0 #[.val (.ref a), .val (.ref b), .val (.long q2), .second] []))
  refine own_via (fun _ k => XS.aloadN X0.here hx rfl (hb hby dt0_0) rfl rfl k) ?_
  show own_G _ _ _ _ (s₁.setTop (mkF m 1 #[.val (.ref a), .val (.ref b), .val (.long q2), .second] [(.ref a)]))
  obtain ⟨T38, X38, e38, st38⟩ := getF X0 hx hZ hown (host := "") (Or.inl (hw _ (List.mem_of_getElem? (i := 38) rfl))) Via.refl e0 F_a_logged (g := (mkF m 1 #[.val (.ref a), .val (.ref b), .val (.long q2), .second] [(.ref a)])) rfl rfl (hb hby dt0_1)
  refine own_via st38 ?_
  show own_G _ _ _ _ (T38.setTop (mkF m 4 #[.val (.ref a), .val (.ref b), .val (.long q2), .second] [(.ref o1)]))
  refine own_via (fun _ k => XS.ifnullNo X38.here hx rfl (hb hby dt0_4) rfl k) ?_
  show own_G _ _ _ _ (T38.setTop (mkF m 7 #[.val (.ref a), .val (.ref b), .val (.long q2), .second] []))
  refine own_via (fun _ k => XS.aloadN X38.here hx rfl (hb hby dt0_7) rfl rfl k) ?_
  show own_G _ _ _ _ (T38.setTop (mkF m 8 #[.val (.ref a), .val (.ref b), .val (.long q2), .second] [(.ref b)]))
  refine own_via (fun _ k => XS.aloadN X38.here hx rfl (hb hby dt0_8) rfl rfl k) ?_
  show own_G _ _ _ _ (T38.setTop (mkF m 9 #[.val (.ref a), .val (.ref b), .val (.long q2), .second] [(.ref a), (.ref b)]))
  obtain ⟨T39, X39, e39, st39⟩ := getF X38 hx hZ hown (host := "") (Or.inl (hw _ (List.mem_of_getElem? (i := 38) rfl))) Via.refl e38 F_a_logged (g := (mkF m 9 #[.val (.ref a), .val (.ref b), .val (.long q2), .second] [(.ref a), (.ref b)])) rfl rfl (hb hby dt0_9)
  refine own_via st39 ?_
  show own_G _ _ _ _ (T39.setTop (mkF m 12 #[.val (.ref a), .val (.ref b), .val (.long q2), .second] [(.ref o1), (.ref b)]))
  obtain ⟨cq40, kq40, q40a, q40b, q40c⟩ := isOf hZ e39 E_b
  obtain ⟨_, _, ⟨T40, L40, k40, n40⟩, -, X40, ⟨Lc40, hQ40, l40, y40, z40⟩, st40⟩ := X39.virtualBack hx (y := (⟨"java/lang/String", "equals", "(Ljava/lang/Object;)Z"⟩ : MethodName)) (z := (⟨"java/lang/String", "equals", "(Ljava/lang/Object;)Z"⟩ : MethodName)) hown (mvT hZ (hw _ (List.mem_of_getElem? (i := 52) rfl))) (mvT hZ (hw _ (List.mem_of_getElem? (i := 53) rfl))) (notFace_of_selects (args := #[]) (mvT hZ (hw _ (List.mem_of_getElem? (i := 55) rfl)))) (mvT hZ (hw _ (List.mem_of_getElem? (i := 55) rfl))) (mvT hZ (hw _ (List.mem_of_getElem? (i := 54) rfl))) (by decide) (backOf (W := 0) (rmeq l Z a0 hw [] b o1 t1 t2 k1 k2 z1 z2 cs h0 n0 Z0 E_b F_b_value F_b_coder V_t1 E_o1 F_o1_value F_o1_coder V_t2 S_c hcs) hZ (hw _ (List.mem_of_getElem? (i := 56) rfl)) (hw _ (List.mem_of_getElem? (i := 2) rfl)) (by decide) (by decide)) q40a q40c (g := (mkF m 12 #[.val (.ref a), .val (.ref b), .val (.long q2), .second] [(.ref o1), (.ref b)])) rfl (by rw [hml]; rfl) (Steps.refl _) (argsL := [(.ref o1)]) (rest := []) (lenOf pd_6 rfl) rfl (by show 2 * 0 + _ ≤ _; exact Nat.le_of_eq rfl) (hb hby dt0_12) (fun _ _ => ⟨rfl, e39, Nat.le_of_ble_eq_true rfl, Nat.le_of_ble_eq_true rfl⟩)
  dsimp only [Pt.U, Pt.locs, Pt.cells, Pt.slots] at X40 l40 y40 z40 st40 hQ40
  subst l40 y40 z40
  obtain ⟨r, rfl, N40q, e40⟩ := hQ40
  have N40 := Fr.app N0 N40q
  refine own_via (fun _ kt => st40.trans kt) ?_
  show own_G _ _ _ _ (T40.setTop (mkF m 15 #[.val (.ref a), .val (.ref b), .val (.long q2), .second] [(.int r)]))
  by_cases hr : r = (0 : Int32)
  · refine own_via (fun _ k => XS.ifNo X40.here hx rfl (hb hby dt0_15) rfl ((if0 _ _).trans (teq hr).2) k) ?_
    show own_G _ _ _ _ (T40.setTop (mkF m 18 #[.val (.ref a), .val (.ref b), .val (.long q2), .second] []))
    refine own_via (fun _ k => XS.lloadN X40.here hx rfl (hb hby dt0_18) rfl k) ?_
    show own_G _ _ _ _ (T40.setTop (mkF m 19 #[.val (.ref a), .val (.ref b), .val (.long q2), .second] [(.long q2)]))
    refine own_via (fun _ k => XS.aloadN X40.here hx rfl (hb hby dt0_19) rfl rfl k) ?_
    show own_G _ _ _ _ (T40.setTop (mkF m 20 #[.val (.ref a), .val (.ref b), .val (.long q2), .second] [(.ref a), (.long q2)]))
    obtain ⟨T41, X41, e41, st41⟩ := getF X40 hx hZ hown (host := "") (Or.inl (hw _ (List.mem_of_getElem? (i := 45) rfl))) Via.refl e40 F_a_loggedAt (g := (mkF m 20 #[.val (.ref a), .val (.ref b), .val (.long q2), .second] [(.ref a), (.long q2)])) rfl rfl (hb hby dt0_20)
    refine own_via st41 ?_
    show own_G _ _ _ _ (T41.setTop (mkF m 23 #[.val (.ref a), .val (.ref b), .val (.long q2), .second] [(.long q1), (.long q2)]))
    refine own_via (fun _ k => XS.lsub X41.here hx rfl (hb hby dt0_23) rfl k) ?_
    show own_G _ _ _ _ (T41.setTop (mkF m 24 #[.val (.ref a), .val (.ref b), .val (.long q2), .second] [(.long (q2 - q1))]))
    obtain ⟨T42, X42, e42, st42⟩ := getS2 X41 hx hZ hown (host := "") (Or.inl (hw _ (List.mem_of_getElem? (i := 60) rfl))) Via.refl e41 S_i (g := (mkF m 24 #[.val (.ref a), .val (.ref b), .val (.long q2), .second] [(.long (q2 - q1))])) rfl (hb hby dt0_24)
    refine own_via st42 ?_
    show own_G _ _ _ _ (T42.setTop (mkF m 27 #[.val (.ref a), .val (.ref b), .val (.long q2), .second] [(.ref du), (.long (q2 - q1))]))
    obtain ⟨cq43, kq43, q43a, q43b, q43c⟩ := isOf hZ e42 E_du
    obtain ⟨_, _, ⟨T43, L43, k43, n43⟩, -, X43, ⟨Lc43, hQ43, l43, y43, z43⟩, st43⟩ := X42.virtualBack hx (y := (⟨"java/time/Duration", "toNanos", "()J"⟩ : MethodName)) (z := (⟨"java/time/Duration", "toNanos", "()J"⟩ : MethodName)) hown (mvT hZ (hw _ (List.mem_of_getElem? (i := 62) rfl))) (mvT hZ (hw _ (List.mem_of_getElem? (i := 63) rfl))) (notFace_of_selects (args := #[]) (mvT hZ (hw _ (List.mem_of_getElem? (i := 65) rfl)))) (mvT hZ (hw _ (List.mem_of_getElem? (i := 65) rfl))) (mvT hZ (hw _ (List.mem_of_getElem? (i := 64) rfl))) (by decide) (backOf (W := 2) (rmtn l Z a0 hw [] du h0 n0 Z0 F_du_seconds F_du_nanos) hZ (hw _ (List.mem_of_getElem? (i := 67) rfl)) (hw _ (List.mem_of_getElem? (i := 66) rfl)) (by decide) (by decide)) q43a q43c (g := (mkF m 27 #[.val (.ref a), .val (.ref b), .val (.long q2), .second] [(.ref du), (.long (q2 - q1))])) rfl (by rw [hml]; rfl) (Steps.refl _) (argsL := []) (rest := [(.long (q2 - q1))]) (lenOf pd_7 rfl) rfl (by show 2 * 0 + _ ≤ _; exact Nat.le_of_eq rfl) (hb hby dt0_27) (fun _ _ => ⟨rfl, e42, Nat.le_of_ble_eq_true rfl, Nat.le_of_ble_eq_true rfl⟩)
    dsimp only [Pt.U, Pt.locs, Pt.cells, Pt.slots] at X43 l43 y43 z43 st43 hQ43
    subst l43 y43 z43
    obtain ⟨dn, rfl, N43q, e43⟩ := hQ43
    have N43 := Fr.app N40 N43q
    refine own_via (fun _ kt => st43.trans kt) ?_
    show own_G _ _ _ _ (T43.setTop (mkF m 30 #[.val (.ref a), .val (.ref b), .val (.long q2), .second] [(.long dn), (.long (q2 - q1))]))
    refine own_via (fun _ k => XS.lcmp X43.here hx rfl (hb hby dt0_30) rfl k) ?_
    show own_G _ _ _ _ (T43.setTop (mkF m 31 #[.val (.ref a), .val (.ref b), .val (.long q2), .second] [(.int (lcmpW (q2 - q1) dn))]))
    by_cases hd : (q2 - q1) < dn
    · refine own_via (fun _ k => XS.ifNo X43.here hx rfl (hb hby dt0_31) rfl ((if0 _ _).trans (tlt ((lw_lt _ _).mpr hd)).2.1) k) ?_
      show own_G _ _ _ _ (T43.setTop (mkF m 34 #[.val (.ref a), .val (.ref b), .val (.long q2), .second] []))
      refine own_via (fun _ k => XS.iconst X43.here hx rfl (hb hby dt0_34) k) ?_
      show own_G _ _ _ _ (T43.setTop (mkF m 35 #[.val (.ref a), .val (.ref b), .val (.long q2), .second] [(.int (0 : Int32))]))
      obtain ⟨fs, hr, hrun, hended, hW, hsame⟩ := X43.leave (v := some (.int (0 : Int32))) (fun h => by rw [Bd.returns] at h; cases h)
      refine ⟨_, _, ?_, hrun, hended, _, _, rfl, ?_, ⟨_, rfl⟩, hW, hsame.mono (by decide) (by decide)⟩
      · exact retN X43 hx (t := .boolean) Bd.returns (by simp) (hb hby dt0_35) hr
      · show Qt1 Z a b q2 q1 o1 t1 t2 k1 k2 z1 z2 cs du h0 n0 _ T43.heap _
        rw [e43]
        exact ⟨_, o1, q1, rfl, N43, K, E_a, F_a_logged, F_a_loggedAt⟩
    · refine own_via (fun _ k => XS.ifYes X43.here hx rfl (pc0 := 31) (pc' := 36) rfl (hb hby dt0_31) rfl ((if0 _ _).trans (flt (fun z => hd ((lw_lt _ _).mp z))).2.1) (by decide) (by decide) k) ?_
      show own_G _ _ _ _ (T43.setTop (mkF m 36 #[.val (.ref a), .val (.ref b), .val (.long q2), .second] []))
      refine own_via (fun _ k => XS.aloadN X43.here hx rfl (hb hby dt0_36) rfl rfl k) ?_
      show own_G _ _ _ _ (T43.setTop (mkF m 37 #[.val (.ref a), .val (.ref b), .val (.long q2), .second] [(.ref a)]))
      refine own_via (fun _ k => XS.aloadN X43.here hx rfl (hb hby dt0_37) rfl rfl k) ?_
      show own_G _ _ _ _ (T43.setTop (mkF m 38 #[.val (.ref a), .val (.ref b), .val (.long q2), .second] [(.ref b), (.ref a)]))
      obtain ⟨T44, h44, X44, e44, W44, st44⟩ := putF X43 hx hZ hown (host := "") (Or.inl (hw _ (List.mem_of_getElem? (i := 38) rfl))) Via.refl e43 F_a_logged E_a (Or.inl (hw _ (List.mem_of_getElem? (i := 39) rfl))) (hw _ (List.mem_of_getElem? (i := 27) rfl)) (ty := (.object "java/lang/String")) (by decide) rfl rfl (g := (mkF m 38 #[.val (.ref a), .val (.ref b), .val (.long q2), .second] [(.ref b), (.ref a)])) rfl rfl (hb hby dt0_38)
      have F_a_logged := F_a_logged.same W44
      have F_a_loggedAt := F_a_loggedAt.other W44 (Or.inr (slot_ne (Or.inl (hw _ (List.mem_of_getElem? (i := 46) rfl))) (Or.inl (hw _ (List.mem_of_getElem? (i := 39) rfl))) (by decide) (t := .long) (t' := (.object "java/lang/String")) (by decide) (by decide)))
      have E_a := E_a.wr W44
      have Z0 := Nat.le_trans Z0 (Keep.of_wr W44).1
      have K := K.wr W44 (Or.inl (by simp))
      have N44 := Fr.snoc X44 N43 g_a
      refine own_via st44 ?_
      show own_G _ _ _ _ (T44.setTop (mkF m 41 #[.val (.ref a), .val (.ref b), .val (.long q2), .second] []))
      refine own_via (fun _ k => XS.aloadN X44.here hx rfl (hb hby dt0_41) rfl rfl k) ?_
      show own_G _ _ _ _ (T44.setTop (mkF m 42 #[.val (.ref a), .val (.ref b), .val (.long q2), .second] [(.ref a)]))
      refine own_via (fun _ k => XS.lloadN X44.here hx rfl (hb hby dt0_42) rfl k) ?_
      show own_G _ _ _ _ (T44.setTop (mkF m 43 #[.val (.ref a), .val (.ref b), .val (.long q2), .second] [(.long q2), (.ref a)]))
      obtain ⟨T45, h45, X45, e45, W45, st45⟩ := putF X44 hx hZ hown (host := "") (Or.inl (hw _ (List.mem_of_getElem? (i := 45) rfl))) Via.refl e44 F_a_loggedAt E_a (Or.inl (hw _ (List.mem_of_getElem? (i := 46) rfl))) (hw _ (List.mem_of_getElem? (i := 27) rfl)) (ty := .long) (by decide) rfl rfl (g := (mkF m 43 #[.val (.ref a), .val (.ref b), .val (.long q2), .second] [(.long q2), (.ref a)])) rfl rfl (hb hby dt0_43)
      have F_a_loggedAt := F_a_loggedAt.same W45
      have F_a_logged := F_a_logged.other W45 (Or.inr (slot_ne (Or.inl (hw _ (List.mem_of_getElem? (i := 39) rfl))) (Or.inl (hw _ (List.mem_of_getElem? (i := 46) rfl))) (by decide) (t := (.object "java/lang/String")) (t' := .long) (by decide) (by decide)))
      have E_a := E_a.wr W45
      have Z0 := Nat.le_trans Z0 (Keep.of_wr W45).1
      have K := K.wr W45 (Or.inl (by simp))
      have N45 := Fr.snoc X45 N44 g_a
      refine own_via st45 ?_
      show own_G _ _ _ _ (T45.setTop (mkF m 46 #[.val (.ref a), .val (.ref b), .val (.long q2), .second] []))
      refine own_via (fun _ k => XS.iconst X45.here hx rfl (hb hby dt0_46) k) ?_
      show own_G _ _ _ _ (T45.setTop (mkF m 47 #[.val (.ref a), .val (.ref b), .val (.long q2), .second] [(.int (1 : Int32))]))
      obtain ⟨fs, hr, hrun, hended, hW, hsame⟩ := X45.leave (v := some (.int (1 : Int32))) (fun h => by rw [Bd.returns] at h; cases h)
      refine ⟨_, _, ?_, hrun, hended, _, _, rfl, ?_, ⟨_, rfl⟩, hW, hsame.mono (by decide) (by decide)⟩
      · exact retN X45 hx (t := .boolean) Bd.returns (by simp) (hb hby dt0_47) hr
      · show Qt1 Z a b q2 q1 o1 t1 t2 k1 k2 z1 z2 cs du h0 n0 _ T45.heap _
        rw [e45]
        exact ⟨_, b, q2, rfl, N45, K, E_a, F_a_logged, F_a_loggedAt⟩
  · refine own_via (fun _ k => XS.ifYes X40.here hx rfl (pc0 := 15) (pc' := 34) rfl (hb hby dt0_15) rfl ((if0 _ _).trans (feq hr).2) (by decide) (by decide) k) ?_
    show own_G _ _ _ _ (T40.setTop (mkF m 34 #[.val (.ref a), .val (.ref b), .val (.long q2), .second] []))
    refine own_via (fun _ k => XS.iconst X40.here hx rfl (hb hby dt0_34) k) ?_
    show own_G _ _ _ _ (T40.setTop (mkF m 35 #[.val (.ref a), .val (.ref b), .val (.long q2), .second] [(.int (0 : Int32))]))
    obtain ⟨fs, hr, hrun, hended, hW, hsame⟩ := X40.leave (v := some (.int (0 : Int32))) (fun h => by rw [Bd.returns] at h; cases h)
    refine ⟨_, _, ?_, hrun, hended, _, _, rfl, ?_, ⟨_, rfl⟩, hW, hsame.mono (by decide) (by decide)⟩
    · exact retN X40 hx (t := .boolean) Bd.returns (by simp) (hb hby dt0_35) hr
    · show Qt1 Z a b q2 q1 o1 t1 t2 k1 k2 z1 z2 cs du h0 n0 _ T40.heap _
      rw [e40]
      exact ⟨_, o1, q1, rfl, N40, K, E_a, F_a_logged, F_a_loggedAt⟩
theorem pn_0 : plainName "com/example/rafterwire/rafterwire/radio/FaultLinesIsQuietPinLaw" = true := by first | (simp [plainName, overriddenIn]; done) | decide +kernel
theorem ef_0 (m : MethodId) (i1 : Int32) (i2 : Int32) (j1 : Int64) (j2 : Int64) (i3 : Int32) : entryFrame m #[(.int i1), (.int i2), (.long j1), (.long j2), (.int i3)] maxLocals = (mkF m 0 #[.val (.int i1), .val (.int i2), .val (.long j1), .second, .val (.long j2), .second, .val (.int i3), .unset, .unset, .unset, .unset, .unset, .unset, .unset] []) := by first | (simp [entryFrame, mkF, argsToLocals, Value.category, maxLocals]; done) | rfl
set_option maxRecDepth 65536 in
set_option maxHeartbeats 40000000 in
theorem rm0 (l : Launch) (Z : State) (a0 : Array Value) (hw : ∀ d ∈ tables_1, d.before a0 Z = true) (ws : List Jvm.Cond) (i1 : Int32) (i2 : Int32) (j1 : Int64) (j2 : Int64) (i3 : Int32) (h0 : Heap) (n0 : Nat) (Z0 : n0 ≤ h0.size) (cs : Int32) (du : Addr) (S_c : Sta Z h0 "java/lang/String" "COMPACT_STRINGS" "Z" (.int cs)) (hcs : ¬ cs = (0 : Int32)) (S_i : Sta Z h0 "com/example/rafterwire/rafterwire/radio/FaultLines" "INTERVAL" "Ljava/time/Duration;" (.ref du)) (E_du : Exa Z h0 du "java/time/Duration") (F_du_seconds : Fld Z h0 du "java/time/Duration" "seconds" "J" (.long 10)) (F_du_nanos : Fld Z h0 du "java/time/Duration" "nanos" "I" (.int 0)) :
    MetFree l x (head1 (Jvm.Cond.code x code maxLocals ret :: ws) room_1) (fun as' U => as' = #[(.int i1), (.int i2), (.long j1), (.long j2), (.int i3)] ∧ Z.Warmed39 U.vm ∧ U.heap = h0) (fun _ _ _ _ _ => True) (fun _ U o U' => ∃ v L, o = .returned v ∧ (v = some (.int 1) ∧ Fr n0 L) ∧ FrameEnd U o U' L 5 12) := by
  refine MetFree.of_bodySF (plainFor_of_name pn_0) hisR ?_
  intro p e s m args below meth c s₁ Bd hml0 hP hK
  obtain ⟨rfl, hZ, hh⟩ := hP
  have hx := Bd.exec
  have hby := Bd.bytes
  have hml : c.maxLocals = 14 := hml0
  have hown : s.vm.findClass "com/example/rafterwire/rafterwire/radio/FaultLinesIsQuietPinLaw" = some m.cls := findClass_of_methodNamed Bd.named
  have hnm := (name_of_methodNamed Bd.named Bd.method).1
  have X0 : Stand p l e room_1 s m #[(.int i1), (.int i2), (.long j1), (.long j2), (.int i3)] below meth c s₁ [] 0 0 := Stand.of_body Bd
  have e0 : s₁.heap = h0 := by rw [← hh, Bd.state]; rfl
  have N0 := Fr.nil n0
  refine own_via (fun t k => castTop (ef_0 m i1 i2 j1 j2 i3) k) ?_
  show own_G _ _ _ _ (s₁.setTop (mkF m 0 #[.val (.int i1), .val (.int i2), .val (.long j1), .second, .val (.long j2), .second, .val (.int i3), .unset, .unset, .unset, .unset, .unset, .unset, .unset] []))
  refine own_via (fun _ k => XS.iloadN X0.here hx rfl (hb hby at_0) rfl k) ?_
  show own_G _ _ _ _ (s₁.setTop (mkF m 1 #[.val (.int i1), .val (.int i2), .val (.long j1), .second, .val (.long j2), .second, .val (.int i3), .unset, .unset, .unset, .unset, .unset, .unset, .unset] [(.int i1)]))
  refine own_via (fun _ k => XS.sipush X0.here hx rfl (hb hby at_1) k) ?_
  show own_G _ _ _ _ (s₁.setTop (mkF m 4 #[.val (.int i1), .val (.int i2), .val (.long j1), .second, .val (.long j2), .second, .val (.int i3), .unset, .unset, .unset, .unset, .unset, .unset, .unset] [(.int (255 : Int32)), (.int i1)]))
  refine own_via (fun _ k => XS.iand X0.here hx rfl (hb hby at_4) rfl k) ?_
  show own_G _ _ _ _ (s₁.setTop (mkF m 5 #[.val (.int i1), .val (.int i2), .val (.long j1), .second, .val (.long j2), .second, .val (.int i3), .unset, .unset, .unset, .unset, .unset, .unset, .unset] [(.int (i1 &&& (255 : Int32)))]))
  refine own_via (fun _ k => XS.i2c X0.here hx rfl (hb hby at_5) rfl k) ?_
  show own_G _ _ _ _ (s₁.setTop (mkF m 6 #[.val (.int i1), .val (.int i2), .val (.long j1), .second, .val (.long j2), .second, .val (.int i3), .unset, .unset, .unset, .unset, .unset, .unset, .unset] [(.int ((i1 &&& (255 : Int32)).toUInt32.toUInt16.toUInt32.toInt32))]))
  have ld0 := E_du
  obtain ⟨_, _, ⟨T46, L46, k46, n46⟩, -, X46, ⟨Lc46, hQ46, l46, y46, z46⟩, st46⟩ := Jvm.LawKit.callS X0 hx (y := (⟨"java/lang/String", "valueOf", "(C)Ljava/lang/String;"⟩ : MethodName)) hown (mvT hZ (hw _ (List.mem_of_getElem? (i := 0) rfl))) (mvT hZ (hw _ (List.mem_of_getElem? (i := 1) rfl))) (mvT hZ (hw _ (List.mem_of_getElem? (i := 2) rfl))) (mvT hZ (hw _ (List.mem_of_getElem? (i := 3) rfl))) (by decide) (backOf (W := 0) (rmvo l Z a0 hw [] ((i1 &&& (255 : Int32)).toUInt32.toUInt16.toUInt32.toInt32) cs h0 n0 Z0 (own_mask255 i1).2 S_c hcs) hZ (hw _ (List.mem_of_getElem? (i := 3) rfl)) (hw _ (List.mem_of_getElem? (i := 2) rfl)) (by decide) (by decide)) (g := (mkF m 6 #[.val (.int i1), .val (.int i2), .val (.long j1), .second, .val (.long j2), .second, .val (.int i3), .unset, .unset, .unset, .unset, .unset, .unset, .unset] [(.int ((i1 &&& (255 : Int32)).toUInt32.toUInt16.toUInt32.toInt32))])) rfl (by rw [hml]; rfl) (argsL := [(.int ((i1 &&& (255 : Int32)).toUInt32.toUInt16.toUInt32.toInt32))]) (rest := []) (lenOf pd_8 rfl) rfl (by show 2 * 0 + _ ≤ _; exact Nat.le_of_eq rfl) (hb hby at_6) (fun _ _ => ⟨rfl, e0, Nat.le_of_ble_eq_true rfl, Nat.le_of_ble_eq_true rfl⟩)
  dsimp only [Pt.U, Pt.locs, Pt.cells, Pt.slots] at X46 l46 y46 z46 st46 hQ46
  subst l46 y46 z46
  obtain ⟨s1, t1, kc1, z1, rfl, N46q, K46, g_s1, E_s1, F_s1_value, F_s1_coder, V_t1⟩ := hQ46
  have N46 := Fr.app N0 N46q
  have S_c := own_sta0 S_c K46
  have S_i := own_sta0 S_i K46
  have E_du := E_du.keep K46
  have F_du_seconds := F_du_seconds.keep K46 (by simp)
  have F_du_nanos := F_du_nanos.keep K46 (by simp)
  have Z0 := Nat.le_trans Z0 K46.1
  refine own_via st46 ?_
  show own_G _ _ _ _ (T46.setTop (mkF m 9 #[.val (.int i1), .val (.int i2), .val (.long j1), .second, .val (.long j2), .second, .val (.int i3), .unset, .unset, .unset, .unset, .unset, .unset, .unset] [(.ref s1)]))
  refine own_via (fun _ k => XS.astore X46.here hx rfl (hb hby at_9) rfl rfl (l' := #[.val (.int i1), .val (.int i2), .val (.long j1), .second, .val (.long j2), .second, .val (.int i3), .val (.ref s1), .unset, .unset, .unset, .unset, .unset, .unset]) rfl k) ?_
  show own_G _ _ _ _ (T46.setTop (mkF m 11 #[.val (.int i1), .val (.int i2), .val (.long j1), .second, .val (.long j2), .second, .val (.int i3), .val (.ref s1), .unset, .unset, .unset, .unset, .unset, .unset] []))
  refine own_via (fun _ k => XS.iloadN X46.here hx rfl (hb hby at_11) rfl k) ?_
  show own_G _ _ _ _ (T46.setTop (mkF m 12 #[.val (.int i1), .val (.int i2), .val (.long j1), .second, .val (.long j2), .second, .val (.int i3), .val (.ref s1), .unset, .unset, .unset, .unset, .unset, .unset] [(.int i2)]))
  refine own_via (fun _ k => XS.sipush X46.here hx rfl (hb hby at_12) k) ?_
  show own_G _ _ _ _ (T46.setTop (mkF m 15 #[.val (.int i1), .val (.int i2), .val (.long j1), .second, .val (.long j2), .second, .val (.int i3), .val (.ref s1), .unset, .unset, .unset, .unset, .unset, .unset] [(.int (255 : Int32)), (.int i2)]))
  refine own_via (fun _ k => XS.iand X46.here hx rfl (hb hby at_15) rfl k) ?_
  show own_G _ _ _ _ (T46.setTop (mkF m 16 #[.val (.int i1), .val (.int i2), .val (.long j1), .second, .val (.long j2), .second, .val (.int i3), .val (.ref s1), .unset, .unset, .unset, .unset, .unset, .unset] [(.int (i2 &&& (255 : Int32)))]))
  refine own_via (fun _ k => XS.i2c X46.here hx rfl (hb hby at_16) rfl k) ?_
  show own_G _ _ _ _ (T46.setTop (mkF m 17 #[.val (.int i1), .val (.int i2), .val (.long j1), .second, .val (.long j2), .second, .val (.int i3), .val (.ref s1), .unset, .unset, .unset, .unset, .unset, .unset] [(.int ((i2 &&& (255 : Int32)).toUInt32.toUInt16.toUInt32.toInt32))]))
  have ld1 := E_s1
  obtain ⟨_, _, ⟨T47, L47, k47, n47⟩, -, X47, ⟨Lc47, hQ47, l47, y47, z47⟩, st47⟩ := Jvm.LawKit.callS X46 hx (y := (⟨"java/lang/String", "valueOf", "(C)Ljava/lang/String;"⟩ : MethodName)) hown (mvT hZ (hw _ (List.mem_of_getElem? (i := 0) rfl))) (mvT hZ (hw _ (List.mem_of_getElem? (i := 1) rfl))) (mvT hZ (hw _ (List.mem_of_getElem? (i := 2) rfl))) (mvT hZ (hw _ (List.mem_of_getElem? (i := 3) rfl))) (by decide) (backOf (W := 0) (rmvo l Z a0 hw [] ((i2 &&& (255 : Int32)).toUInt32.toUInt16.toUInt32.toInt32) cs T46.heap n0 Z0 (own_mask255 i2).2 S_c hcs) hZ (hw _ (List.mem_of_getElem? (i := 3) rfl)) (hw _ (List.mem_of_getElem? (i := 2) rfl)) (by decide) (by decide)) (g := (mkF m 17 #[.val (.int i1), .val (.int i2), .val (.long j1), .second, .val (.long j2), .second, .val (.int i3), .val (.ref s1), .unset, .unset, .unset, .unset, .unset, .unset] [(.int ((i2 &&& (255 : Int32)).toUInt32.toUInt16.toUInt32.toInt32))])) rfl (by rw [hml]; rfl) (argsL := [(.int ((i2 &&& (255 : Int32)).toUInt32.toUInt16.toUInt32.toInt32))]) (rest := []) (lenOf pd_8 rfl) rfl (by show 2 * 0 + _ ≤ _; exact Nat.le_of_eq rfl) (hb hby at_17) (fun _ _ => ⟨rfl, rfl, Nat.le_of_ble_eq_true rfl, Nat.le_of_ble_eq_true rfl⟩)
  dsimp only [Pt.U, Pt.locs, Pt.cells, Pt.slots] at X47 l47 y47 z47 st47 hQ47
  subst l47 y47 z47
  obtain ⟨s2, t2, kc2, z2, rfl, N47q, K47, g_s2, E_s2, F_s2_value, F_s2_coder, V_t2⟩ := hQ47
  have N47 := Fr.app N46 N47q
  have S_c := own_sta0 S_c K47
  have S_i := own_sta0 S_i K47
  have E_du := E_du.keep K47
  have F_du_seconds := F_du_seconds.keep K47 (by simp)
  have F_du_nanos := F_du_nanos.keep K47 (by simp)
  have E_s1 := E_s1.keep K47
  have F_s1_value := F_s1_value.keep K47 (by simp)
  have F_s1_coder := F_s1_coder.keep K47 (by simp)
  have V_t1 := V_t1.keep K47 (by simp)
  have Z0 := Nat.le_trans Z0 K47.1
  refine own_via st47 ?_
  show own_G _ _ _ _ (T47.setTop (mkF m 20 #[.val (.int i1), .val (.int i2), .val (.long j1), .second, .val (.long j2), .second, .val (.int i3), .val (.ref s1), .unset, .unset, .unset, .unset, .unset, .unset] [(.ref s2)]))
  refine own_via (fun _ k => XS.astore X47.here hx rfl (hb hby at_20) rfl rfl (l' := #[.val (.int i1), .val (.int i2), .val (.long j1), .second, .val (.long j2), .second, .val (.int i3), .val (.ref s1), .val (.ref s2), .unset, .unset, .unset, .unset, .unset]) rfl k) ?_
  show own_G _ _ _ _ (T47.setTop (mkF m 22 #[.val (.int i1), .val (.int i2), .val (.long j1), .second, .val (.long j2), .second, .val (.int i3), .val (.ref s1), .val (.ref s2), .unset, .unset, .unset, .unset, .unset] []))
  obtain ⟨T48, h48, X48, e48, E48, A48, D48, -, st48⟩ := newO X47 hx hZ hown (hw _ (List.mem_of_getElem? (i := 26) rfl)) (hw _ (List.mem_of_getElem? (i := 27) rfl)) (hw _ (List.mem_of_getElem? (i := 28) rfl)) rfl (g := (mkF m 22 #[.val (.int i1), .val (.int i2), .val (.long j1), .second, .val (.long j2), .second, .val (.int i3), .val (.ref s1), .val (.ref s2), .unset, .unset, .unset, .unset, .unset] [])) rfl (hb hby at_22) (by decide) (by decide)
  obtain ⟨f, g48⟩ : ∃ z, z = T47.heap.size := ⟨_, rfl⟩
  rw [← g48] at A48 D48 st48
  have g_f : n0 ≤ f := Nat.le_trans Z0 (Nat.le_of_eq g48.symm)
  have ne_du_f : du ≠ f := Nat.ne_of_lt (Nat.lt_of_lt_of_le E_du.lt (Nat.le_of_eq g48.symm))
  have ne_s1_f : s1 ≠ f := Nat.ne_of_lt (Nat.lt_of_lt_of_le E_s1.lt (Nat.le_of_eq g48.symm))
  have ne_t1_f : t1 ≠ f := Nat.ne_of_lt (Nat.lt_of_lt_of_le V_t1.lt (Nat.le_of_eq g48.symm))
  have ne_s2_f : s2 ≠ f := Nat.ne_of_lt (Nat.lt_of_lt_of_le E_s2.lt (Nat.le_of_eq g48.symm))
  have ne_t2_f : t2 ≠ f := Nat.ne_of_lt (Nat.lt_of_lt_of_le V_t2.lt (Nat.le_of_eq g48.symm))
  have S_c := S_c.ext E48
  have S_i := S_i.ext E48
  have E_du := E_du.ext E48
  have F_du_seconds := F_du_seconds.ext E48
  have F_du_nanos := F_du_nanos.ext E48
  have E_s1 := E_s1.ext E48
  have F_s1_value := F_s1_value.ext E48
  have F_s1_coder := F_s1_coder.ext E48
  have V_t1 := V_t1.ext E48
  have E_s2 := E_s2.ext E48
  have F_s2_value := F_s2_value.ext E48
  have F_s2_coder := F_s2_coder.ext E48
  have V_t2 := V_t2.ext E48
  have Z0 := Nat.le_trans Z0 E48.1
  have E_f := A48
  have F_f_logged : Fld Z h48 f "com/example/rafterwire/rafterwire/radio/FaultLines" "logged" "Ljava/lang/String;" .null := D48 (Or.inl (hw _ (List.mem_of_getElem? (i := 39) rfl))) (ty := (.object "java/lang/String")) (by decide)
  have F_f_loggedAt : Fld Z h48 f "com/example/rafterwire/rafterwire/radio/FaultLines" "loggedAt" "J" (.long (0 : Int64)) := D48 (Or.inl (hw _ (List.mem_of_getElem? (i := 46) rfl))) (ty := .long) (by decide)
  refine own_via st48 ?_
  show own_G _ _ _ _ (T48.setTop (mkF m 25 #[.val (.int i1), .val (.int i2), .val (.long j1), .second, .val (.long j2), .second, .val (.int i3), .val (.ref s1), .val (.ref s2), .unset, .unset, .unset, .unset, .unset] [(.ref f)]))
  refine own_via (fun _ k => XS.dup X48.here hx rfl (hb hby at_25) rfl rfl k) ?_
  show own_G _ _ _ _ (T48.setTop (mkF m 26 #[.val (.int i1), .val (.int i2), .val (.long j1), .second, .val (.long j2), .second, .val (.int i3), .val (.ref s1), .val (.ref s2), .unset, .unset, .unset, .unset, .unset] [(.ref f), (.ref f)]))
  obtain ⟨_, _, ⟨T49, L49, k49, n49⟩, -, X49, ⟨Lc49, hQ49, l49, y49, z49⟩, st49⟩ := X48.specialBack hx (y := (⟨"com/example/rafterwire/rafterwire/radio/FaultLines", "<init>", "()V"⟩ : MethodName)) rfl hown (mvT hZ (hw _ (List.mem_of_getElem? (i := 29) rfl))) (mvT hZ (hw _ (List.mem_of_getElem? (i := 30) rfl))) (mvT hZ (hw _ (List.mem_of_getElem? (i := 31) rfl))) (by decide) (backOf (W := 1) (rmfi l Z a0 hw [] f h48 n0 Z0) hZ (hw _ (List.mem_of_getElem? (i := 31) rfl)) (hw _ (List.mem_of_getElem? (i := 28) rfl)) (by decide) (by decide)) (g := (mkF m 26 #[.val (.int i1), .val (.int i2), .val (.long j1), .second, .val (.long j2), .second, .val (.int i3), .val (.ref s1), .val (.ref s2), .unset, .unset, .unset, .unset, .unset] [(.ref f), (.ref f)])) rfl (by rw [hml]; rfl) (Steps.refl _) (a := f) (argsL := []) (rest := [(.ref f)]) (lenOf pd_9 rfl) rfl (by show 2 * 0 + _ ≤ _; exact Nat.le_of_eq rfl) (hb hby at_26) (fun _ _ => ⟨rfl, e48, Nat.le_of_ble_eq_true rfl, Nat.le_of_ble_eq_true rfl⟩)
  dsimp only [Pt.U, Pt.locs, Pt.cells, Pt.slots] at X49 l49 y49 z49 st49 hQ49
  subst l49 y49 z49
  obtain ⟨rfl, N49q, e49⟩ := hQ49
  have N49 := Fr.app N47 N49q
  refine own_via (fun _ kt => st49.trans kt) ?_
  show own_G _ _ _ _ (T49.setTop (mkF m 29 #[.val (.int i1), .val (.int i2), .val (.long j1), .second, .val (.long j2), .second, .val (.int i3), .val (.ref s1), .val (.ref s2), .unset, .unset, .unset, .unset, .unset] [(.ref f)]))
  refine own_via (fun _ k => XS.astore X49.here hx rfl (hb hby at_29) rfl rfl (l' := #[.val (.int i1), .val (.int i2), .val (.long j1), .second, .val (.long j2), .second, .val (.int i3), .val (.ref s1), .val (.ref s2), .val (.ref f), .unset, .unset, .unset, .unset]) rfl k) ?_
  show own_G _ _ _ _ (T49.setTop (mkF m 31 #[.val (.int i1), .val (.int i2), .val (.long j1), .second, .val (.long j2), .second, .val (.int i3), .val (.ref s1), .val (.ref s2), .val (.ref f), .unset, .unset, .unset, .unset] []))
  refine own_via (fun _ k => XS.iconst X49.here hx rfl (hb hby at_31) k) ?_
  show own_G _ _ _ _ (T49.setTop (mkF m 32 #[.val (.int i1), .val (.int i2), .val (.long j1), .second, .val (.long j2), .second, .val (.int i3), .val (.ref s1), .val (.ref s2), .val (.ref f), .unset, .unset, .unset, .unset] [(.int (1 : Int32))]))
  refine own_via (fun _ k => XS.istore X49.here hx rfl (hb hby at_32) rfl (l' := #[.val (.int i1), .val (.int i2), .val (.long j1), .second, .val (.long j2), .second, .val (.int i3), .val (.ref s1), .val (.ref s2), .val (.ref f), .val (.int (1 : Int32)), .unset, .unset, .unset]) rfl k) ?_
  show own_G _ _ _ _ (T49.setTop (mkF m 34 #[.val (.int i1), .val (.int i2), .val (.long j1), .second, .val (.long j2), .second, .val (.int i3), .val (.ref s1), .val (.ref s2), .val (.ref f), .val (.int (1 : Int32)), .unset, .unset, .unset] []))
  refine own_via (fun _ k => XS.aload X49.here hx rfl (hb hby at_34) rfl rfl k) ?_
  show own_G _ _ _ _ (T49.setTop (mkF m 36 #[.val (.int i1), .val (.int i2), .val (.long j1), .second, .val (.long j2), .second, .val (.int i3), .val (.ref s1), .val (.ref s2), .val (.ref f), .val (.int (1 : Int32)), .unset, .unset, .unset] [(.ref f)]))
  obtain ⟨cq50, kq50, q50a, q50b, q50c⟩ := isOf hZ e49 E_f
  obtain ⟨_, _, ⟨T50, L50, k50, n50⟩, -, X50, ⟨Lc50, hQ50, l50, y50, z50⟩, st50⟩ := X49.virtualBack hx (y := (⟨"com/example/rafterwire/rafterwire/radio/FaultLines", "isQuiet", "()Z"⟩ : MethodName)) (z := (⟨"com/example/rafterwire/rafterwire/radio/FaultLines", "isQuiet", "()Z"⟩ : MethodName)) hown (mvT hZ (hw _ (List.mem_of_getElem? (i := 33) rfl))) (mvT hZ (hw _ (List.mem_of_getElem? (i := 34) rfl))) (notFace_of_selects (args := #[]) (mvT hZ (hw _ (List.mem_of_getElem? (i := 36) rfl)))) (mvT hZ (hw _ (List.mem_of_getElem? (i := 36) rfl))) (mvT hZ (hw _ (List.mem_of_getElem? (i := 35) rfl))) (by decide) (backOf (W := 0) (rmq0 l Z a0 hw [] f h48 n0 Z0 F_f_logged) hZ (hw _ (List.mem_of_getElem? (i := 37) rfl)) (hw _ (List.mem_of_getElem? (i := 28) rfl)) (by decide) (by decide)) q50a q50c (g := (mkF m 36 #[.val (.int i1), .val (.int i2), .val (.long j1), .second, .val (.long j2), .second, .val (.int i3), .val (.ref s1), .val (.ref s2), .val (.ref f), .val (.int (1 : Int32)), .unset, .unset, .unset] [(.ref f)])) rfl (by rw [hml]; rfl) (Steps.refl _) (argsL := []) (rest := []) (lenOf pd_10 rfl) rfl (by show 2 * 0 + _ ≤ _; exact Nat.le_of_eq rfl) (hb hby at_36) (fun _ _ => ⟨rfl, e49, Nat.le_of_ble_eq_true rfl, Nat.le_of_ble_eq_true rfl⟩)
  dsimp only [Pt.U, Pt.locs, Pt.cells, Pt.slots] at X50 l50 y50 z50 st50 hQ50
  subst l50 y50 z50
  obtain ⟨rfl, N50q, e50⟩ := hQ50
  have N50 := Fr.app N49 N50q
  refine own_via (fun _ kt => st50.trans kt) ?_
  show own_G _ _ _ _ (T50.setTop (mkF m 39 #[.val (.int i1), .val (.int i2), .val (.long j1), .second, .val (.long j2), .second, .val (.int i3), .val (.ref s1), .val (.ref s2), .val (.ref f), .val (.int (1 : Int32)), .unset, .unset, .unset] [(.int (1 : Int32))]))
  refine own_via (fun _ k => XS.iload X50.here hx rfl (hb hby at_39) rfl k) ?_
  show own_G _ _ _ _ (T50.setTop (mkF m 41 #[.val (.int i1), .val (.int i2), .val (.long j1), .second, .val (.long j2), .second, .val (.int i3), .val (.ref s1), .val (.ref s2), .val (.ref f), .val (.int (1 : Int32)), .unset, .unset, .unset] [(.int (1 : Int32)), (.int (1 : Int32))]))
  refine own_via (fun _ k => XS.icmpNo X50.here hx rfl (hb hby at_41) rfl (teq (by decide)).2 k) ?_
  show own_G _ _ _ _ (T50.setTop (mkF m 44 #[.val (.int i1), .val (.int i2), .val (.long j1), .second, .val (.long j2), .second, .val (.int i3), .val (.ref s1), .val (.ref s2), .val (.ref f), .val (.int (1 : Int32)), .unset, .unset, .unset] []))
  refine own_via (fun _ k => XS.iconst X50.here hx rfl (hb hby at_44) k) ?_
  show own_G _ _ _ _ (T50.setTop (mkF m 45 #[.val (.int i1), .val (.int i2), .val (.long j1), .second, .val (.long j2), .second, .val (.int i3), .val (.ref s1), .val (.ref s2), .val (.ref f), .val (.int (1 : Int32)), .unset, .unset, .unset] [(.int (1 : Int32))]))
  refine own_via (fun _ k => XS.goto X50.here hx rfl (pc0 := 45) (pc' := 49) rfl (hb hby at_45) (by decide) (by decide) k) ?_
  show own_G _ _ _ _ (T50.setTop (mkF m 49 #[.val (.int i1), .val (.int i2), .val (.long j1), .second, .val (.long j2), .second, .val (.int i3), .val (.ref s1), .val (.ref s2), .val (.ref f), .val (.int (1 : Int32)), .unset, .unset, .unset] [(.int (1 : Int32))]))
  refine own_via (fun _ k => XS.istore X50.here hx rfl (hb hby at_49) rfl (l' := #[.val (.int i1), .val (.int i2), .val (.long j1), .second, .val (.long j2), .second, .val (.int i3), .val (.ref s1), .val (.ref s2), .val (.ref f), .val (.int (1 : Int32)), .val (.int (1 : Int32)), .unset, .unset]) rfl k) ?_
  show own_G _ _ _ _ (T50.setTop (mkF m 51 #[.val (.int i1), .val (.int i2), .val (.long j1), .second, .val (.long j2), .second, .val (.int i3), .val (.ref s1), .val (.ref s2), .val (.ref f), .val (.int (1 : Int32)), .val (.int (1 : Int32)), .unset, .unset] []))
  refine own_via (fun _ k => XS.iload X50.here hx rfl (hb hby at_51) rfl k) ?_
  show own_G _ _ _ _ (T50.setTop (mkF m 53 #[.val (.int i1), .val (.int i2), .val (.long j1), .second, .val (.long j2), .second, .val (.int i3), .val (.ref s1), .val (.ref s2), .val (.ref f), .val (.int (1 : Int32)), .val (.int (1 : Int32)), .unset, .unset] [(.int i3)]))
  refine own_via (fun _ k => XS.iconst X50.here hx rfl (hb hby at_53) k) ?_
  show own_G _ _ _ _ (T50.setTop (mkF m 54 #[.val (.int i1), .val (.int i2), .val (.long j1), .second, .val (.long j2), .second, .val (.int i3), .val (.ref s1), .val (.ref s2), .val (.ref f), .val (.int (1 : Int32)), .val (.int (1 : Int32)), .unset, .unset] [(.int (1 : Int32)), (.int i3)]))
  refine own_via (fun _ k => XS.iand X50.here hx rfl (hb hby at_54) rfl k) ?_
  show own_G _ _ _ _ (T50.setTop (mkF m 55 #[.val (.int i1), .val (.int i2), .val (.long j1), .second, .val (.long j2), .second, .val (.int i3), .val (.ref s1), .val (.ref s2), .val (.ref f), .val (.int (1 : Int32)), .val (.int (1 : Int32)), .unset, .unset] [(.int (i3 &&& (1 : Int32)))]))
  by_cases ho1 : (i3 &&& (1 : Int32)) = (0 : Int32)
  · refine own_via (fun _ k => XS.ifYes X50.here hx rfl (pc0 := 55) (pc' := 66) rfl (hb hby at_55) rfl ((if0 _ _).trans (teq ho1).1) (by decide) (by decide) k) ?_
    show own_G _ _ _ _ (T50.setTop (mkF m 66 #[.val (.int i1), .val (.int i2), .val (.long j1), .second, .val (.long j2), .second, .val (.int i3), .val (.ref s1), .val (.ref s2), .val (.ref f), .val (.int (1 : Int32)), .val (.int (1 : Int32)), .unset, .unset] []))
    refine own_via (fun _ k => XS.iload X50.here hx rfl (hb hby at_66) rfl k) ?_
    show own_G _ _ _ _ (T50.setTop (mkF m 68 #[.val (.int i1), .val (.int i2), .val (.long j1), .second, .val (.long j2), .second, .val (.int i3), .val (.ref s1), .val (.ref s2), .val (.ref f), .val (.int (1 : Int32)), .val (.int (1 : Int32)), .unset, .unset] [(.int (1 : Int32))]))
    refine own_via (fun _ k => XS.ifNo X50.here hx rfl (hb hby at_68) rfl ((if0 _ _).trans (feq (by decide)).1) k) ?_
    show own_G _ _ _ _ (T50.setTop (mkF m 71 #[.val (.int i1), .val (.int i2), .val (.long j1), .second, .val (.long j2), .second, .val (.int i3), .val (.ref s1), .val (.ref s2), .val (.ref f), .val (.int (1 : Int32)), .val (.int (1 : Int32)), .unset, .unset] []))
    refine own_via (fun _ k => XS.aload X50.here hx rfl (hb hby at_71) rfl rfl k) ?_
    show own_G _ _ _ _ (T50.setTop (mkF m 73 #[.val (.int i1), .val (.int i2), .val (.long j1), .second, .val (.long j2), .second, .val (.int i3), .val (.ref s1), .val (.ref s2), .val (.ref f), .val (.int (1 : Int32)), .val (.int (1 : Int32)), .unset, .unset] [(.ref f)]))
    obtain ⟨cq51, kq51, q51a, q51b, q51c⟩ := isOf hZ e50 E_f
    obtain ⟨_, _, ⟨T51, L51, k51, n51⟩, -, X51, ⟨Lc51, hQ51, l51, y51, z51⟩, st51⟩ := X50.virtualBack hx (y := (⟨"com/example/rafterwire/rafterwire/radio/FaultLines", "isQuiet", "()Z"⟩ : MethodName)) (z := (⟨"com/example/rafterwire/rafterwire/radio/FaultLines", "isQuiet", "()Z"⟩ : MethodName)) hown (mvT hZ (hw _ (List.mem_of_getElem? (i := 33) rfl))) (mvT hZ (hw _ (List.mem_of_getElem? (i := 34) rfl))) (notFace_of_selects (args := #[]) (mvT hZ (hw _ (List.mem_of_getElem? (i := 36) rfl)))) (mvT hZ (hw _ (List.mem_of_getElem? (i := 36) rfl))) (mvT hZ (hw _ (List.mem_of_getElem? (i := 35) rfl))) (by decide) (backOf (W := 0) (rmq0 l Z a0 hw [] f h48 n0 Z0 F_f_logged) hZ (hw _ (List.mem_of_getElem? (i := 37) rfl)) (hw _ (List.mem_of_getElem? (i := 28) rfl)) (by decide) (by decide)) q51a q51c (g := (mkF m 73 #[.val (.int i1), .val (.int i2), .val (.long j1), .second, .val (.long j2), .second, .val (.int i3), .val (.ref s1), .val (.ref s2), .val (.ref f), .val (.int (1 : Int32)), .val (.int (1 : Int32)), .unset, .unset] [(.ref f)])) rfl (by rw [hml]; rfl) (Steps.refl _) (argsL := []) (rest := []) (lenOf pd_10 rfl) rfl (by show 2 * 0 + _ ≤ _; exact Nat.le_of_eq rfl) (hb hby at_73) (fun _ _ => ⟨rfl, e50, Nat.le_of_ble_eq_true rfl, Nat.le_of_ble_eq_true rfl⟩)
    dsimp only [Pt.U, Pt.locs, Pt.cells, Pt.slots] at X51 l51 y51 z51 st51 hQ51
    subst l51 y51 z51
    obtain ⟨rfl, N51q, e51⟩ := hQ51
    have N51 := Fr.app N50 N51q
    refine own_via (fun _ kt => st51.trans kt) ?_
    show own_G _ _ _ _ (T51.setTop (mkF m 76 #[.val (.int i1), .val (.int i2), .val (.long j1), .second, .val (.long j2), .second, .val (.int i3), .val (.ref s1), .val (.ref s2), .val (.ref f), .val (.int (1 : Int32)), .val (.int (1 : Int32)), .unset, .unset] [(.int (1 : Int32))]))
    refine own_via (fun _ k => XS.iload X51.here hx rfl (hb hby at_76) rfl k) ?_
    show own_G _ _ _ _ (T51.setTop (mkF m 78 #[.val (.int i1), .val (.int i2), .val (.long j1), .second, .val (.long j2), .second, .val (.int i3), .val (.ref s1), .val (.ref s2), .val (.ref f), .val (.int (1 : Int32)), .val (.int (1 : Int32)), .unset, .unset] [(.int (1 : Int32)), (.int (1 : Int32))]))
    refine own_via (fun _ k => XS.icmpNo X51.here hx rfl (hb hby at_78) rfl (teq (by decide)).2 k) ?_
    show own_G _ _ _ _ (T51.setTop (mkF m 81 #[.val (.int i1), .val (.int i2), .val (.long j1), .second, .val (.long j2), .second, .val (.int i3), .val (.ref s1), .val (.ref s2), .val (.ref f), .val (.int (1 : Int32)), .val (.int (1 : Int32)), .unset, .unset] []))
    refine own_via (fun _ k => XS.iconst X51.here hx rfl (hb hby at_81) k) ?_
    show own_G _ _ _ _ (T51.setTop (mkF m 82 #[.val (.int i1), .val (.int i2), .val (.long j1), .second, .val (.long j2), .second, .val (.int i3), .val (.ref s1), .val (.ref s2), .val (.ref f), .val (.int (1 : Int32)), .val (.int (1 : Int32)), .unset, .unset] [(.int (1 : Int32))]))
    refine own_via (fun _ k => XS.goto X51.here hx rfl (pc0 := 82) (pc' := 86) rfl (hb hby at_82) (by decide) (by decide) k) ?_
    show own_G _ _ _ _ (T51.setTop (mkF m 86 #[.val (.int i1), .val (.int i2), .val (.long j1), .second, .val (.long j2), .second, .val (.int i3), .val (.ref s1), .val (.ref s2), .val (.ref f), .val (.int (1 : Int32)), .val (.int (1 : Int32)), .unset, .unset] [(.int (1 : Int32))]))
    refine own_via (fun _ k => XS.istore X51.here hx rfl (hb hby at_86) rfl (l' := #[.val (.int i1), .val (.int i2), .val (.long j1), .second, .val (.long j2), .second, .val (.int i3), .val (.ref s1), .val (.ref s2), .val (.ref f), .val (.int (1 : Int32)), .val (.int (1 : Int32)), .unset, .unset]) rfl k) ?_
    show own_G _ _ _ _ (T51.setTop (mkF m 88 #[.val (.int i1), .val (.int i2), .val (.long j1), .second, .val (.long j2), .second, .val (.int i3), .val (.ref s1), .val (.ref s2), .val (.ref f), .val (.int (1 : Int32)), .val (.int (1 : Int32)), .unset, .unset] []))
    refine own_via (fun _ k => XS.aload X51.here hx rfl (hb hby at_88) rfl rfl k) ?_
    show own_G _ _ _ _ (T51.setTop (mkF m 90 #[.val (.int i1), .val (.int i2), .val (.long j1), .second, .val (.long j2), .second, .val (.int i3), .val (.ref s1), .val (.ref s2), .val (.ref f), .val (.int (1 : Int32)), .val (.int (1 : Int32)), .unset, .unset] [(.ref f)]))
    refine own_via (fun _ k => XS.aload X51.here hx rfl (hb hby at_90) rfl rfl k) ?_
    show own_G _ _ _ _ (T51.setTop (mkF m 92 #[.val (.int i1), .val (.int i2), .val (.long j1), .second, .val (.long j2), .second, .val (.int i3), .val (.ref s1), .val (.ref s2), .val (.ref f), .val (.int (1 : Int32)), .val (.int (1 : Int32)), .unset, .unset] [(.ref s1), (.ref f)]))
    refine own_via (fun _ k => XS.lloadN X51.here hx rfl (hb hby at_92) rfl k) ?_
    show own_G _ _ _ _ (T51.setTop (mkF m 93 #[.val (.int i1), .val (.int i2), .val (.long j1), .second, .val (.long j2), .second, .val (.int i3), .val (.ref s1), .val (.ref s2), .val (.ref f), .val (.int (1 : Int32)), .val (.int (1 : Int32)), .unset, .unset] [(.long j1), (.ref s1), (.ref f)]))
    obtain ⟨cq52, kq52, q52a, q52b, q52c⟩ := isOf hZ e51 E_f
    obtain ⟨_, _, ⟨T52, L52, k52, n52⟩, -, X52, ⟨Lc52, hQ52, l52, y52, z52⟩, st52⟩ := X51.virtualBack hx (y := (⟨"com/example/rafterwire/rafterwire/radio/FaultLines", "take", "(Ljava/lang/String;J)Z"⟩ : MethodName)) (z := (⟨"com/example/rafterwire/rafterwire/radio/FaultLines", "take", "(Ljava/lang/String;J)Z"⟩ : MethodName)) hown (mvT hZ (hw _ (List.mem_of_getElem? (i := 40) rfl))) (mvT hZ (hw _ (List.mem_of_getElem? (i := 41) rfl))) (notFace_of_selects (args := #[]) (mvT hZ (hw _ (List.mem_of_getElem? (i := 43) rfl)))) (mvT hZ (hw _ (List.mem_of_getElem? (i := 43) rfl))) (mvT hZ (hw _ (List.mem_of_getElem? (i := 42) rfl))) (by decide) (backOf (W := 0) (rmt0 l Z a0 hw [] f s1 j1 (0 : Int64) h48 n0 Z0 E_f F_f_logged F_f_loggedAt g_f) hZ (hw _ (List.mem_of_getElem? (i := 44) rfl)) (hw _ (List.mem_of_getElem? (i := 28) rfl)) (by decide) (by decide)) q52a q52c (g := (mkF m 93 #[.val (.int i1), .val (.int i2), .val (.long j1), .second, .val (.long j2), .second, .val (.int i3), .val (.ref s1), .val (.ref s2), .val (.ref f), .val (.int (1 : Int32)), .val (.int (1 : Int32)), .unset, .unset] [(.long j1), (.ref s1), (.ref f)])) rfl (by rw [hml]; rfl) (Steps.refl _) (argsL := [(.ref s1), (.long j1)]) (rest := []) (lenOf pd_11 rfl) rfl (by show 2 * 0 + _ ≤ _; exact Nat.le_of_eq rfl) (hb hby at_93) (fun _ _ => ⟨rfl, e51, Nat.le_of_ble_eq_true rfl, Nat.le_of_ble_eq_true rfl⟩)
    dsimp only [Pt.U, Pt.locs, Pt.cells, Pt.slots] at X52 l52 y52 z52 st52 hQ52
    subst l52 y52 z52
    obtain ⟨rfl, N52q, K52, -, F_f_logged, F_f_loggedAt⟩ := hQ52
    have N52 := Fr.app N51 N52q
    have S_c := own_sta1 S_c E_f K52
    have S_i := own_sta1 S_i E_f K52
    have E_du := E_du.keep K52
    have F_du_seconds := F_du_seconds.keep K52 (by simp [ne_du_f])
    have F_du_nanos := F_du_nanos.keep K52 (by simp [ne_du_f])
    have E_s1 := E_s1.keep K52
    have F_s1_value := F_s1_value.keep K52 (by simp [ne_s1_f])
    have F_s1_coder := F_s1_coder.keep K52 (by simp [ne_s1_f])
    have V_t1 := V_t1.keep K52 (by simp [ne_t1_f])
    have E_s2 := E_s2.keep K52
    have F_s2_value := F_s2_value.keep K52 (by simp [ne_s2_f])
    have F_s2_coder := F_s2_coder.keep K52 (by simp [ne_s2_f])
    have V_t2 := V_t2.keep K52 (by simp [ne_t2_f])
    have E_f := E_f.keep K52
    have Z0 := Nat.le_trans Z0 K52.1
    refine own_via (fun _ kt => st52.trans kt) ?_
    show own_G _ _ _ _ (T52.setTop (mkF m 96 #[.val (.int i1), .val (.int i2), .val (.long j1), .second, .val (.long j2), .second, .val (.int i3), .val (.ref s1), .val (.ref s2), .val (.ref f), .val (.int (1 : Int32)), .val (.int (1 : Int32)), .unset, .unset] [(.int (1 : Int32))]))
    refine own_via (fun _ k => XS.istore X52.here hx rfl (hb hby at_96) rfl (l' := #[.val (.int i1), .val (.int i2), .val (.long j1), .second, .val (.long j2), .second, .val (.int i3), .val (.ref s1), .val (.ref s2), .val (.ref f), .val (.int (1 : Int32)), .val (.int (1 : Int32)), .val (.int (1 : Int32)), .unset]) rfl k) ?_
    show own_G _ _ _ _ (T52.setTop (mkF m 98 #[.val (.int i1), .val (.int i2), .val (.long j1), .second, .val (.long j2), .second, .val (.int i3), .val (.ref s1), .val (.ref s2), .val (.ref f), .val (.int (1 : Int32)), .val (.int (1 : Int32)), .val (.int (1 : Int32)), .unset] []))
    refine own_via (fun _ k => XS.iload X52.here hx rfl (hb hby at_98) rfl k) ?_
    show own_G _ _ _ _ (T52.setTop (mkF m 100 #[.val (.int i1), .val (.int i2), .val (.long j1), .second, .val (.long j2), .second, .val (.int i3), .val (.ref s1), .val (.ref s2), .val (.ref f), .val (.int (1 : Int32)), .val (.int (1 : Int32)), .val (.int (1 : Int32)), .unset] [(.int (1 : Int32))]))
    refine own_via (fun _ k => XS.ifNo X52.here hx rfl (hb hby at_100) rfl ((if0 _ _).trans (feq (by decide)).1) k) ?_
    show own_G _ _ _ _ (T52.setTop (mkF m 103 #[.val (.int i1), .val (.int i2), .val (.long j1), .second, .val (.long j2), .second, .val (.int i3), .val (.ref s1), .val (.ref s2), .val (.ref f), .val (.int (1 : Int32)), .val (.int (1 : Int32)), .val (.int (1 : Int32)), .unset] []))
    refine own_via (fun _ k => XS.iload X52.here hx rfl (hb hby at_103) rfl k) ?_
    show own_G _ _ _ _ (T52.setTop (mkF m 105 #[.val (.int i1), .val (.int i2), .val (.long j1), .second, .val (.long j2), .second, .val (.int i3), .val (.ref s1), .val (.ref s2), .val (.ref f), .val (.int (1 : Int32)), .val (.int (1 : Int32)), .val (.int (1 : Int32)), .unset] [(.int (1 : Int32))]))
    refine own_via (fun _ k => XS.ifNo X52.here hx rfl (hb hby at_105) rfl ((if0 _ _).trans (feq (by decide)).1) k) ?_
    show own_G _ _ _ _ (T52.setTop (mkF m 108 #[.val (.int i1), .val (.int i2), .val (.long j1), .second, .val (.long j2), .second, .val (.int i3), .val (.ref s1), .val (.ref s2), .val (.ref f), .val (.int (1 : Int32)), .val (.int (1 : Int32)), .val (.int (1 : Int32)), .unset] []))
    refine own_via (fun _ k => XS.iload X52.here hx rfl (hb hby at_108) rfl k) ?_
    show own_G _ _ _ _ (T52.setTop (mkF m 110 #[.val (.int i1), .val (.int i2), .val (.long j1), .second, .val (.long j2), .second, .val (.int i3), .val (.ref s1), .val (.ref s2), .val (.ref f), .val (.int (1 : Int32)), .val (.int (1 : Int32)), .val (.int (1 : Int32)), .unset] [(.int (1 : Int32))]))
    refine own_via (fun _ k => XS.ifNo X52.here hx rfl (hb hby at_110) rfl ((if0 _ _).trans (feq (by decide)).1) k) ?_
    show own_G _ _ _ _ (T52.setTop (mkF m 113 #[.val (.int i1), .val (.int i2), .val (.long j1), .second, .val (.long j2), .second, .val (.int i3), .val (.ref s1), .val (.ref s2), .val (.ref f), .val (.int (1 : Int32)), .val (.int (1 : Int32)), .val (.int (1 : Int32)), .unset] []))
    refine own_via (fun _ k => XS.iconst X52.here hx rfl (hb hby at_113) k) ?_
    show own_G _ _ _ _ (T52.setTop (mkF m 114 #[.val (.int i1), .val (.int i2), .val (.long j1), .second, .val (.long j2), .second, .val (.int i3), .val (.ref s1), .val (.ref s2), .val (.ref f), .val (.int (1 : Int32)), .val (.int (1 : Int32)), .val (.int (1 : Int32)), .unset] [(.int (1 : Int32))]))
    refine own_via (fun _ k => XS.goto X52.here hx rfl (pc0 := 114) (pc' := 118) rfl (hb hby at_114) (by decide) (by decide) k) ?_
    show own_G _ _ _ _ (T52.setTop (mkF m 118 #[.val (.int i1), .val (.int i2), .val (.long j1), .second, .val (.long j2), .second, .val (.int i3), .val (.ref s1), .val (.ref s2), .val (.ref f), .val (.int (1 : Int32)), .val (.int (1 : Int32)), .val (.int (1 : Int32)), .unset] [(.int (1 : Int32))]))
    refine own_via (fun _ k => XS.istore X52.here hx rfl (hb hby at_118) rfl (l' := #[.val (.int i1), .val (.int i2), .val (.long j1), .second, .val (.long j2), .second, .val (.int i3), .val (.ref s1), .val (.ref s2), .val (.ref f), .val (.int (1 : Int32)), .val (.int (1 : Int32)), .val (.int (1 : Int32)), .unset]) rfl k) ?_
    show own_G _ _ _ _ (T52.setTop (mkF m 120 #[.val (.int i1), .val (.int i2), .val (.long j1), .second, .val (.long j2), .second, .val (.int i3), .val (.ref s1), .val (.ref s2), .val (.ref f), .val (.int (1 : Int32)), .val (.int (1 : Int32)), .val (.int (1 : Int32)), .unset] []))
    refine own_via (fun _ k => XS.iload X52.here hx rfl (hb hby at_120) rfl k) ?_
    show own_G _ _ _ _ (T52.setTop (mkF m 122 #[.val (.int i1), .val (.int i2), .val (.long j1), .second, .val (.long j2), .second, .val (.int i3), .val (.ref s1), .val (.ref s2), .val (.ref f), .val (.int (1 : Int32)), .val (.int (1 : Int32)), .val (.int (1 : Int32)), .unset] [(.int (1 : Int32))]))
    refine own_via (fun _ k => XS.ifNo X52.here hx rfl (hb hby at_122) rfl ((if0 _ _).trans (feq (by decide)).1) k) ?_
    show own_G _ _ _ _ (T52.setTop (mkF m 125 #[.val (.int i1), .val (.int i2), .val (.long j1), .second, .val (.long j2), .second, .val (.int i3), .val (.ref s1), .val (.ref s2), .val (.ref f), .val (.int (1 : Int32)), .val (.int (1 : Int32)), .val (.int (1 : Int32)), .unset] []))
    refine own_via (fun _ k => XS.iload X52.here hx rfl (hb hby at_125) rfl k) ?_
    show own_G _ _ _ _ (T52.setTop (mkF m 127 #[.val (.int i1), .val (.int i2), .val (.long j1), .second, .val (.long j2), .second, .val (.int i3), .val (.ref s1), .val (.ref s2), .val (.ref f), .val (.int (1 : Int32)), .val (.int (1 : Int32)), .val (.int (1 : Int32)), .unset] [(.int (1 : Int32))]))
    refine own_via (fun _ k => XS.ifYes X52.here hx rfl (pc0 := 127) (pc' := 134) rfl (hb hby at_127) rfl ((if0 _ _).trans (feq (by decide)).2) (by decide) (by decide) k) ?_
    show own_G _ _ _ _ (T52.setTop (mkF m 134 #[.val (.int i1), .val (.int i2), .val (.long j1), .second, .val (.long j2), .second, .val (.int i3), .val (.ref s1), .val (.ref s2), .val (.ref f), .val (.int (1 : Int32)), .val (.int (1 : Int32)), .val (.int (1 : Int32)), .unset] []))
    refine own_via (fun _ k => XS.iconst X52.here hx rfl (hb hby at_134) k) ?_
    show own_G _ _ _ _ (T52.setTop (mkF m 135 #[.val (.int i1), .val (.int i2), .val (.long j1), .second, .val (.long j2), .second, .val (.int i3), .val (.ref s1), .val (.ref s2), .val (.ref f), .val (.int (1 : Int32)), .val (.int (1 : Int32)), .val (.int (1 : Int32)), .unset] [(.int (0 : Int32))]))
    refine own_via (fun _ k => XS.istore X52.here hx rfl (hb hby at_135) rfl (l' := #[.val (.int i1), .val (.int i2), .val (.long j1), .second, .val (.long j2), .second, .val (.int i3), .val (.ref s1), .val (.ref s2), .val (.ref f), .val (.int (0 : Int32)), .val (.int (1 : Int32)), .val (.int (1 : Int32)), .unset]) rfl k) ?_
    show own_G _ _ _ _ (T52.setTop (mkF m 137 #[.val (.int i1), .val (.int i2), .val (.long j1), .second, .val (.long j2), .second, .val (.int i3), .val (.ref s1), .val (.ref s2), .val (.ref f), .val (.int (0 : Int32)), .val (.int (1 : Int32)), .val (.int (1 : Int32)), .unset] []))
    refine own_via (fun _ k => XS.iload X52.here hx rfl (hb hby at_137) rfl k) ?_
    show own_G _ _ _ _ (T52.setTop (mkF m 139 #[.val (.int i1), .val (.int i2), .val (.long j1), .second, .val (.long j2), .second, .val (.int i3), .val (.ref s1), .val (.ref s2), .val (.ref f), .val (.int (0 : Int32)), .val (.int (1 : Int32)), .val (.int (1 : Int32)), .unset] [(.int (1 : Int32))]))
    refine own_via (fun _ k => XS.ifNo X52.here hx rfl (hb hby at_139) rfl ((if0 _ _).trans (feq (by decide)).1) k) ?_
    show own_G _ _ _ _ (T52.setTop (mkF m 142 #[.val (.int i1), .val (.int i2), .val (.long j1), .second, .val (.long j2), .second, .val (.int i3), .val (.ref s1), .val (.ref s2), .val (.ref f), .val (.int (0 : Int32)), .val (.int (1 : Int32)), .val (.int (1 : Int32)), .unset] []))
    refine own_via (fun _ k => XS.aload X52.here hx rfl (hb hby at_142) rfl rfl k) ?_
    show own_G _ _ _ _ (T52.setTop (mkF m 144 #[.val (.int i1), .val (.int i2), .val (.long j1), .second, .val (.long j2), .second, .val (.int i3), .val (.ref s1), .val (.ref s2), .val (.ref f), .val (.int (0 : Int32)), .val (.int (1 : Int32)), .val (.int (1 : Int32)), .unset] [(.ref f)]))
    obtain ⟨cq53, kq53, q53a, q53b, q53c⟩ := isOf hZ rfl E_f
    obtain ⟨_, _, ⟨T53, L53, k53, n53⟩, -, X53, ⟨Lc53, hQ53, l53, y53, z53⟩, st53⟩ := X52.virtualBack hx (y := (⟨"com/example/rafterwire/rafterwire/radio/FaultLines", "isQuiet", "()Z"⟩ : MethodName)) (z := (⟨"com/example/rafterwire/rafterwire/radio/FaultLines", "isQuiet", "()Z"⟩ : MethodName)) hown (mvT hZ (hw _ (List.mem_of_getElem? (i := 33) rfl))) (mvT hZ (hw _ (List.mem_of_getElem? (i := 34) rfl))) (notFace_of_selects (args := #[]) (mvT hZ (hw _ (List.mem_of_getElem? (i := 36) rfl)))) (mvT hZ (hw _ (List.mem_of_getElem? (i := 36) rfl))) (mvT hZ (hw _ (List.mem_of_getElem? (i := 35) rfl))) (by decide) (backOf (W := 0) (rmq1 l Z a0 hw [] f s1 T52.heap n0 Z0 F_f_logged) hZ (hw _ (List.mem_of_getElem? (i := 37) rfl)) (hw _ (List.mem_of_getElem? (i := 28) rfl)) (by decide) (by decide)) q53a q53c (g := (mkF m 144 #[.val (.int i1), .val (.int i2), .val (.long j1), .second, .val (.long j2), .second, .val (.int i3), .val (.ref s1), .val (.ref s2), .val (.ref f), .val (.int (0 : Int32)), .val (.int (1 : Int32)), .val (.int (1 : Int32)), .unset] [(.ref f)])) rfl (by rw [hml]; rfl) (Steps.refl _) (argsL := []) (rest := []) (lenOf pd_10 rfl) rfl (by show 2 * 0 + _ ≤ _; exact Nat.le_of_eq rfl) (hb hby at_144) (fun _ _ => ⟨rfl, rfl, Nat.le_of_ble_eq_true rfl, Nat.le_of_ble_eq_true rfl⟩)
    dsimp only [Pt.U, Pt.locs, Pt.cells, Pt.slots] at X53 l53 y53 z53 st53 hQ53
    subst l53 y53 z53
    obtain ⟨rfl, N53q, e53⟩ := hQ53
    have N53 := Fr.app N52 N53q
    refine own_via (fun _ kt => st53.trans kt) ?_
    show own_G _ _ _ _ (T53.setTop (mkF m 147 #[.val (.int i1), .val (.int i2), .val (.long j1), .second, .val (.long j2), .second, .val (.int i3), .val (.ref s1), .val (.ref s2), .val (.ref f), .val (.int (0 : Int32)), .val (.int (1 : Int32)), .val (.int (1 : Int32)), .unset] [(.int (0 : Int32))]))
    refine own_via (fun _ k => XS.iload X53.here hx rfl (hb hby at_147) rfl k) ?_
    show own_G _ _ _ _ (T53.setTop (mkF m 149 #[.val (.int i1), .val (.int i2), .val (.long j1), .second, .val (.long j2), .second, .val (.int i3), .val (.ref s1), .val (.ref s2), .val (.ref f), .val (.int (0 : Int32)), .val (.int (1 : Int32)), .val (.int (1 : Int32)), .unset] [(.int (0 : Int32)), (.int (0 : Int32))]))
    refine own_via (fun _ k => XS.icmpNo X53.here hx rfl (hb hby at_149) rfl (teq (by decide)).2 k) ?_
    show own_G _ _ _ _ (T53.setTop (mkF m 152 #[.val (.int i1), .val (.int i2), .val (.long j1), .second, .val (.long j2), .second, .val (.int i3), .val (.ref s1), .val (.ref s2), .val (.ref f), .val (.int (0 : Int32)), .val (.int (1 : Int32)), .val (.int (1 : Int32)), .unset] []))
    refine own_via (fun _ k => XS.iconst X53.here hx rfl (hb hby at_152) k) ?_
    show own_G _ _ _ _ (T53.setTop (mkF m 153 #[.val (.int i1), .val (.int i2), .val (.long j1), .second, .val (.long j2), .second, .val (.int i3), .val (.ref s1), .val (.ref s2), .val (.ref f), .val (.int (0 : Int32)), .val (.int (1 : Int32)), .val (.int (1 : Int32)), .unset] [(.int (1 : Int32))]))
    refine own_via (fun _ k => XS.goto X53.here hx rfl (pc0 := 153) (pc' := 157) rfl (hb hby at_153) (by decide) (by decide) k) ?_
    show own_G _ _ _ _ (T53.setTop (mkF m 157 #[.val (.int i1), .val (.int i2), .val (.long j1), .second, .val (.long j2), .second, .val (.int i3), .val (.ref s1), .val (.ref s2), .val (.ref f), .val (.int (0 : Int32)), .val (.int (1 : Int32)), .val (.int (1 : Int32)), .unset] [(.int (1 : Int32))]))
    refine own_via (fun _ k => XS.istore X53.here hx rfl (hb hby at_157) rfl (l' := #[.val (.int i1), .val (.int i2), .val (.long j1), .second, .val (.long j2), .second, .val (.int i3), .val (.ref s1), .val (.ref s2), .val (.ref f), .val (.int (0 : Int32)), .val (.int (1 : Int32)), .val (.int (1 : Int32)), .unset]) rfl k) ?_
    show own_G _ _ _ _ (T53.setTop (mkF m 159 #[.val (.int i1), .val (.int i2), .val (.long j1), .second, .val (.long j2), .second, .val (.int i3), .val (.ref s1), .val (.ref s2), .val (.ref f), .val (.int (0 : Int32)), .val (.int (1 : Int32)), .val (.int (1 : Int32)), .unset] []))
    refine own_via (fun _ k => XS.iload X53.here hx rfl (hb hby at_159) rfl k) ?_
    show own_G _ _ _ _ (T53.setTop (mkF m 161 #[.val (.int i1), .val (.int i2), .val (.long j1), .second, .val (.long j2), .second, .val (.int i3), .val (.ref s1), .val (.ref s2), .val (.ref f), .val (.int (0 : Int32)), .val (.int (1 : Int32)), .val (.int (1 : Int32)), .unset] [(.int i3)]))
    refine own_via (fun _ k => XS.iconst X53.here hx rfl (hb hby at_161) k) ?_
    show own_G _ _ _ _ (T53.setTop (mkF m 162 #[.val (.int i1), .val (.int i2), .val (.long j1), .second, .val (.long j2), .second, .val (.int i3), .val (.ref s1), .val (.ref s2), .val (.ref f), .val (.int (0 : Int32)), .val (.int (1 : Int32)), .val (.int (1 : Int32)), .unset] [(.int (2 : Int32)), (.int i3)]))
    refine own_via (fun _ k => XS.iand X53.here hx rfl (hb hby at_162) rfl k) ?_
    show own_G _ _ _ _ (T53.setTop (mkF m 163 #[.val (.int i1), .val (.int i2), .val (.long j1), .second, .val (.long j2), .second, .val (.int i3), .val (.ref s1), .val (.ref s2), .val (.ref f), .val (.int (0 : Int32)), .val (.int (1 : Int32)), .val (.int (1 : Int32)), .unset] [(.int (i3 &&& (2 : Int32)))]))
    by_cases ho2 : (i3 &&& (2 : Int32)) = (0 : Int32)
    · refine own_via (fun _ k => XS.ifYes X53.here hx rfl (pc0 := 163) (pc' := 174) rfl (hb hby at_163) rfl ((if0 _ _).trans (teq ho2).1) (by decide) (by decide) k) ?_
      show own_G _ _ _ _ (T53.setTop (mkF m 174 #[.val (.int i1), .val (.int i2), .val (.long j1), .second, .val (.long j2), .second, .val (.int i3), .val (.ref s1), .val (.ref s2), .val (.ref f), .val (.int (0 : Int32)), .val (.int (1 : Int32)), .val (.int (1 : Int32)), .unset] []))
      refine own_via (fun _ k => XS.iload X53.here hx rfl (hb hby at_174) rfl k) ?_
      show own_G _ _ _ _ (T53.setTop (mkF m 176 #[.val (.int i1), .val (.int i2), .val (.long j1), .second, .val (.long j2), .second, .val (.int i3), .val (.ref s1), .val (.ref s2), .val (.ref f), .val (.int (0 : Int32)), .val (.int (1 : Int32)), .val (.int (1 : Int32)), .unset] [(.int (1 : Int32))]))
      refine own_via (fun _ k => XS.ifNo X53.here hx rfl (hb hby at_176) rfl ((if0 _ _).trans (feq (by decide)).1) k) ?_
      show own_G _ _ _ _ (T53.setTop (mkF m 179 #[.val (.int i1), .val (.int i2), .val (.long j1), .second, .val (.long j2), .second, .val (.int i3), .val (.ref s1), .val (.ref s2), .val (.ref f), .val (.int (0 : Int32)), .val (.int (1 : Int32)), .val (.int (1 : Int32)), .unset] []))
      refine own_via (fun _ k => XS.aload X53.here hx rfl (hb hby at_179) rfl rfl k) ?_
      show own_G _ _ _ _ (T53.setTop (mkF m 181 #[.val (.int i1), .val (.int i2), .val (.long j1), .second, .val (.long j2), .second, .val (.int i3), .val (.ref s1), .val (.ref s2), .val (.ref f), .val (.int (0 : Int32)), .val (.int (1 : Int32)), .val (.int (1 : Int32)), .unset] [(.ref f)]))
      obtain ⟨cq54, kq54, q54a, q54b, q54c⟩ := isOf hZ e53 E_f
      obtain ⟨_, _, ⟨T54, L54, k54, n54⟩, -, X54, ⟨Lc54, hQ54, l54, y54, z54⟩, st54⟩ := X53.virtualBack hx (y := (⟨"com/example/rafterwire/rafterwire/radio/FaultLines", "isQuiet", "()Z"⟩ : MethodName)) (z := (⟨"com/example/rafterwire/rafterwire/radio/FaultLines", "isQuiet", "()Z"⟩ : MethodName)) hown (mvT hZ (hw _ (List.mem_of_getElem? (i := 33) rfl))) (mvT hZ (hw _ (List.mem_of_getElem? (i := 34) rfl))) (notFace_of_selects (args := #[]) (mvT hZ (hw _ (List.mem_of_getElem? (i := 36) rfl)))) (mvT hZ (hw _ (List.mem_of_getElem? (i := 36) rfl))) (mvT hZ (hw _ (List.mem_of_getElem? (i := 35) rfl))) (by decide) (backOf (W := 0) (rmq1 l Z a0 hw [] f s1 T52.heap n0 Z0 F_f_logged) hZ (hw _ (List.mem_of_getElem? (i := 37) rfl)) (hw _ (List.mem_of_getElem? (i := 28) rfl)) (by decide) (by decide)) q54a q54c (g := (mkF m 181 #[.val (.int i1), .val (.int i2), .val (.long j1), .second, .val (.long j2), .second, .val (.int i3), .val (.ref s1), .val (.ref s2), .val (.ref f), .val (.int (0 : Int32)), .val (.int (1 : Int32)), .val (.int (1 : Int32)), .unset] [(.ref f)])) rfl (by rw [hml]; rfl) (Steps.refl _) (argsL := []) (rest := []) (lenOf pd_10 rfl) rfl (by show 2 * 0 + _ ≤ _; exact Nat.le_of_eq rfl) (hb hby at_181) (fun _ _ => ⟨rfl, e53, Nat.le_of_ble_eq_true rfl, Nat.le_of_ble_eq_true rfl⟩)
      dsimp only [Pt.U, Pt.locs, Pt.cells, Pt.slots] at X54 l54 y54 z54 st54 hQ54
      subst l54 y54 z54
      obtain ⟨rfl, N54q, e54⟩ := hQ54
      have N54 := Fr.app N53 N54q
      refine own_via (fun _ kt => st54.trans kt) ?_
      show own_G _ _ _ _ (T54.setTop (mkF m 184 #[.val (.int i1), .val (.int i2), .val (.long j1), .second, .val (.long j2), .second, .val (.int i3), .val (.ref s1), .val (.ref s2), .val (.ref f), .val (.int (0 : Int32)), .val (.int (1 : Int32)), .val (.int (1 : Int32)), .unset] [(.int (0 : Int32))]))
      refine own_via (fun _ k => XS.iload X54.here hx rfl (hb hby at_184) rfl k) ?_
      show own_G _ _ _ _ (T54.setTop (mkF m 186 #[.val (.int i1), .val (.int i2), .val (.long j1), .second, .val (.long j2), .second, .val (.int i3), .val (.ref s1), .val (.ref s2), .val (.ref f), .val (.int (0 : Int32)), .val (.int (1 : Int32)), .val (.int (1 : Int32)), .unset] [(.int (0 : Int32)), (.int (0 : Int32))]))
      refine own_via (fun _ k => XS.icmpNo X54.here hx rfl (hb hby at_186) rfl (teq (by decide)).2 k) ?_
      show own_G _ _ _ _ (T54.setTop (mkF m 189 #[.val (.int i1), .val (.int i2), .val (.long j1), .second, .val (.long j2), .second, .val (.int i3), .val (.ref s1), .val (.ref s2), .val (.ref f), .val (.int (0 : Int32)), .val (.int (1 : Int32)), .val (.int (1 : Int32)), .unset] []))
      refine own_via (fun _ k => XS.iconst X54.here hx rfl (hb hby at_189) k) ?_
      show own_G _ _ _ _ (T54.setTop (mkF m 190 #[.val (.int i1), .val (.int i2), .val (.long j1), .second, .val (.long j2), .second, .val (.int i3), .val (.ref s1), .val (.ref s2), .val (.ref f), .val (.int (0 : Int32)), .val (.int (1 : Int32)), .val (.int (1 : Int32)), .unset] [(.int (1 : Int32))]))
      refine own_via (fun _ k => XS.goto X54.here hx rfl (pc0 := 190) (pc' := 194) rfl (hb hby at_190) (by decide) (by decide) k) ?_
      show own_G _ _ _ _ (T54.setTop (mkF m 194 #[.val (.int i1), .val (.int i2), .val (.long j1), .second, .val (.long j2), .second, .val (.int i3), .val (.ref s1), .val (.ref s2), .val (.ref f), .val (.int (0 : Int32)), .val (.int (1 : Int32)), .val (.int (1 : Int32)), .unset] [(.int (1 : Int32))]))
      refine own_via (fun _ k => XS.istore X54.here hx rfl (hb hby at_194) rfl (l' := #[.val (.int i1), .val (.int i2), .val (.long j1), .second, .val (.long j2), .second, .val (.int i3), .val (.ref s1), .val (.ref s2), .val (.ref f), .val (.int (0 : Int32)), .val (.int (1 : Int32)), .val (.int (1 : Int32)), .unset]) rfl k) ?_
      show own_G _ _ _ _ (T54.setTop (mkF m 196 #[.val (.int i1), .val (.int i2), .val (.long j1), .second, .val (.long j2), .second, .val (.int i3), .val (.ref s1), .val (.ref s2), .val (.ref f), .val (.int (0 : Int32)), .val (.int (1 : Int32)), .val (.int (1 : Int32)), .unset] []))
      refine own_via (fun _ k => XS.aload X54.here hx rfl (hb hby at_196) rfl rfl k) ?_
      show own_G _ _ _ _ (T54.setTop (mkF m 198 #[.val (.int i1), .val (.int i2), .val (.long j1), .second, .val (.long j2), .second, .val (.int i3), .val (.ref s1), .val (.ref s2), .val (.ref f), .val (.int (0 : Int32)), .val (.int (1 : Int32)), .val (.int (1 : Int32)), .unset] [(.ref f)]))
      refine own_via (fun _ k => XS.aload X54.here hx rfl (hb hby at_198) rfl rfl k) ?_
      show own_G _ _ _ _ (T54.setTop (mkF m 200 #[.val (.int i1), .val (.int i2), .val (.long j1), .second, .val (.long j2), .second, .val (.int i3), .val (.ref s1), .val (.ref s2), .val (.ref f), .val (.int (0 : Int32)), .val (.int (1 : Int32)), .val (.int (1 : Int32)), .unset] [(.ref s2), (.ref f)]))
      refine own_via (fun _ k => XS.lload X54.here hx rfl (hb hby at_200) rfl k) ?_
      show own_G _ _ _ _ (T54.setTop (mkF m 202 #[.val (.int i1), .val (.int i2), .val (.long j1), .second, .val (.long j2), .second, .val (.int i3), .val (.ref s1), .val (.ref s2), .val (.ref f), .val (.int (0 : Int32)), .val (.int (1 : Int32)), .val (.int (1 : Int32)), .unset] [(.long j2), (.ref s2), (.ref f)]))
      obtain ⟨cq55, kq55, q55a, q55b, q55c⟩ := isOf hZ e54 E_f
      obtain ⟨_, _, ⟨T55, L55, k55, n55⟩, -, X55, ⟨Lc55, hQ55, l55, y55, z55⟩, st55⟩ := X54.virtualBack hx (y := (⟨"com/example/rafterwire/rafterwire/radio/FaultLines", "take", "(Ljava/lang/String;J)Z"⟩ : MethodName)) (z := (⟨"com/example/rafterwire/rafterwire/radio/FaultLines", "take", "(Ljava/lang/String;J)Z"⟩ : MethodName)) hown (mvT hZ (hw _ (List.mem_of_getElem? (i := 40) rfl))) (mvT hZ (hw _ (List.mem_of_getElem? (i := 41) rfl))) (notFace_of_selects (args := #[]) (mvT hZ (hw _ (List.mem_of_getElem? (i := 43) rfl)))) (mvT hZ (hw _ (List.mem_of_getElem? (i := 43) rfl))) (mvT hZ (hw _ (List.mem_of_getElem? (i := 42) rfl))) (by decide) (backOf (W := 0) (rmt1 l Z a0 hw [] f s2 j2 j1 s1 t2 t1 kc2 kc1 z2 z1 cs du T52.heap n0 Z0 E_f F_f_logged F_f_loggedAt g_f E_s2 F_s2_value F_s2_coder V_t2 E_s1 F_s1_value F_s1_coder V_t1 S_c hcs S_i E_du F_du_seconds F_du_nanos) hZ (hw _ (List.mem_of_getElem? (i := 44) rfl)) (hw _ (List.mem_of_getElem? (i := 28) rfl)) (by decide) (by decide)) q55a q55c (g := (mkF m 202 #[.val (.int i1), .val (.int i2), .val (.long j1), .second, .val (.long j2), .second, .val (.int i3), .val (.ref s1), .val (.ref s2), .val (.ref f), .val (.int (0 : Int32)), .val (.int (1 : Int32)), .val (.int (1 : Int32)), .unset] [(.long j2), (.ref s2), (.ref f)])) rfl (by rw [hml]; rfl) (Steps.refl _) (argsL := [(.ref s2), (.long j2)]) (rest := []) (lenOf pd_11 rfl) rfl (by show 2 * 0 + _ ≤ _; exact Nat.le_of_eq rfl) (hb hby at_202) (fun _ _ => ⟨rfl, e54, Nat.le_of_ble_eq_true rfl, Nat.le_of_ble_eq_true rfl⟩)
      dsimp only [Pt.U, Pt.locs, Pt.cells, Pt.slots] at X55 l55 y55 z55 st55 hQ55
      subst l55 y55 z55
      obtain ⟨kr, o2, q3, rfl, N55q, K55, -, F_f_logged, F_f_loggedAt⟩ := hQ55
      have N55 := Fr.app N54 N55q
      have S_c := own_sta1 S_c E_f K55
      have S_i := own_sta1 S_i E_f K55
      have E_du := E_du.keep K55
      have F_du_seconds := F_du_seconds.keep K55 (by simp [ne_du_f])
      have F_du_nanos := F_du_nanos.keep K55 (by simp [ne_du_f])
      have E_s1 := E_s1.keep K55
      have F_s1_value := F_s1_value.keep K55 (by simp [ne_s1_f])
      have F_s1_coder := F_s1_coder.keep K55 (by simp [ne_s1_f])
      have V_t1 := V_t1.keep K55 (by simp [ne_t1_f])
      have E_s2 := E_s2.keep K55
      have F_s2_value := F_s2_value.keep K55 (by simp [ne_s2_f])
      have F_s2_coder := F_s2_coder.keep K55 (by simp [ne_s2_f])
      have V_t2 := V_t2.keep K55 (by simp [ne_t2_f])
      have E_f := E_f.keep K55
      have Z0 := Nat.le_trans Z0 K55.1
      refine own_via (fun _ kt => st55.trans kt) ?_
      show own_G _ _ _ _ (T55.setTop (mkF m 205 #[.val (.int i1), .val (.int i2), .val (.long j1), .second, .val (.long j2), .second, .val (.int i3), .val (.ref s1), .val (.ref s2), .val (.ref f), .val (.int (0 : Int32)), .val (.int (1 : Int32)), .val (.int (1 : Int32)), .unset] [(.int kr)]))
      refine own_via (fun _ k => XS.istore X55.here hx rfl (hb hby at_205) rfl (l' := #[.val (.int i1), .val (.int i2), .val (.long j1), .second, .val (.long j2), .second, .val (.int i3), .val (.ref s1), .val (.ref s2), .val (.ref f), .val (.int (0 : Int32)), .val (.int (1 : Int32)), .val (.int (1 : Int32)), .val (.int kr)]) rfl k) ?_
      show own_G _ _ _ _ (T55.setTop (mkF m 207 #[.val (.int i1), .val (.int i2), .val (.long j1), .second, .val (.long j2), .second, .val (.int i3), .val (.ref s1), .val (.ref s2), .val (.ref f), .val (.int (0 : Int32)), .val (.int (1 : Int32)), .val (.int (1 : Int32)), .val (.int kr)] []))
      refine own_via (fun _ k => XS.iload X55.here hx rfl (hb hby at_207) rfl k) ?_
      show own_G _ _ _ _ (T55.setTop (mkF m 209 #[.val (.int i1), .val (.int i2), .val (.long j1), .second, .val (.long j2), .second, .val (.int i3), .val (.ref s1), .val (.ref s2), .val (.ref f), .val (.int (0 : Int32)), .val (.int (1 : Int32)), .val (.int (1 : Int32)), .val (.int kr)] [(.int (1 : Int32))]))
      refine own_via (fun _ k => XS.ifNo X55.here hx rfl (hb hby at_209) rfl ((if0 _ _).trans (feq (by decide)).1) k) ?_
      show own_G _ _ _ _ (T55.setTop (mkF m 212 #[.val (.int i1), .val (.int i2), .val (.long j1), .second, .val (.long j2), .second, .val (.int i3), .val (.ref s1), .val (.ref s2), .val (.ref f), .val (.int (0 : Int32)), .val (.int (1 : Int32)), .val (.int (1 : Int32)), .val (.int kr)] []))
      refine own_via (fun _ k => XS.iload X55.here hx rfl (hb hby at_212) rfl k) ?_
      show own_G _ _ _ _ (T55.setTop (mkF m 214 #[.val (.int i1), .val (.int i2), .val (.long j1), .second, .val (.long j2), .second, .val (.int i3), .val (.ref s1), .val (.ref s2), .val (.ref f), .val (.int (0 : Int32)), .val (.int (1 : Int32)), .val (.int (1 : Int32)), .val (.int kr)] [(.int (0 : Int32))]))
      refine own_via (fun _ k => XS.ifYes X55.here hx rfl (pc0 := 214) (pc' := 222) rfl (hb hby at_214) rfl ((if0 _ _).trans (teq (by decide)).1) (by decide) (by decide) k) ?_
      show own_G _ _ _ _ (T55.setTop (mkF m 222 #[.val (.int i1), .val (.int i2), .val (.long j1), .second, .val (.long j2), .second, .val (.int i3), .val (.ref s1), .val (.ref s2), .val (.ref f), .val (.int (0 : Int32)), .val (.int (1 : Int32)), .val (.int (1 : Int32)), .val (.int kr)] []))
      refine own_via (fun _ k => XS.iconst X55.here hx rfl (hb hby at_222) k) ?_
      show own_G _ _ _ _ (T55.setTop (mkF m 223 #[.val (.int i1), .val (.int i2), .val (.long j1), .second, .val (.long j2), .second, .val (.int i3), .val (.ref s1), .val (.ref s2), .val (.ref f), .val (.int (0 : Int32)), .val (.int (1 : Int32)), .val (.int (1 : Int32)), .val (.int kr)] [(.int (1 : Int32))]))
      refine own_via (fun _ k => XS.goto X55.here hx rfl (pc0 := 223) (pc' := 227) rfl (hb hby at_223) (by decide) (by decide) k) ?_
      show own_G _ _ _ _ (T55.setTop (mkF m 227 #[.val (.int i1), .val (.int i2), .val (.long j1), .second, .val (.long j2), .second, .val (.int i3), .val (.ref s1), .val (.ref s2), .val (.ref f), .val (.int (0 : Int32)), .val (.int (1 : Int32)), .val (.int (1 : Int32)), .val (.int kr)] [(.int (1 : Int32))]))
      refine own_via (fun _ k => XS.istore X55.here hx rfl (hb hby at_227) rfl (l' := #[.val (.int i1), .val (.int i2), .val (.long j1), .second, .val (.long j2), .second, .val (.int i3), .val (.ref s1), .val (.ref s2), .val (.ref f), .val (.int (0 : Int32)), .val (.int (1 : Int32)), .val (.int (1 : Int32)), .val (.int kr)]) rfl k) ?_
      show own_G _ _ _ _ (T55.setTop (mkF m 229 #[.val (.int i1), .val (.int i2), .val (.long j1), .second, .val (.long j2), .second, .val (.int i3), .val (.ref s1), .val (.ref s2), .val (.ref f), .val (.int (0 : Int32)), .val (.int (1 : Int32)), .val (.int (1 : Int32)), .val (.int kr)] []))
      refine own_via (fun _ k => XS.iload X55.here hx rfl (hb hby at_229) rfl k) ?_
      show own_G _ _ _ _ (T55.setTop (mkF m 231 #[.val (.int i1), .val (.int i2), .val (.long j1), .second, .val (.long j2), .second, .val (.int i3), .val (.ref s1), .val (.ref s2), .val (.ref f), .val (.int (0 : Int32)), .val (.int (1 : Int32)), .val (.int (1 : Int32)), .val (.int kr)] [(.int (0 : Int32))]))
      refine own_via (fun _ k => XS.ifYes X55.here hx rfl (pc0 := 231) (pc' := 243) rfl (hb hby at_231) rfl ((if0 _ _).trans (teq (by decide)).1) (by decide) (by decide) k) ?_
      show own_G _ _ _ _ (T55.setTop (mkF m 243 #[.val (.int i1), .val (.int i2), .val (.long j1), .second, .val (.long j2), .second, .val (.int i3), .val (.ref s1), .val (.ref s2), .val (.ref f), .val (.int (0 : Int32)), .val (.int (1 : Int32)), .val (.int (1 : Int32)), .val (.int kr)] []))
      refine own_via (fun _ k => XS.iconst X55.here hx rfl (hb hby at_243) k) ?_
      show own_G _ _ _ _ (T55.setTop (mkF m 244 #[.val (.int i1), .val (.int i2), .val (.long j1), .second, .val (.long j2), .second, .val (.int i3), .val (.ref s1), .val (.ref s2), .val (.ref f), .val (.int (0 : Int32)), .val (.int (1 : Int32)), .val (.int (1 : Int32)), .val (.int kr)] [(.int (0 : Int32))]))
      refine own_via (fun _ k => XS.istore X55.here hx rfl (hb hby at_244) rfl (l' := #[.val (.int i1), .val (.int i2), .val (.long j1), .second, .val (.long j2), .second, .val (.int i3), .val (.ref s1), .val (.ref s2), .val (.ref f), .val (.int (0 : Int32)), .val (.int (1 : Int32)), .val (.int (1 : Int32)), .val (.int kr)]) rfl k) ?_
      show own_G _ _ _ _ (T55.setTop (mkF m 246 #[.val (.int i1), .val (.int i2), .val (.long j1), .second, .val (.long j2), .second, .val (.int i3), .val (.ref s1), .val (.ref s2), .val (.ref f), .val (.int (0 : Int32)), .val (.int (1 : Int32)), .val (.int (1 : Int32)), .val (.int kr)] []))
      refine own_via (fun _ k => XS.iload X55.here hx rfl (hb hby at_246) rfl k) ?_
      show own_G _ _ _ _ (T55.setTop (mkF m 248 #[.val (.int i1), .val (.int i2), .val (.long j1), .second, .val (.long j2), .second, .val (.int i3), .val (.ref s1), .val (.ref s2), .val (.ref f), .val (.int (0 : Int32)), .val (.int (1 : Int32)), .val (.int (1 : Int32)), .val (.int kr)] [(.int (1 : Int32))]))
      refine own_via (fun _ k => XS.ifNo X55.here hx rfl (hb hby at_248) rfl ((if0 _ _).trans (feq (by decide)).1) k) ?_
      show own_G _ _ _ _ (T55.setTop (mkF m 251 #[.val (.int i1), .val (.int i2), .val (.long j1), .second, .val (.long j2), .second, .val (.int i3), .val (.ref s1), .val (.ref s2), .val (.ref f), .val (.int (0 : Int32)), .val (.int (1 : Int32)), .val (.int (1 : Int32)), .val (.int kr)] []))
      refine own_via (fun _ k => XS.aload X55.here hx rfl (hb hby at_251) rfl rfl k) ?_
      show own_G _ _ _ _ (T55.setTop (mkF m 253 #[.val (.int i1), .val (.int i2), .val (.long j1), .second, .val (.long j2), .second, .val (.int i3), .val (.ref s1), .val (.ref s2), .val (.ref f), .val (.int (0 : Int32)), .val (.int (1 : Int32)), .val (.int (1 : Int32)), .val (.int kr)] [(.ref f)]))
      obtain ⟨cq56, kq56, q56a, q56b, q56c⟩ := isOf hZ rfl E_f
      obtain ⟨_, _, ⟨T56, L56, k56, n56⟩, -, X56, ⟨Lc56, hQ56, l56, y56, z56⟩, st56⟩ := X55.virtualBack hx (y := (⟨"com/example/rafterwire/rafterwire/radio/FaultLines", "isQuiet", "()Z"⟩ : MethodName)) (z := (⟨"com/example/rafterwire/rafterwire/radio/FaultLines", "isQuiet", "()Z"⟩ : MethodName)) hown (mvT hZ (hw _ (List.mem_of_getElem? (i := 33) rfl))) (mvT hZ (hw _ (List.mem_of_getElem? (i := 34) rfl))) (notFace_of_selects (args := #[]) (mvT hZ (hw _ (List.mem_of_getElem? (i := 36) rfl)))) (mvT hZ (hw _ (List.mem_of_getElem? (i := 36) rfl))) (mvT hZ (hw _ (List.mem_of_getElem? (i := 35) rfl))) (by decide) (backOf (W := 0) (rmq1 l Z a0 hw [] f o2 T55.heap n0 Z0 F_f_logged) hZ (hw _ (List.mem_of_getElem? (i := 37) rfl)) (hw _ (List.mem_of_getElem? (i := 28) rfl)) (by decide) (by decide)) q56a q56c (g := (mkF m 253 #[.val (.int i1), .val (.int i2), .val (.long j1), .second, .val (.long j2), .second, .val (.int i3), .val (.ref s1), .val (.ref s2), .val (.ref f), .val (.int (0 : Int32)), .val (.int (1 : Int32)), .val (.int (1 : Int32)), .val (.int kr)] [(.ref f)])) rfl (by rw [hml]; rfl) (Steps.refl _) (argsL := []) (rest := []) (lenOf pd_10 rfl) rfl (by show 2 * 0 + _ ≤ _; exact Nat.le_of_eq rfl) (hb hby at_253) (fun _ _ => ⟨rfl, rfl, Nat.le_of_ble_eq_true rfl, Nat.le_of_ble_eq_true rfl⟩)
      dsimp only [Pt.U, Pt.locs, Pt.cells, Pt.slots] at X56 l56 y56 z56 st56 hQ56
      subst l56 y56 z56
      obtain ⟨rfl, N56q, e56⟩ := hQ56
      have N56 := Fr.app N55 N56q
      refine own_via (fun _ kt => st56.trans kt) ?_
      show own_G _ _ _ _ (T56.setTop (mkF m 256 #[.val (.int i1), .val (.int i2), .val (.long j1), .second, .val (.long j2), .second, .val (.int i3), .val (.ref s1), .val (.ref s2), .val (.ref f), .val (.int (0 : Int32)), .val (.int (1 : Int32)), .val (.int (1 : Int32)), .val (.int kr)] [(.int (0 : Int32))]))
      refine own_via (fun _ k => XS.iload X56.here hx rfl (hb hby at_256) rfl k) ?_
      show own_G _ _ _ _ (T56.setTop (mkF m 258 #[.val (.int i1), .val (.int i2), .val (.long j1), .second, .val (.long j2), .second, .val (.int i3), .val (.ref s1), .val (.ref s2), .val (.ref f), .val (.int (0 : Int32)), .val (.int (1 : Int32)), .val (.int (1 : Int32)), .val (.int kr)] [(.int (0 : Int32)), (.int (0 : Int32))]))
      refine own_via (fun _ k => XS.icmpNo X56.here hx rfl (hb hby at_258) rfl (teq (by decide)).2 k) ?_
      show own_G _ _ _ _ (T56.setTop (mkF m 261 #[.val (.int i1), .val (.int i2), .val (.long j1), .second, .val (.long j2), .second, .val (.int i3), .val (.ref s1), .val (.ref s2), .val (.ref f), .val (.int (0 : Int32)), .val (.int (1 : Int32)), .val (.int (1 : Int32)), .val (.int kr)] []))
      refine own_via (fun _ k => XS.iconst X56.here hx rfl (hb hby at_261) k) ?_
      show own_G _ _ _ _ (T56.setTop (mkF m 262 #[.val (.int i1), .val (.int i2), .val (.long j1), .second, .val (.long j2), .second, .val (.int i3), .val (.ref s1), .val (.ref s2), .val (.ref f), .val (.int (0 : Int32)), .val (.int (1 : Int32)), .val (.int (1 : Int32)), .val (.int kr)] [(.int (1 : Int32))]))
      refine own_via (fun _ k => XS.goto X56.here hx rfl (pc0 := 262) (pc' := 266) rfl (hb hby at_262) (by decide) (by decide) k) ?_
      show own_G _ _ _ _ (T56.setTop (mkF m 266 #[.val (.int i1), .val (.int i2), .val (.long j1), .second, .val (.long j2), .second, .val (.int i3), .val (.ref s1), .val (.ref s2), .val (.ref f), .val (.int (0 : Int32)), .val (.int (1 : Int32)), .val (.int (1 : Int32)), .val (.int kr)] [(.int (1 : Int32))]))
      refine own_via (fun _ k => XS.istore X56.here hx rfl (hb hby at_266) rfl (l' := #[.val (.int i1), .val (.int i2), .val (.long j1), .second, .val (.long j2), .second, .val (.int i3), .val (.ref s1), .val (.ref s2), .val (.ref f), .val (.int (0 : Int32)), .val (.int (1 : Int32)), .val (.int (1 : Int32)), .val (.int kr)]) rfl k) ?_
      show own_G _ _ _ _ (T56.setTop (mkF m 268 #[.val (.int i1), .val (.int i2), .val (.long j1), .second, .val (.long j2), .second, .val (.int i3), .val (.ref s1), .val (.ref s2), .val (.ref f), .val (.int (0 : Int32)), .val (.int (1 : Int32)), .val (.int (1 : Int32)), .val (.int kr)] []))
      refine own_via (fun _ k => XS.iload X56.here hx rfl (hb hby at_268) rfl k) ?_
      show own_G _ _ _ _ (T56.setTop (mkF m 270 #[.val (.int i1), .val (.int i2), .val (.long j1), .second, .val (.long j2), .second, .val (.int i3), .val (.ref s1), .val (.ref s2), .val (.ref f), .val (.int (0 : Int32)), .val (.int (1 : Int32)), .val (.int (1 : Int32)), .val (.int kr)] [(.int i3)]))
      refine own_via (fun _ k => XS.iconst X56.here hx rfl (hb hby at_270) k) ?_
      show own_G _ _ _ _ (T56.setTop (mkF m 271 #[.val (.int i1), .val (.int i2), .val (.long j1), .second, .val (.long j2), .second, .val (.int i3), .val (.ref s1), .val (.ref s2), .val (.ref f), .val (.int (0 : Int32)), .val (.int (1 : Int32)), .val (.int (1 : Int32)), .val (.int kr)] [(.int (4 : Int32)), (.int i3)]))
      refine own_via (fun _ k => XS.iand X56.here hx rfl (hb hby at_271) rfl k) ?_
      show own_G _ _ _ _ (T56.setTop (mkF m 272 #[.val (.int i1), .val (.int i2), .val (.long j1), .second, .val (.long j2), .second, .val (.int i3), .val (.ref s1), .val (.ref s2), .val (.ref f), .val (.int (0 : Int32)), .val (.int (1 : Int32)), .val (.int (1 : Int32)), .val (.int kr)] [(.int (i3 &&& (4 : Int32)))]))
      by_cases ho4 : (i3 &&& (4 : Int32)) = (0 : Int32)
      · refine own_via (fun _ k => XS.ifYes X56.here hx rfl (pc0 := 272) (pc' := 283) rfl (hb hby at_272) rfl ((if0 _ _).trans (teq ho4).1) (by decide) (by decide) k) ?_
        show own_G _ _ _ _ (T56.setTop (mkF m 283 #[.val (.int i1), .val (.int i2), .val (.long j1), .second, .val (.long j2), .second, .val (.int i3), .val (.ref s1), .val (.ref s2), .val (.ref f), .val (.int (0 : Int32)), .val (.int (1 : Int32)), .val (.int (1 : Int32)), .val (.int kr)] []))
        refine own_via (fun _ k => XS.iload X56.here hx rfl (hb hby at_283) rfl k) ?_
        show own_G _ _ _ _ (T56.setTop (mkF m 285 #[.val (.int i1), .val (.int i2), .val (.long j1), .second, .val (.long j2), .second, .val (.int i3), .val (.ref s1), .val (.ref s2), .val (.ref f), .val (.int (0 : Int32)), .val (.int (1 : Int32)), .val (.int (1 : Int32)), .val (.int kr)] [(.int (1 : Int32))]))
        refine own_via (fun _ k => XS.ifNo X56.here hx rfl (hb hby at_285) rfl ((if0 _ _).trans (feq (by decide)).1) k) ?_
        show own_G _ _ _ _ (T56.setTop (mkF m 288 #[.val (.int i1), .val (.int i2), .val (.long j1), .second, .val (.long j2), .second, .val (.int i3), .val (.ref s1), .val (.ref s2), .val (.ref f), .val (.int (0 : Int32)), .val (.int (1 : Int32)), .val (.int (1 : Int32)), .val (.int kr)] []))
        refine own_via (fun _ k => XS.aload X56.here hx rfl (hb hby at_288) rfl rfl k) ?_
        show own_G _ _ _ _ (T56.setTop (mkF m 290 #[.val (.int i1), .val (.int i2), .val (.long j1), .second, .val (.long j2), .second, .val (.int i3), .val (.ref s1), .val (.ref s2), .val (.ref f), .val (.int (0 : Int32)), .val (.int (1 : Int32)), .val (.int (1 : Int32)), .val (.int kr)] [(.ref f)]))
        obtain ⟨cq57, kq57, q57a, q57b, q57c⟩ := isOf hZ e56 E_f
        obtain ⟨_, _, ⟨T57, L57, k57, n57⟩, -, X57, ⟨Lc57, hQ57, l57, y57, z57⟩, st57⟩ := X56.virtualBack hx (y := (⟨"com/example/rafterwire/rafterwire/radio/FaultLines", "isQuiet", "()Z"⟩ : MethodName)) (z := (⟨"com/example/rafterwire/rafterwire/radio/FaultLines", "isQuiet", "()Z"⟩ : MethodName)) hown (mvT hZ (hw _ (List.mem_of_getElem? (i := 33) rfl))) (mvT hZ (hw _ (List.mem_of_getElem? (i := 34) rfl))) (notFace_of_selects (args := #[]) (mvT hZ (hw _ (List.mem_of_getElem? (i := 36) rfl)))) (mvT hZ (hw _ (List.mem_of_getElem? (i := 36) rfl))) (mvT hZ (hw _ (List.mem_of_getElem? (i := 35) rfl))) (by decide) (backOf (W := 0) (rmq1 l Z a0 hw [] f o2 T55.heap n0 Z0 F_f_logged) hZ (hw _ (List.mem_of_getElem? (i := 37) rfl)) (hw _ (List.mem_of_getElem? (i := 28) rfl)) (by decide) (by decide)) q57a q57c (g := (mkF m 290 #[.val (.int i1), .val (.int i2), .val (.long j1), .second, .val (.long j2), .second, .val (.int i3), .val (.ref s1), .val (.ref s2), .val (.ref f), .val (.int (0 : Int32)), .val (.int (1 : Int32)), .val (.int (1 : Int32)), .val (.int kr)] [(.ref f)])) rfl (by rw [hml]; rfl) (Steps.refl _) (argsL := []) (rest := []) (lenOf pd_10 rfl) rfl (by show 2 * 0 + _ ≤ _; exact Nat.le_of_eq rfl) (hb hby at_290) (fun _ _ => ⟨rfl, e56, Nat.le_of_ble_eq_true rfl, Nat.le_of_ble_eq_true rfl⟩)
        dsimp only [Pt.U, Pt.locs, Pt.cells, Pt.slots] at X57 l57 y57 z57 st57 hQ57
        subst l57 y57 z57
        obtain ⟨rfl, N57q, e57⟩ := hQ57
        have N57 := Fr.app N56 N57q
        refine own_via (fun _ kt => st57.trans kt) ?_
        show own_G _ _ _ _ (T57.setTop (mkF m 293 #[.val (.int i1), .val (.int i2), .val (.long j1), .second, .val (.long j2), .second, .val (.int i3), .val (.ref s1), .val (.ref s2), .val (.ref f), .val (.int (0 : Int32)), .val (.int (1 : Int32)), .val (.int (1 : Int32)), .val (.int kr)] [(.int (0 : Int32))]))
        refine own_via (fun _ k => XS.iload X57.here hx rfl (hb hby at_293) rfl k) ?_
        show own_G _ _ _ _ (T57.setTop (mkF m 295 #[.val (.int i1), .val (.int i2), .val (.long j1), .second, .val (.long j2), .second, .val (.int i3), .val (.ref s1), .val (.ref s2), .val (.ref f), .val (.int (0 : Int32)), .val (.int (1 : Int32)), .val (.int (1 : Int32)), .val (.int kr)] [(.int (0 : Int32)), (.int (0 : Int32))]))
        refine own_via (fun _ k => XS.icmpNo X57.here hx rfl (hb hby at_295) rfl (teq (by decide)).2 k) ?_
        show own_G _ _ _ _ (T57.setTop (mkF m 298 #[.val (.int i1), .val (.int i2), .val (.long j1), .second, .val (.long j2), .second, .val (.int i3), .val (.ref s1), .val (.ref s2), .val (.ref f), .val (.int (0 : Int32)), .val (.int (1 : Int32)), .val (.int (1 : Int32)), .val (.int kr)] []))
        refine own_via (fun _ k => XS.iconst X57.here hx rfl (hb hby at_298) k) ?_
        show own_G _ _ _ _ (T57.setTop (mkF m 299 #[.val (.int i1), .val (.int i2), .val (.long j1), .second, .val (.long j2), .second, .val (.int i3), .val (.ref s1), .val (.ref s2), .val (.ref f), .val (.int (0 : Int32)), .val (.int (1 : Int32)), .val (.int (1 : Int32)), .val (.int kr)] [(.int (1 : Int32))]))
        refine own_via (fun _ k => XS.goto X57.here hx rfl (pc0 := 299) (pc' := 303) rfl (hb hby at_299) (by decide) (by decide) k) ?_
        show own_G _ _ _ _ (T57.setTop (mkF m 303 #[.val (.int i1), .val (.int i2), .val (.long j1), .second, .val (.long j2), .second, .val (.int i3), .val (.ref s1), .val (.ref s2), .val (.ref f), .val (.int (0 : Int32)), .val (.int (1 : Int32)), .val (.int (1 : Int32)), .val (.int kr)] [(.int (1 : Int32))]))
        refine own_via (fun _ k => XS.istore X57.here hx rfl (hb hby at_303) rfl (l' := #[.val (.int i1), .val (.int i2), .val (.long j1), .second, .val (.long j2), .second, .val (.int i3), .val (.ref s1), .val (.ref s2), .val (.ref f), .val (.int (0 : Int32)), .val (.int (1 : Int32)), .val (.int (1 : Int32)), .val (.int kr)]) rfl k) ?_
        show own_G _ _ _ _ (T57.setTop (mkF m 305 #[.val (.int i1), .val (.int i2), .val (.long j1), .second, .val (.long j2), .second, .val (.int i3), .val (.ref s1), .val (.ref s2), .val (.ref f), .val (.int (0 : Int32)), .val (.int (1 : Int32)), .val (.int (1 : Int32)), .val (.int kr)] []))
        refine own_via (fun _ k => XS.iload X57.here hx rfl (hb hby at_305) rfl k) ?_
        show own_G _ _ _ _ (T57.setTop (mkF m 307 #[.val (.int i1), .val (.int i2), .val (.long j1), .second, .val (.long j2), .second, .val (.int i3), .val (.ref s1), .val (.ref s2), .val (.ref f), .val (.int (0 : Int32)), .val (.int (1 : Int32)), .val (.int (1 : Int32)), .val (.int kr)] [(.int (1 : Int32))]))
        obtain ⟨fs, hr, hrun, hended, hW, hsame⟩ := X57.leave (v := some (.int (1 : Int32))) (fun h => by rw [Bd.returns] at h; cases h)
        exact ⟨_, _, retN X57 hx (t := .boolean) Bd.returns (by simp) (hb hby at_307) hr, hrun, hended, _, _, rfl, ⟨rfl, N57⟩, ⟨_, rfl⟩, hW, hsame.mono (by decide) (by decide)⟩
      · refine own_via (fun _ k => XS.ifNo X56.here hx rfl (hb hby at_272) rfl ((if0 _ _).trans (feq ho4).1) k) ?_
        show own_G _ _ _ _ (T56.setTop (mkF m 275 #[.val (.int i1), .val (.int i2), .val (.long j1), .second, .val (.long j2), .second, .val (.int i3), .val (.ref s1), .val (.ref s2), .val (.ref f), .val (.int (0 : Int32)), .val (.int (1 : Int32)), .val (.int (1 : Int32)), .val (.int kr)] []))
        refine own_via (fun _ k => XS.aload X56.here hx rfl (hb hby at_275) rfl rfl k) ?_
        show own_G _ _ _ _ (T56.setTop (mkF m 277 #[.val (.int i1), .val (.int i2), .val (.long j1), .second, .val (.long j2), .second, .val (.int i3), .val (.ref s1), .val (.ref s2), .val (.ref f), .val (.int (0 : Int32)), .val (.int (1 : Int32)), .val (.int (1 : Int32)), .val (.int kr)] [(.ref f)]))
        obtain ⟨cq58, kq58, q58a, q58b, q58c⟩ := isOf hZ e56 E_f
        obtain ⟨_, _, ⟨T58, L58, k58, n58⟩, -, X58, ⟨Lc58, hQ58, l58, y58, z58⟩, st58⟩ := X56.virtualBack hx (y := (⟨"com/example/rafterwire/rafterwire/radio/FaultLines", "reset", "()V"⟩ : MethodName)) (z := (⟨"com/example/rafterwire/rafterwire/radio/FaultLines", "reset", "()V"⟩ : MethodName)) hown (mvT hZ (hw _ (List.mem_of_getElem? (i := 47) rfl))) (mvT hZ (hw _ (List.mem_of_getElem? (i := 48) rfl))) (notFace_of_selects (args := #[]) (mvT hZ (hw _ (List.mem_of_getElem? (i := 50) rfl)))) (mvT hZ (hw _ (List.mem_of_getElem? (i := 50) rfl))) (mvT hZ (hw _ (List.mem_of_getElem? (i := 49) rfl))) (by decide) (backOf (W := 0) (rmrs l Z a0 hw [] f (.ref o2) q3 T55.heap n0 Z0 E_f F_f_logged F_f_loggedAt g_f) hZ (hw _ (List.mem_of_getElem? (i := 51) rfl)) (hw _ (List.mem_of_getElem? (i := 28) rfl)) (by decide) (by decide)) q58a q58c (g := (mkF m 277 #[.val (.int i1), .val (.int i2), .val (.long j1), .second, .val (.long j2), .second, .val (.int i3), .val (.ref s1), .val (.ref s2), .val (.ref f), .val (.int (0 : Int32)), .val (.int (1 : Int32)), .val (.int (1 : Int32)), .val (.int kr)] [(.ref f)])) rfl (by rw [hml]; rfl) (Steps.refl _) (argsL := []) (rest := []) (lenOf pd_9 rfl) rfl (by show 2 * 0 + _ ≤ _; exact Nat.le_of_eq rfl) (hb hby at_277) (fun _ _ => ⟨rfl, e56, Nat.le_of_ble_eq_true rfl, Nat.le_of_ble_eq_true rfl⟩)
        dsimp only [Pt.U, Pt.locs, Pt.cells, Pt.slots] at X58 l58 y58 z58 st58 hQ58
        subst l58 y58 z58
        obtain ⟨rfl, N58q, K58, -, F_f_logged, F_f_loggedAt⟩ := hQ58
        have N58 := Fr.app N56 N58q
        have S_c := own_sta1 S_c E_f K58
        have S_i := own_sta1 S_i E_f K58
        have E_du := E_du.keep K58
        have F_du_seconds := F_du_seconds.keep K58 (by simp [ne_du_f])
        have F_du_nanos := F_du_nanos.keep K58 (by simp [ne_du_f])
        have E_s1 := E_s1.keep K58
        have F_s1_value := F_s1_value.keep K58 (by simp [ne_s1_f])
        have F_s1_coder := F_s1_coder.keep K58 (by simp [ne_s1_f])
        have V_t1 := V_t1.keep K58 (by simp [ne_t1_f])
        have E_s2 := E_s2.keep K58
        have F_s2_value := F_s2_value.keep K58 (by simp [ne_s2_f])
        have F_s2_coder := F_s2_coder.keep K58 (by simp [ne_s2_f])
        have V_t2 := V_t2.keep K58 (by simp [ne_t2_f])
        have E_f := E_f.keep K58
        have Z0 := Nat.le_trans Z0 K58.1
        refine own_via (fun _ kt => st58.trans kt) ?_
        show own_G _ _ _ _ (T58.setTop (mkF m 280 #[.val (.int i1), .val (.int i2), .val (.long j1), .second, .val (.long j2), .second, .val (.int i3), .val (.ref s1), .val (.ref s2), .val (.ref f), .val (.int (0 : Int32)), .val (.int (1 : Int32)), .val (.int (1 : Int32)), .val (.int kr)] []))
        refine own_via (fun _ k => XS.iconst X58.here hx rfl (hb hby at_280) k) ?_
        show own_G _ _ _ _ (T58.setTop (mkF m 281 #[.val (.int i1), .val (.int i2), .val (.long j1), .second, .val (.long j2), .second, .val (.int i3), .val (.ref s1), .val (.ref s2), .val (.ref f), .val (.int (0 : Int32)), .val (.int (1 : Int32)), .val (.int (1 : Int32)), .val (.int kr)] [(.int (1 : Int32))]))
        refine own_via (fun _ k => XS.istore X58.here hx rfl (hb hby at_281) rfl (l' := #[.val (.int i1), .val (.int i2), .val (.long j1), .second, .val (.long j2), .second, .val (.int i3), .val (.ref s1), .val (.ref s2), .val (.ref f), .val (.int (1 : Int32)), .val (.int (1 : Int32)), .val (.int (1 : Int32)), .val (.int kr)]) rfl k) ?_
        show own_G _ _ _ _ (T58.setTop (mkF m 283 #[.val (.int i1), .val (.int i2), .val (.long j1), .second, .val (.long j2), .second, .val (.int i3), .val (.ref s1), .val (.ref s2), .val (.ref f), .val (.int (1 : Int32)), .val (.int (1 : Int32)), .val (.int (1 : Int32)), .val (.int kr)] []))
        refine own_via (fun _ k => XS.iload X58.here hx rfl (hb hby at_283) rfl k) ?_
        show own_G _ _ _ _ (T58.setTop (mkF m 285 #[.val (.int i1), .val (.int i2), .val (.long j1), .second, .val (.long j2), .second, .val (.int i3), .val (.ref s1), .val (.ref s2), .val (.ref f), .val (.int (1 : Int32)), .val (.int (1 : Int32)), .val (.int (1 : Int32)), .val (.int kr)] [(.int (1 : Int32))]))
        refine own_via (fun _ k => XS.ifNo X58.here hx rfl (hb hby at_285) rfl ((if0 _ _).trans (feq (by decide)).1) k) ?_
        show own_G _ _ _ _ (T58.setTop (mkF m 288 #[.val (.int i1), .val (.int i2), .val (.long j1), .second, .val (.long j2), .second, .val (.int i3), .val (.ref s1), .val (.ref s2), .val (.ref f), .val (.int (1 : Int32)), .val (.int (1 : Int32)), .val (.int (1 : Int32)), .val (.int kr)] []))
        refine own_via (fun _ k => XS.aload X58.here hx rfl (hb hby at_288) rfl rfl k) ?_
        show own_G _ _ _ _ (T58.setTop (mkF m 290 #[.val (.int i1), .val (.int i2), .val (.long j1), .second, .val (.long j2), .second, .val (.int i3), .val (.ref s1), .val (.ref s2), .val (.ref f), .val (.int (1 : Int32)), .val (.int (1 : Int32)), .val (.int (1 : Int32)), .val (.int kr)] [(.ref f)]))
        obtain ⟨cq59, kq59, q59a, q59b, q59c⟩ := isOf hZ rfl E_f
        obtain ⟨_, _, ⟨T59, L59, k59, n59⟩, -, X59, ⟨Lc59, hQ59, l59, y59, z59⟩, st59⟩ := X58.virtualBack hx (y := (⟨"com/example/rafterwire/rafterwire/radio/FaultLines", "isQuiet", "()Z"⟩ : MethodName)) (z := (⟨"com/example/rafterwire/rafterwire/radio/FaultLines", "isQuiet", "()Z"⟩ : MethodName)) hown (mvT hZ (hw _ (List.mem_of_getElem? (i := 33) rfl))) (mvT hZ (hw _ (List.mem_of_getElem? (i := 34) rfl))) (notFace_of_selects (args := #[]) (mvT hZ (hw _ (List.mem_of_getElem? (i := 36) rfl)))) (mvT hZ (hw _ (List.mem_of_getElem? (i := 36) rfl))) (mvT hZ (hw _ (List.mem_of_getElem? (i := 35) rfl))) (by decide) (backOf (W := 0) (rmq0 l Z a0 hw [] f T58.heap n0 Z0 F_f_logged) hZ (hw _ (List.mem_of_getElem? (i := 37) rfl)) (hw _ (List.mem_of_getElem? (i := 28) rfl)) (by decide) (by decide)) q59a q59c (g := (mkF m 290 #[.val (.int i1), .val (.int i2), .val (.long j1), .second, .val (.long j2), .second, .val (.int i3), .val (.ref s1), .val (.ref s2), .val (.ref f), .val (.int (1 : Int32)), .val (.int (1 : Int32)), .val (.int (1 : Int32)), .val (.int kr)] [(.ref f)])) rfl (by rw [hml]; rfl) (Steps.refl _) (argsL := []) (rest := []) (lenOf pd_10 rfl) rfl (by show 2 * 0 + _ ≤ _; exact Nat.le_of_eq rfl) (hb hby at_290) (fun _ _ => ⟨rfl, rfl, Nat.le_of_ble_eq_true rfl, Nat.le_of_ble_eq_true rfl⟩)
        dsimp only [Pt.U, Pt.locs, Pt.cells, Pt.slots] at X59 l59 y59 z59 st59 hQ59
        subst l59 y59 z59
        obtain ⟨rfl, N59q, e59⟩ := hQ59
        have N59 := Fr.app N58 N59q
        refine own_via (fun _ kt => st59.trans kt) ?_
        show own_G _ _ _ _ (T59.setTop (mkF m 293 #[.val (.int i1), .val (.int i2), .val (.long j1), .second, .val (.long j2), .second, .val (.int i3), .val (.ref s1), .val (.ref s2), .val (.ref f), .val (.int (1 : Int32)), .val (.int (1 : Int32)), .val (.int (1 : Int32)), .val (.int kr)] [(.int (1 : Int32))]))
        refine own_via (fun _ k => XS.iload X59.here hx rfl (hb hby at_293) rfl k) ?_
        show own_G _ _ _ _ (T59.setTop (mkF m 295 #[.val (.int i1), .val (.int i2), .val (.long j1), .second, .val (.long j2), .second, .val (.int i3), .val (.ref s1), .val (.ref s2), .val (.ref f), .val (.int (1 : Int32)), .val (.int (1 : Int32)), .val (.int (1 : Int32)), .val (.int kr)] [(.int (1 : Int32)), (.int (1 : Int32))]))
        refine own_via (fun _ k => XS.icmpNo X59.here hx rfl (hb hby at_295) rfl (teq (by decide)).2 k) ?_
        show own_G _ _ _ _ (T59.setTop (mkF m 298 #[.val (.int i1), .val (.int i2), .val (.long j1), .second, .val (.long j2), .second, .val (.int i3), .val (.ref s1), .val (.ref s2), .val (.ref f), .val (.int (1 : Int32)), .val (.int (1 : Int32)), .val (.int (1 : Int32)), .val (.int kr)] []))
        refine own_via (fun _ k => XS.iconst X59.here hx rfl (hb hby at_298) k) ?_
        show own_G _ _ _ _ (T59.setTop (mkF m 299 #[.val (.int i1), .val (.int i2), .val (.long j1), .second, .val (.long j2), .second, .val (.int i3), .val (.ref s1), .val (.ref s2), .val (.ref f), .val (.int (1 : Int32)), .val (.int (1 : Int32)), .val (.int (1 : Int32)), .val (.int kr)] [(.int (1 : Int32))]))
        refine own_via (fun _ k => XS.goto X59.here hx rfl (pc0 := 299) (pc' := 303) rfl (hb hby at_299) (by decide) (by decide) k) ?_
        show own_G _ _ _ _ (T59.setTop (mkF m 303 #[.val (.int i1), .val (.int i2), .val (.long j1), .second, .val (.long j2), .second, .val (.int i3), .val (.ref s1), .val (.ref s2), .val (.ref f), .val (.int (1 : Int32)), .val (.int (1 : Int32)), .val (.int (1 : Int32)), .val (.int kr)] [(.int (1 : Int32))]))
        refine own_via (fun _ k => XS.istore X59.here hx rfl (hb hby at_303) rfl (l' := #[.val (.int i1), .val (.int i2), .val (.long j1), .second, .val (.long j2), .second, .val (.int i3), .val (.ref s1), .val (.ref s2), .val (.ref f), .val (.int (1 : Int32)), .val (.int (1 : Int32)), .val (.int (1 : Int32)), .val (.int kr)]) rfl k) ?_
        show own_G _ _ _ _ (T59.setTop (mkF m 305 #[.val (.int i1), .val (.int i2), .val (.long j1), .second, .val (.long j2), .second, .val (.int i3), .val (.ref s1), .val (.ref s2), .val (.ref f), .val (.int (1 : Int32)), .val (.int (1 : Int32)), .val (.int (1 : Int32)), .val (.int kr)] []))
        refine own_via (fun _ k => XS.iload X59.here hx rfl (hb hby at_305) rfl k) ?_
        show own_G _ _ _ _ (T59.setTop (mkF m 307 #[.val (.int i1), .val (.int i2), .val (.long j1), .second, .val (.long j2), .second, .val (.int i3), .val (.ref s1), .val (.ref s2), .val (.ref f), .val (.int (1 : Int32)), .val (.int (1 : Int32)), .val (.int (1 : Int32)), .val (.int kr)] [(.int (1 : Int32))]))
        obtain ⟨fs, hr, hrun, hended, hW, hsame⟩ := X59.leave (v := some (.int (1 : Int32))) (fun h => by rw [Bd.returns] at h; cases h)
        exact ⟨_, _, retN X59 hx (t := .boolean) Bd.returns (by simp) (hb hby at_307) hr, hrun, hended, _, _, rfl, ⟨rfl, N59⟩, ⟨_, rfl⟩, hW, hsame.mono (by decide) (by decide)⟩
    · refine own_via (fun _ k => XS.ifNo X53.here hx rfl (hb hby at_163) rfl ((if0 _ _).trans (feq ho2).1) k) ?_
      show own_G _ _ _ _ (T53.setTop (mkF m 166 #[.val (.int i1), .val (.int i2), .val (.long j1), .second, .val (.long j2), .second, .val (.int i3), .val (.ref s1), .val (.ref s2), .val (.ref f), .val (.int (0 : Int32)), .val (.int (1 : Int32)), .val (.int (1 : Int32)), .unset] []))
      refine own_via (fun _ k => XS.aload X53.here hx rfl (hb hby at_166) rfl rfl k) ?_
      show own_G _ _ _ _ (T53.setTop (mkF m 168 #[.val (.int i1), .val (.int i2), .val (.long j1), .second, .val (.long j2), .second, .val (.int i3), .val (.ref s1), .val (.ref s2), .val (.ref f), .val (.int (0 : Int32)), .val (.int (1 : Int32)), .val (.int (1 : Int32)), .unset] [(.ref f)]))
      obtain ⟨cq60, kq60, q60a, q60b, q60c⟩ := isOf hZ e53 E_f
      obtain ⟨_, _, ⟨T60, L60, k60, n60⟩, -, X60, ⟨Lc60, hQ60, l60, y60, z60⟩, st60⟩ := X53.virtualBack hx (y := (⟨"com/example/rafterwire/rafterwire/radio/FaultLines", "reset", "()V"⟩ : MethodName)) (z := (⟨"com/example/rafterwire/rafterwire/radio/FaultLines", "reset", "()V"⟩ : MethodName)) hown (mvT hZ (hw _ (List.mem_of_getElem? (i := 47) rfl))) (mvT hZ (hw _ (List.mem_of_getElem? (i := 48) rfl))) (notFace_of_selects (args := #[]) (mvT hZ (hw _ (List.mem_of_getElem? (i := 50) rfl)))) (mvT hZ (hw _ (List.mem_of_getElem? (i := 50) rfl))) (mvT hZ (hw _ (List.mem_of_getElem? (i := 49) rfl))) (by decide) (backOf (W := 0) (rmrs l Z a0 hw [] f (.ref s1) j1 T52.heap n0 Z0 E_f F_f_logged F_f_loggedAt g_f) hZ (hw _ (List.mem_of_getElem? (i := 51) rfl)) (hw _ (List.mem_of_getElem? (i := 28) rfl)) (by decide) (by decide)) q60a q60c (g := (mkF m 168 #[.val (.int i1), .val (.int i2), .val (.long j1), .second, .val (.long j2), .second, .val (.int i3), .val (.ref s1), .val (.ref s2), .val (.ref f), .val (.int (0 : Int32)), .val (.int (1 : Int32)), .val (.int (1 : Int32)), .unset] [(.ref f)])) rfl (by rw [hml]; rfl) (Steps.refl _) (argsL := []) (rest := []) (lenOf pd_9 rfl) rfl (by show 2 * 0 + _ ≤ _; exact Nat.le_of_eq rfl) (hb hby at_168) (fun _ _ => ⟨rfl, e53, Nat.le_of_ble_eq_true rfl, Nat.le_of_ble_eq_true rfl⟩)
      dsimp only [Pt.U, Pt.locs, Pt.cells, Pt.slots] at X60 l60 y60 z60 st60 hQ60
      subst l60 y60 z60
      obtain ⟨rfl, N60q, K60, -, F_f_logged, F_f_loggedAt⟩ := hQ60
      have N60 := Fr.app N53 N60q
      have S_c := own_sta1 S_c E_f K60
      have S_i := own_sta1 S_i E_f K60
      have E_du := E_du.keep K60
      have F_du_seconds := F_du_seconds.keep K60 (by simp [ne_du_f])
      have F_du_nanos := F_du_nanos.keep K60 (by simp [ne_du_f])
      have E_s1 := E_s1.keep K60
      have F_s1_value := F_s1_value.keep K60 (by simp [ne_s1_f])
      have F_s1_coder := F_s1_coder.keep K60 (by simp [ne_s1_f])
      have V_t1 := V_t1.keep K60 (by simp [ne_t1_f])
      have E_s2 := E_s2.keep K60
      have F_s2_value := F_s2_value.keep K60 (by simp [ne_s2_f])
      have F_s2_coder := F_s2_coder.keep K60 (by simp [ne_s2_f])
      have V_t2 := V_t2.keep K60 (by simp [ne_t2_f])
      have E_f := E_f.keep K60
      have Z0 := Nat.le_trans Z0 K60.1
      refine own_via (fun _ kt => st60.trans kt) ?_
      show own_G _ _ _ _ (T60.setTop (mkF m 171 #[.val (.int i1), .val (.int i2), .val (.long j1), .second, .val (.long j2), .second, .val (.int i3), .val (.ref s1), .val (.ref s2), .val (.ref f), .val (.int (0 : Int32)), .val (.int (1 : Int32)), .val (.int (1 : Int32)), .unset] []))
      refine own_via (fun _ k => XS.iconst X60.here hx rfl (hb hby at_171) k) ?_
      show own_G _ _ _ _ (T60.setTop (mkF m 172 #[.val (.int i1), .val (.int i2), .val (.long j1), .second, .val (.long j2), .second, .val (.int i3), .val (.ref s1), .val (.ref s2), .val (.ref f), .val (.int (0 : Int32)), .val (.int (1 : Int32)), .val (.int (1 : Int32)), .unset] [(.int (1 : Int32))]))
      refine own_via (fun _ k => XS.istore X60.here hx rfl (hb hby at_172) rfl (l' := #[.val (.int i1), .val (.int i2), .val (.long j1), .second, .val (.long j2), .second, .val (.int i3), .val (.ref s1), .val (.ref s2), .val (.ref f), .val (.int (1 : Int32)), .val (.int (1 : Int32)), .val (.int (1 : Int32)), .unset]) rfl k) ?_
      show own_G _ _ _ _ (T60.setTop (mkF m 174 #[.val (.int i1), .val (.int i2), .val (.long j1), .second, .val (.long j2), .second, .val (.int i3), .val (.ref s1), .val (.ref s2), .val (.ref f), .val (.int (1 : Int32)), .val (.int (1 : Int32)), .val (.int (1 : Int32)), .unset] []))
      refine own_via (fun _ k => XS.iload X60.here hx rfl (hb hby at_174) rfl k) ?_
      show own_G _ _ _ _ (T60.setTop (mkF m 176 #[.val (.int i1), .val (.int i2), .val (.long j1), .second, .val (.long j2), .second, .val (.int i3), .val (.ref s1), .val (.ref s2), .val (.ref f), .val (.int (1 : Int32)), .val (.int (1 : Int32)), .val (.int (1 : Int32)), .unset] [(.int (1 : Int32))]))
      refine own_via (fun _ k => XS.ifNo X60.here hx rfl (hb hby at_176) rfl ((if0 _ _).trans (feq (by decide)).1) k) ?_
      show own_G _ _ _ _ (T60.setTop (mkF m 179 #[.val (.int i1), .val (.int i2), .val (.long j1), .second, .val (.long j2), .second, .val (.int i3), .val (.ref s1), .val (.ref s2), .val (.ref f), .val (.int (1 : Int32)), .val (.int (1 : Int32)), .val (.int (1 : Int32)), .unset] []))
      refine own_via (fun _ k => XS.aload X60.here hx rfl (hb hby at_179) rfl rfl k) ?_
      show own_G _ _ _ _ (T60.setTop (mkF m 181 #[.val (.int i1), .val (.int i2), .val (.long j1), .second, .val (.long j2), .second, .val (.int i3), .val (.ref s1), .val (.ref s2), .val (.ref f), .val (.int (1 : Int32)), .val (.int (1 : Int32)), .val (.int (1 : Int32)), .unset] [(.ref f)]))
      obtain ⟨cq61, kq61, q61a, q61b, q61c⟩ := isOf hZ rfl E_f
      obtain ⟨_, _, ⟨T61, L61, k61, n61⟩, -, X61, ⟨Lc61, hQ61, l61, y61, z61⟩, st61⟩ := X60.virtualBack hx (y := (⟨"com/example/rafterwire/rafterwire/radio/FaultLines", "isQuiet", "()Z"⟩ : MethodName)) (z := (⟨"com/example/rafterwire/rafterwire/radio/FaultLines", "isQuiet", "()Z"⟩ : MethodName)) hown (mvT hZ (hw _ (List.mem_of_getElem? (i := 33) rfl))) (mvT hZ (hw _ (List.mem_of_getElem? (i := 34) rfl))) (notFace_of_selects (args := #[]) (mvT hZ (hw _ (List.mem_of_getElem? (i := 36) rfl)))) (mvT hZ (hw _ (List.mem_of_getElem? (i := 36) rfl))) (mvT hZ (hw _ (List.mem_of_getElem? (i := 35) rfl))) (by decide) (backOf (W := 0) (rmq0 l Z a0 hw [] f T60.heap n0 Z0 F_f_logged) hZ (hw _ (List.mem_of_getElem? (i := 37) rfl)) (hw _ (List.mem_of_getElem? (i := 28) rfl)) (by decide) (by decide)) q61a q61c (g := (mkF m 181 #[.val (.int i1), .val (.int i2), .val (.long j1), .second, .val (.long j2), .second, .val (.int i3), .val (.ref s1), .val (.ref s2), .val (.ref f), .val (.int (1 : Int32)), .val (.int (1 : Int32)), .val (.int (1 : Int32)), .unset] [(.ref f)])) rfl (by rw [hml]; rfl) (Steps.refl _) (argsL := []) (rest := []) (lenOf pd_10 rfl) rfl (by show 2 * 0 + _ ≤ _; exact Nat.le_of_eq rfl) (hb hby at_181) (fun _ _ => ⟨rfl, rfl, Nat.le_of_ble_eq_true rfl, Nat.le_of_ble_eq_true rfl⟩)
      dsimp only [Pt.U, Pt.locs, Pt.cells, Pt.slots] at X61 l61 y61 z61 st61 hQ61
      subst l61 y61 z61
      obtain ⟨rfl, N61q, e61⟩ := hQ61
      have N61 := Fr.app N60 N61q
      refine own_via (fun _ kt => st61.trans kt) ?_
      show own_G _ _ _ _ (T61.setTop (mkF m 184 #[.val (.int i1), .val (.int i2), .val (.long j1), .second, .val (.long j2), .second, .val (.int i3), .val (.ref s1), .val (.ref s2), .val (.ref f), .val (.int (1 : Int32)), .val (.int (1 : Int32)), .val (.int (1 : Int32)), .unset] [(.int (1 : Int32))]))
      refine own_via (fun _ k => XS.iload X61.here hx rfl (hb hby at_184) rfl k) ?_
      show own_G _ _ _ _ (T61.setTop (mkF m 186 #[.val (.int i1), .val (.int i2), .val (.long j1), .second, .val (.long j2), .second, .val (.int i3), .val (.ref s1), .val (.ref s2), .val (.ref f), .val (.int (1 : Int32)), .val (.int (1 : Int32)), .val (.int (1 : Int32)), .unset] [(.int (1 : Int32)), (.int (1 : Int32))]))
      refine own_via (fun _ k => XS.icmpNo X61.here hx rfl (hb hby at_186) rfl (teq (by decide)).2 k) ?_
      show own_G _ _ _ _ (T61.setTop (mkF m 189 #[.val (.int i1), .val (.int i2), .val (.long j1), .second, .val (.long j2), .second, .val (.int i3), .val (.ref s1), .val (.ref s2), .val (.ref f), .val (.int (1 : Int32)), .val (.int (1 : Int32)), .val (.int (1 : Int32)), .unset] []))
      refine own_via (fun _ k => XS.iconst X61.here hx rfl (hb hby at_189) k) ?_
      show own_G _ _ _ _ (T61.setTop (mkF m 190 #[.val (.int i1), .val (.int i2), .val (.long j1), .second, .val (.long j2), .second, .val (.int i3), .val (.ref s1), .val (.ref s2), .val (.ref f), .val (.int (1 : Int32)), .val (.int (1 : Int32)), .val (.int (1 : Int32)), .unset] [(.int (1 : Int32))]))
      refine own_via (fun _ k => XS.goto X61.here hx rfl (pc0 := 190) (pc' := 194) rfl (hb hby at_190) (by decide) (by decide) k) ?_
      show own_G _ _ _ _ (T61.setTop (mkF m 194 #[.val (.int i1), .val (.int i2), .val (.long j1), .second, .val (.long j2), .second, .val (.int i3), .val (.ref s1), .val (.ref s2), .val (.ref f), .val (.int (1 : Int32)), .val (.int (1 : Int32)), .val (.int (1 : Int32)), .unset] [(.int (1 : Int32))]))
      refine own_via (fun _ k => XS.istore X61.here hx rfl (hb hby at_194) rfl (l' := #[.val (.int i1), .val (.int i2), .val (.long j1), .second, .val (.long j2), .second, .val (.int i3), .val (.ref s1), .val (.ref s2), .val (.ref f), .val (.int (1 : Int32)), .val (.int (1 : Int32)), .val (.int (1 : Int32)), .unset]) rfl k) ?_
      show own_G _ _ _ _ (T61.setTop (mkF m 196 #[.val (.int i1), .val (.int i2), .val (.long j1), .second, .val (.long j2), .second, .val (.int i3), .val (.ref s1), .val (.ref s2), .val (.ref f), .val (.int (1 : Int32)), .val (.int (1 : Int32)), .val (.int (1 : Int32)), .unset] []))
      refine own_via (fun _ k => XS.aload X61.here hx rfl (hb hby at_196) rfl rfl k) ?_
      show own_G _ _ _ _ (T61.setTop (mkF m 198 #[.val (.int i1), .val (.int i2), .val (.long j1), .second, .val (.long j2), .second, .val (.int i3), .val (.ref s1), .val (.ref s2), .val (.ref f), .val (.int (1 : Int32)), .val (.int (1 : Int32)), .val (.int (1 : Int32)), .unset] [(.ref f)]))
      refine own_via (fun _ k => XS.aload X61.here hx rfl (hb hby at_198) rfl rfl k) ?_
      show own_G _ _ _ _ (T61.setTop (mkF m 200 #[.val (.int i1), .val (.int i2), .val (.long j1), .second, .val (.long j2), .second, .val (.int i3), .val (.ref s1), .val (.ref s2), .val (.ref f), .val (.int (1 : Int32)), .val (.int (1 : Int32)), .val (.int (1 : Int32)), .unset] [(.ref s2), (.ref f)]))
      refine own_via (fun _ k => XS.lload X61.here hx rfl (hb hby at_200) rfl k) ?_
      show own_G _ _ _ _ (T61.setTop (mkF m 202 #[.val (.int i1), .val (.int i2), .val (.long j1), .second, .val (.long j2), .second, .val (.int i3), .val (.ref s1), .val (.ref s2), .val (.ref f), .val (.int (1 : Int32)), .val (.int (1 : Int32)), .val (.int (1 : Int32)), .unset] [(.long j2), (.ref s2), (.ref f)]))
      obtain ⟨cq62, kq62, q62a, q62b, q62c⟩ := isOf hZ e61 E_f
      obtain ⟨_, _, ⟨T62, L62, k62, n62⟩, -, X62, ⟨Lc62, hQ62, l62, y62, z62⟩, st62⟩ := X61.virtualBack hx (y := (⟨"com/example/rafterwire/rafterwire/radio/FaultLines", "take", "(Ljava/lang/String;J)Z"⟩ : MethodName)) (z := (⟨"com/example/rafterwire/rafterwire/radio/FaultLines", "take", "(Ljava/lang/String;J)Z"⟩ : MethodName)) hown (mvT hZ (hw _ (List.mem_of_getElem? (i := 40) rfl))) (mvT hZ (hw _ (List.mem_of_getElem? (i := 41) rfl))) (notFace_of_selects (args := #[]) (mvT hZ (hw _ (List.mem_of_getElem? (i := 43) rfl)))) (mvT hZ (hw _ (List.mem_of_getElem? (i := 43) rfl))) (mvT hZ (hw _ (List.mem_of_getElem? (i := 42) rfl))) (by decide) (backOf (W := 0) (rmt0 l Z a0 hw [] f s2 j2 j1 T60.heap n0 Z0 E_f F_f_logged F_f_loggedAt g_f) hZ (hw _ (List.mem_of_getElem? (i := 44) rfl)) (hw _ (List.mem_of_getElem? (i := 28) rfl)) (by decide) (by decide)) q62a q62c (g := (mkF m 202 #[.val (.int i1), .val (.int i2), .val (.long j1), .second, .val (.long j2), .second, .val (.int i3), .val (.ref s1), .val (.ref s2), .val (.ref f), .val (.int (1 : Int32)), .val (.int (1 : Int32)), .val (.int (1 : Int32)), .unset] [(.long j2), (.ref s2), (.ref f)])) rfl (by rw [hml]; rfl) (Steps.refl _) (argsL := [(.ref s2), (.long j2)]) (rest := []) (lenOf pd_11 rfl) rfl (by show 2 * 0 + _ ≤ _; exact Nat.le_of_eq rfl) (hb hby at_202) (fun _ _ => ⟨rfl, e61, Nat.le_of_ble_eq_true rfl, Nat.le_of_ble_eq_true rfl⟩)
      dsimp only [Pt.U, Pt.locs, Pt.cells, Pt.slots] at X62 l62 y62 z62 st62 hQ62
      subst l62 y62 z62
      obtain ⟨rfl, N62q, K62, -, F_f_logged, F_f_loggedAt⟩ := hQ62
      have N62 := Fr.app N61 N62q
      have S_c := own_sta1 S_c E_f K62
      have S_i := own_sta1 S_i E_f K62
      have E_du := E_du.keep K62
      have F_du_seconds := F_du_seconds.keep K62 (by simp [ne_du_f])
      have F_du_nanos := F_du_nanos.keep K62 (by simp [ne_du_f])
      have E_s1 := E_s1.keep K62
      have F_s1_value := F_s1_value.keep K62 (by simp [ne_s1_f])
      have F_s1_coder := F_s1_coder.keep K62 (by simp [ne_s1_f])
      have V_t1 := V_t1.keep K62 (by simp [ne_t1_f])
      have E_s2 := E_s2.keep K62
      have F_s2_value := F_s2_value.keep K62 (by simp [ne_s2_f])
      have F_s2_coder := F_s2_coder.keep K62 (by simp [ne_s2_f])
      have V_t2 := V_t2.keep K62 (by simp [ne_t2_f])
      have E_f := E_f.keep K62
      have Z0 := Nat.le_trans Z0 K62.1
      refine own_via (fun _ kt => st62.trans kt) ?_
      show own_G _ _ _ _ (T62.setTop (mkF m 205 #[.val (.int i1), .val (.int i2), .val (.long j1), .second, .val (.long j2), .second, .val (.int i3), .val (.ref s1), .val (.ref s2), .val (.ref f), .val (.int (1 : Int32)), .val (.int (1 : Int32)), .val (.int (1 : Int32)), .unset] [(.int (1 : Int32))]))
      refine own_via (fun _ k => XS.istore X62.here hx rfl (hb hby at_205) rfl (l' := #[.val (.int i1), .val (.int i2), .val (.long j1), .second, .val (.long j2), .second, .val (.int i3), .val (.ref s1), .val (.ref s2), .val (.ref f), .val (.int (1 : Int32)), .val (.int (1 : Int32)), .val (.int (1 : Int32)), .val (.int (1 : Int32))]) rfl k) ?_
      show own_G _ _ _ _ (T62.setTop (mkF m 207 #[.val (.int i1), .val (.int i2), .val (.long j1), .second, .val (.long j2), .second, .val (.int i3), .val (.ref s1), .val (.ref s2), .val (.ref f), .val (.int (1 : Int32)), .val (.int (1 : Int32)), .val (.int (1 : Int32)), .val (.int (1 : Int32))] []))
      refine own_via (fun _ k => XS.iload X62.here hx rfl (hb hby at_207) rfl k) ?_
      show own_G _ _ _ _ (T62.setTop (mkF m 209 #[.val (.int i1), .val (.int i2), .val (.long j1), .second, .val (.long j2), .second, .val (.int i3), .val (.ref s1), .val (.ref s2), .val (.ref f), .val (.int (1 : Int32)), .val (.int (1 : Int32)), .val (.int (1 : Int32)), .val (.int (1 : Int32))] [(.int (1 : Int32))]))
      refine own_via (fun _ k => XS.ifNo X62.here hx rfl (hb hby at_209) rfl ((if0 _ _).trans (feq (by decide)).1) k) ?_
      show own_G _ _ _ _ (T62.setTop (mkF m 212 #[.val (.int i1), .val (.int i2), .val (.long j1), .second, .val (.long j2), .second, .val (.int i3), .val (.ref s1), .val (.ref s2), .val (.ref f), .val (.int (1 : Int32)), .val (.int (1 : Int32)), .val (.int (1 : Int32)), .val (.int (1 : Int32))] []))
      refine own_via (fun _ k => XS.iload X62.here hx rfl (hb hby at_212) rfl k) ?_
      show own_G _ _ _ _ (T62.setTop (mkF m 214 #[.val (.int i1), .val (.int i2), .val (.long j1), .second, .val (.long j2), .second, .val (.int i3), .val (.ref s1), .val (.ref s2), .val (.ref f), .val (.int (1 : Int32)), .val (.int (1 : Int32)), .val (.int (1 : Int32)), .val (.int (1 : Int32))] [(.int (1 : Int32))]))
      refine own_via (fun _ k => XS.ifNo X62.here hx rfl (hb hby at_214) rfl ((if0 _ _).trans (feq (by decide)).1) k) ?_
      show own_G _ _ _ _ (T62.setTop (mkF m 217 #[.val (.int i1), .val (.int i2), .val (.long j1), .second, .val (.long j2), .second, .val (.int i3), .val (.ref s1), .val (.ref s2), .val (.ref f), .val (.int (1 : Int32)), .val (.int (1 : Int32)), .val (.int (1 : Int32)), .val (.int (1 : Int32))] []))
      refine own_via (fun _ k => XS.iload X62.here hx rfl (hb hby at_217) rfl k) ?_
      show own_G _ _ _ _ (T62.setTop (mkF m 219 #[.val (.int i1), .val (.int i2), .val (.long j1), .second, .val (.long j2), .second, .val (.int i3), .val (.ref s1), .val (.ref s2), .val (.ref f), .val (.int (1 : Int32)), .val (.int (1 : Int32)), .val (.int (1 : Int32)), .val (.int (1 : Int32))] [(.int (1 : Int32))]))
      refine own_via (fun _ k => XS.ifNo X62.here hx rfl (hb hby at_219) rfl ((if0 _ _).trans (feq (by decide)).1) k) ?_
      show own_G _ _ _ _ (T62.setTop (mkF m 222 #[.val (.int i1), .val (.int i2), .val (.long j1), .second, .val (.long j2), .second, .val (.int i3), .val (.ref s1), .val (.ref s2), .val (.ref f), .val (.int (1 : Int32)), .val (.int (1 : Int32)), .val (.int (1 : Int32)), .val (.int (1 : Int32))] []))
      refine own_via (fun _ k => XS.iconst X62.here hx rfl (hb hby at_222) k) ?_
      show own_G _ _ _ _ (T62.setTop (mkF m 223 #[.val (.int i1), .val (.int i2), .val (.long j1), .second, .val (.long j2), .second, .val (.int i3), .val (.ref s1), .val (.ref s2), .val (.ref f), .val (.int (1 : Int32)), .val (.int (1 : Int32)), .val (.int (1 : Int32)), .val (.int (1 : Int32))] [(.int (1 : Int32))]))
      refine own_via (fun _ k => XS.goto X62.here hx rfl (pc0 := 223) (pc' := 227) rfl (hb hby at_223) (by decide) (by decide) k) ?_
      show own_G _ _ _ _ (T62.setTop (mkF m 227 #[.val (.int i1), .val (.int i2), .val (.long j1), .second, .val (.long j2), .second, .val (.int i3), .val (.ref s1), .val (.ref s2), .val (.ref f), .val (.int (1 : Int32)), .val (.int (1 : Int32)), .val (.int (1 : Int32)), .val (.int (1 : Int32))] [(.int (1 : Int32))]))
      refine own_via (fun _ k => XS.istore X62.here hx rfl (hb hby at_227) rfl (l' := #[.val (.int i1), .val (.int i2), .val (.long j1), .second, .val (.long j2), .second, .val (.int i3), .val (.ref s1), .val (.ref s2), .val (.ref f), .val (.int (1 : Int32)), .val (.int (1 : Int32)), .val (.int (1 : Int32)), .val (.int (1 : Int32))]) rfl k) ?_
      show own_G _ _ _ _ (T62.setTop (mkF m 229 #[.val (.int i1), .val (.int i2), .val (.long j1), .second, .val (.long j2), .second, .val (.int i3), .val (.ref s1), .val (.ref s2), .val (.ref f), .val (.int (1 : Int32)), .val (.int (1 : Int32)), .val (.int (1 : Int32)), .val (.int (1 : Int32))] []))
      refine own_via (fun _ k => XS.iload X62.here hx rfl (hb hby at_229) rfl k) ?_
      show own_G _ _ _ _ (T62.setTop (mkF m 231 #[.val (.int i1), .val (.int i2), .val (.long j1), .second, .val (.long j2), .second, .val (.int i3), .val (.ref s1), .val (.ref s2), .val (.ref f), .val (.int (1 : Int32)), .val (.int (1 : Int32)), .val (.int (1 : Int32)), .val (.int (1 : Int32))] [(.int (1 : Int32))]))
      refine own_via (fun _ k => XS.ifNo X62.here hx rfl (hb hby at_231) rfl ((if0 _ _).trans (feq (by decide)).1) k) ?_
      show own_G _ _ _ _ (T62.setTop (mkF m 234 #[.val (.int i1), .val (.int i2), .val (.long j1), .second, .val (.long j2), .second, .val (.int i3), .val (.ref s1), .val (.ref s2), .val (.ref f), .val (.int (1 : Int32)), .val (.int (1 : Int32)), .val (.int (1 : Int32)), .val (.int (1 : Int32))] []))
      refine own_via (fun _ k => XS.iload X62.here hx rfl (hb hby at_234) rfl k) ?_
      show own_G _ _ _ _ (T62.setTop (mkF m 236 #[.val (.int i1), .val (.int i2), .val (.long j1), .second, .val (.long j2), .second, .val (.int i3), .val (.ref s1), .val (.ref s2), .val (.ref f), .val (.int (1 : Int32)), .val (.int (1 : Int32)), .val (.int (1 : Int32)), .val (.int (1 : Int32))] [(.int (1 : Int32))]))
      refine own_via (fun _ k => XS.ifYes X62.here hx rfl (pc0 := 236) (pc' := 243) rfl (hb hby at_236) rfl ((if0 _ _).trans (feq (by decide)).2) (by decide) (by decide) k) ?_
      show own_G _ _ _ _ (T62.setTop (mkF m 243 #[.val (.int i1), .val (.int i2), .val (.long j1), .second, .val (.long j2), .second, .val (.int i3), .val (.ref s1), .val (.ref s2), .val (.ref f), .val (.int (1 : Int32)), .val (.int (1 : Int32)), .val (.int (1 : Int32)), .val (.int (1 : Int32))] []))
      refine own_via (fun _ k => XS.iconst X62.here hx rfl (hb hby at_243) k) ?_
      show own_G _ _ _ _ (T62.setTop (mkF m 244 #[.val (.int i1), .val (.int i2), .val (.long j1), .second, .val (.long j2), .second, .val (.int i3), .val (.ref s1), .val (.ref s2), .val (.ref f), .val (.int (1 : Int32)), .val (.int (1 : Int32)), .val (.int (1 : Int32)), .val (.int (1 : Int32))] [(.int (0 : Int32))]))
      refine own_via (fun _ k => XS.istore X62.here hx rfl (hb hby at_244) rfl (l' := #[.val (.int i1), .val (.int i2), .val (.long j1), .second, .val (.long j2), .second, .val (.int i3), .val (.ref s1), .val (.ref s2), .val (.ref f), .val (.int (0 : Int32)), .val (.int (1 : Int32)), .val (.int (1 : Int32)), .val (.int (1 : Int32))]) rfl k) ?_
      show own_G _ _ _ _ (T62.setTop (mkF m 246 #[.val (.int i1), .val (.int i2), .val (.long j1), .second, .val (.long j2), .second, .val (.int i3), .val (.ref s1), .val (.ref s2), .val (.ref f), .val (.int (0 : Int32)), .val (.int (1 : Int32)), .val (.int (1 : Int32)), .val (.int (1 : Int32))] []))
      refine own_via (fun _ k => XS.iload X62.here hx rfl (hb hby at_246) rfl k) ?_
      show own_G _ _ _ _ (T62.setTop (mkF m 248 #[.val (.int i1), .val (.int i2), .val (.long j1), .second, .val (.long j2), .second, .val (.int i3), .val (.ref s1), .val (.ref s2), .val (.ref f), .val (.int (0 : Int32)), .val (.int (1 : Int32)), .val (.int (1 : Int32)), .val (.int (1 : Int32))] [(.int (1 : Int32))]))
      refine own_via (fun _ k => XS.ifNo X62.here hx rfl (hb hby at_248) rfl ((if0 _ _).trans (feq (by decide)).1) k) ?_
      show own_G _ _ _ _ (T62.setTop (mkF m 251 #[.val (.int i1), .val (.int i2), .val (.long j1), .second, .val (.long j2), .second, .val (.int i3), .val (.ref s1), .val (.ref s2), .val (.ref f), .val (.int (0 : Int32)), .val (.int (1 : Int32)), .val (.int (1 : Int32)), .val (.int (1 : Int32))] []))
      refine own_via (fun _ k => XS.aload X62.here hx rfl (hb hby at_251) rfl rfl k) ?_
      show own_G _ _ _ _ (T62.setTop (mkF m 253 #[.val (.int i1), .val (.int i2), .val (.long j1), .second, .val (.long j2), .second, .val (.int i3), .val (.ref s1), .val (.ref s2), .val (.ref f), .val (.int (0 : Int32)), .val (.int (1 : Int32)), .val (.int (1 : Int32)), .val (.int (1 : Int32))] [(.ref f)]))
      obtain ⟨cq63, kq63, q63a, q63b, q63c⟩ := isOf hZ rfl E_f
      obtain ⟨_, _, ⟨T63, L63, k63, n63⟩, -, X63, ⟨Lc63, hQ63, l63, y63, z63⟩, st63⟩ := X62.virtualBack hx (y := (⟨"com/example/rafterwire/rafterwire/radio/FaultLines", "isQuiet", "()Z"⟩ : MethodName)) (z := (⟨"com/example/rafterwire/rafterwire/radio/FaultLines", "isQuiet", "()Z"⟩ : MethodName)) hown (mvT hZ (hw _ (List.mem_of_getElem? (i := 33) rfl))) (mvT hZ (hw _ (List.mem_of_getElem? (i := 34) rfl))) (notFace_of_selects (args := #[]) (mvT hZ (hw _ (List.mem_of_getElem? (i := 36) rfl)))) (mvT hZ (hw _ (List.mem_of_getElem? (i := 36) rfl))) (mvT hZ (hw _ (List.mem_of_getElem? (i := 35) rfl))) (by decide) (backOf (W := 0) (rmq1 l Z a0 hw [] f s2 T62.heap n0 Z0 F_f_logged) hZ (hw _ (List.mem_of_getElem? (i := 37) rfl)) (hw _ (List.mem_of_getElem? (i := 28) rfl)) (by decide) (by decide)) q63a q63c (g := (mkF m 253 #[.val (.int i1), .val (.int i2), .val (.long j1), .second, .val (.long j2), .second, .val (.int i3), .val (.ref s1), .val (.ref s2), .val (.ref f), .val (.int (0 : Int32)), .val (.int (1 : Int32)), .val (.int (1 : Int32)), .val (.int (1 : Int32))] [(.ref f)])) rfl (by rw [hml]; rfl) (Steps.refl _) (argsL := []) (rest := []) (lenOf pd_10 rfl) rfl (by show 2 * 0 + _ ≤ _; exact Nat.le_of_eq rfl) (hb hby at_253) (fun _ _ => ⟨rfl, rfl, Nat.le_of_ble_eq_true rfl, Nat.le_of_ble_eq_true rfl⟩)
      dsimp only [Pt.U, Pt.locs, Pt.cells, Pt.slots] at X63 l63 y63 z63 st63 hQ63
      subst l63 y63 z63
      obtain ⟨rfl, N63q, e63⟩ := hQ63
      have N63 := Fr.app N62 N63q
      refine own_via (fun _ kt => st63.trans kt) ?_
      show own_G _ _ _ _ (T63.setTop (mkF m 256 #[.val (.int i1), .val (.int i2), .val (.long j1), .second, .val (.long j2), .second, .val (.int i3), .val (.ref s1), .val (.ref s2), .val (.ref f), .val (.int (0 : Int32)), .val (.int (1 : Int32)), .val (.int (1 : Int32)), .val (.int (1 : Int32))] [(.int (0 : Int32))]))
      refine own_via (fun _ k => XS.iload X63.here hx rfl (hb hby at_256) rfl k) ?_
      show own_G _ _ _ _ (T63.setTop (mkF m 258 #[.val (.int i1), .val (.int i2), .val (.long j1), .second, .val (.long j2), .second, .val (.int i3), .val (.ref s1), .val (.ref s2), .val (.ref f), .val (.int (0 : Int32)), .val (.int (1 : Int32)), .val (.int (1 : Int32)), .val (.int (1 : Int32))] [(.int (0 : Int32)), (.int (0 : Int32))]))
      refine own_via (fun _ k => XS.icmpNo X63.here hx rfl (hb hby at_258) rfl (teq (by decide)).2 k) ?_
      show own_G _ _ _ _ (T63.setTop (mkF m 261 #[.val (.int i1), .val (.int i2), .val (.long j1), .second, .val (.long j2), .second, .val (.int i3), .val (.ref s1), .val (.ref s2), .val (.ref f), .val (.int (0 : Int32)), .val (.int (1 : Int32)), .val (.int (1 : Int32)), .val (.int (1 : Int32))] []))
      refine own_via (fun _ k => XS.iconst X63.here hx rfl (hb hby at_261) k) ?_
      show own_G _ _ _ _ (T63.setTop (mkF m 262 #[.val (.int i1), .val (.int i2), .val (.long j1), .second, .val (.long j2), .second, .val (.int i3), .val (.ref s1), .val (.ref s2), .val (.ref f), .val (.int (0 : Int32)), .val (.int (1 : Int32)), .val (.int (1 : Int32)), .val (.int (1 : Int32))] [(.int (1 : Int32))]))
      refine own_via (fun _ k => XS.goto X63.here hx rfl (pc0 := 262) (pc' := 266) rfl (hb hby at_262) (by decide) (by decide) k) ?_
      show own_G _ _ _ _ (T63.setTop (mkF m 266 #[.val (.int i1), .val (.int i2), .val (.long j1), .second, .val (.long j2), .second, .val (.int i3), .val (.ref s1), .val (.ref s2), .val (.ref f), .val (.int (0 : Int32)), .val (.int (1 : Int32)), .val (.int (1 : Int32)), .val (.int (1 : Int32))] [(.int (1 : Int32))]))
      refine own_via (fun _ k => XS.istore X63.here hx rfl (hb hby at_266) rfl (l' := #[.val (.int i1), .val (.int i2), .val (.long j1), .second, .val (.long j2), .second, .val (.int i3), .val (.ref s1), .val (.ref s2), .val (.ref f), .val (.int (0 : Int32)), .val (.int (1 : Int32)), .val (.int (1 : Int32)), .val (.int (1 : Int32))]) rfl k) ?_
      show own_G _ _ _ _ (T63.setTop (mkF m 268 #[.val (.int i1), .val (.int i2), .val (.long j1), .second, .val (.long j2), .second, .val (.int i3), .val (.ref s1), .val (.ref s2), .val (.ref f), .val (.int (0 : Int32)), .val (.int (1 : Int32)), .val (.int (1 : Int32)), .val (.int (1 : Int32))] []))
      refine own_via (fun _ k => XS.iload X63.here hx rfl (hb hby at_268) rfl k) ?_
      show own_G _ _ _ _ (T63.setTop (mkF m 270 #[.val (.int i1), .val (.int i2), .val (.long j1), .second, .val (.long j2), .second, .val (.int i3), .val (.ref s1), .val (.ref s2), .val (.ref f), .val (.int (0 : Int32)), .val (.int (1 : Int32)), .val (.int (1 : Int32)), .val (.int (1 : Int32))] [(.int i3)]))
      refine own_via (fun _ k => XS.iconst X63.here hx rfl (hb hby at_270) k) ?_
      show own_G _ _ _ _ (T63.setTop (mkF m 271 #[.val (.int i1), .val (.int i2), .val (.long j1), .second, .val (.long j2), .second, .val (.int i3), .val (.ref s1), .val (.ref s2), .val (.ref f), .val (.int (0 : Int32)), .val (.int (1 : Int32)), .val (.int (1 : Int32)), .val (.int (1 : Int32))] [(.int (4 : Int32)), (.int i3)]))
      refine own_via (fun _ k => XS.iand X63.here hx rfl (hb hby at_271) rfl k) ?_
      show own_G _ _ _ _ (T63.setTop (mkF m 272 #[.val (.int i1), .val (.int i2), .val (.long j1), .second, .val (.long j2), .second, .val (.int i3), .val (.ref s1), .val (.ref s2), .val (.ref f), .val (.int (0 : Int32)), .val (.int (1 : Int32)), .val (.int (1 : Int32)), .val (.int (1 : Int32))] [(.int (i3 &&& (4 : Int32)))]))
      by_cases ho4 : (i3 &&& (4 : Int32)) = (0 : Int32)
      · refine own_via (fun _ k => XS.ifYes X63.here hx rfl (pc0 := 272) (pc' := 283) rfl (hb hby at_272) rfl ((if0 _ _).trans (teq ho4).1) (by decide) (by decide) k) ?_
        show own_G _ _ _ _ (T63.setTop (mkF m 283 #[.val (.int i1), .val (.int i2), .val (.long j1), .second, .val (.long j2), .second, .val (.int i3), .val (.ref s1), .val (.ref s2), .val (.ref f), .val (.int (0 : Int32)), .val (.int (1 : Int32)), .val (.int (1 : Int32)), .val (.int (1 : Int32))] []))
        refine own_via (fun _ k => XS.iload X63.here hx rfl (hb hby at_283) rfl k) ?_
        show own_G _ _ _ _ (T63.setTop (mkF m 285 #[.val (.int i1), .val (.int i2), .val (.long j1), .second, .val (.long j2), .second, .val (.int i3), .val (.ref s1), .val (.ref s2), .val (.ref f), .val (.int (0 : Int32)), .val (.int (1 : Int32)), .val (.int (1 : Int32)), .val (.int (1 : Int32))] [(.int (1 : Int32))]))
        refine own_via (fun _ k => XS.ifNo X63.here hx rfl (hb hby at_285) rfl ((if0 _ _).trans (feq (by decide)).1) k) ?_
        show own_G _ _ _ _ (T63.setTop (mkF m 288 #[.val (.int i1), .val (.int i2), .val (.long j1), .second, .val (.long j2), .second, .val (.int i3), .val (.ref s1), .val (.ref s2), .val (.ref f), .val (.int (0 : Int32)), .val (.int (1 : Int32)), .val (.int (1 : Int32)), .val (.int (1 : Int32))] []))
        refine own_via (fun _ k => XS.aload X63.here hx rfl (hb hby at_288) rfl rfl k) ?_
        show own_G _ _ _ _ (T63.setTop (mkF m 290 #[.val (.int i1), .val (.int i2), .val (.long j1), .second, .val (.long j2), .second, .val (.int i3), .val (.ref s1), .val (.ref s2), .val (.ref f), .val (.int (0 : Int32)), .val (.int (1 : Int32)), .val (.int (1 : Int32)), .val (.int (1 : Int32))] [(.ref f)]))
        obtain ⟨cq64, kq64, q64a, q64b, q64c⟩ := isOf hZ e63 E_f
        obtain ⟨_, _, ⟨T64, L64, k64, n64⟩, -, X64, ⟨Lc64, hQ64, l64, y64, z64⟩, st64⟩ := X63.virtualBack hx (y := (⟨"com/example/rafterwire/rafterwire/radio/FaultLines", "isQuiet", "()Z"⟩ : MethodName)) (z := (⟨"com/example/rafterwire/rafterwire/radio/FaultLines", "isQuiet", "()Z"⟩ : MethodName)) hown (mvT hZ (hw _ (List.mem_of_getElem? (i := 33) rfl))) (mvT hZ (hw _ (List.mem_of_getElem? (i := 34) rfl))) (notFace_of_selects (args := #[]) (mvT hZ (hw _ (List.mem_of_getElem? (i := 36) rfl)))) (mvT hZ (hw _ (List.mem_of_getElem? (i := 36) rfl))) (mvT hZ (hw _ (List.mem_of_getElem? (i := 35) rfl))) (by decide) (backOf (W := 0) (rmq1 l Z a0 hw [] f s2 T62.heap n0 Z0 F_f_logged) hZ (hw _ (List.mem_of_getElem? (i := 37) rfl)) (hw _ (List.mem_of_getElem? (i := 28) rfl)) (by decide) (by decide)) q64a q64c (g := (mkF m 290 #[.val (.int i1), .val (.int i2), .val (.long j1), .second, .val (.long j2), .second, .val (.int i3), .val (.ref s1), .val (.ref s2), .val (.ref f), .val (.int (0 : Int32)), .val (.int (1 : Int32)), .val (.int (1 : Int32)), .val (.int (1 : Int32))] [(.ref f)])) rfl (by rw [hml]; rfl) (Steps.refl _) (argsL := []) (rest := []) (lenOf pd_10 rfl) rfl (by show 2 * 0 + _ ≤ _; exact Nat.le_of_eq rfl) (hb hby at_290) (fun _ _ => ⟨rfl, e63, Nat.le_of_ble_eq_true rfl, Nat.le_of_ble_eq_true rfl⟩)
        dsimp only [Pt.U, Pt.locs, Pt.cells, Pt.slots] at X64 l64 y64 z64 st64 hQ64
        subst l64 y64 z64
        obtain ⟨rfl, N64q, e64⟩ := hQ64
        have N64 := Fr.app N63 N64q
        refine own_via (fun _ kt => st64.trans kt) ?_
        show own_G _ _ _ _ (T64.setTop (mkF m 293 #[.val (.int i1), .val (.int i2), .val (.long j1), .second, .val (.long j2), .second, .val (.int i3), .val (.ref s1), .val (.ref s2), .val (.ref f), .val (.int (0 : Int32)), .val (.int (1 : Int32)), .val (.int (1 : Int32)), .val (.int (1 : Int32))] [(.int (0 : Int32))]))
        refine own_via (fun _ k => XS.iload X64.here hx rfl (hb hby at_293) rfl k) ?_
        show own_G _ _ _ _ (T64.setTop (mkF m 295 #[.val (.int i1), .val (.int i2), .val (.long j1), .second, .val (.long j2), .second, .val (.int i3), .val (.ref s1), .val (.ref s2), .val (.ref f), .val (.int (0 : Int32)), .val (.int (1 : Int32)), .val (.int (1 : Int32)), .val (.int (1 : Int32))] [(.int (0 : Int32)), (.int (0 : Int32))]))
        refine own_via (fun _ k => XS.icmpNo X64.here hx rfl (hb hby at_295) rfl (teq (by decide)).2 k) ?_
        show own_G _ _ _ _ (T64.setTop (mkF m 298 #[.val (.int i1), .val (.int i2), .val (.long j1), .second, .val (.long j2), .second, .val (.int i3), .val (.ref s1), .val (.ref s2), .val (.ref f), .val (.int (0 : Int32)), .val (.int (1 : Int32)), .val (.int (1 : Int32)), .val (.int (1 : Int32))] []))
        refine own_via (fun _ k => XS.iconst X64.here hx rfl (hb hby at_298) k) ?_
        show own_G _ _ _ _ (T64.setTop (mkF m 299 #[.val (.int i1), .val (.int i2), .val (.long j1), .second, .val (.long j2), .second, .val (.int i3), .val (.ref s1), .val (.ref s2), .val (.ref f), .val (.int (0 : Int32)), .val (.int (1 : Int32)), .val (.int (1 : Int32)), .val (.int (1 : Int32))] [(.int (1 : Int32))]))
        refine own_via (fun _ k => XS.goto X64.here hx rfl (pc0 := 299) (pc' := 303) rfl (hb hby at_299) (by decide) (by decide) k) ?_
        show own_G _ _ _ _ (T64.setTop (mkF m 303 #[.val (.int i1), .val (.int i2), .val (.long j1), .second, .val (.long j2), .second, .val (.int i3), .val (.ref s1), .val (.ref s2), .val (.ref f), .val (.int (0 : Int32)), .val (.int (1 : Int32)), .val (.int (1 : Int32)), .val (.int (1 : Int32))] [(.int (1 : Int32))]))
        refine own_via (fun _ k => XS.istore X64.here hx rfl (hb hby at_303) rfl (l' := #[.val (.int i1), .val (.int i2), .val (.long j1), .second, .val (.long j2), .second, .val (.int i3), .val (.ref s1), .val (.ref s2), .val (.ref f), .val (.int (0 : Int32)), .val (.int (1 : Int32)), .val (.int (1 : Int32)), .val (.int (1 : Int32))]) rfl k) ?_
        show own_G _ _ _ _ (T64.setTop (mkF m 305 #[.val (.int i1), .val (.int i2), .val (.long j1), .second, .val (.long j2), .second, .val (.int i3), .val (.ref s1), .val (.ref s2), .val (.ref f), .val (.int (0 : Int32)), .val (.int (1 : Int32)), .val (.int (1 : Int32)), .val (.int (1 : Int32))] []))
        refine own_via (fun _ k => XS.iload X64.here hx rfl (hb hby at_305) rfl k) ?_
        show own_G _ _ _ _ (T64.setTop (mkF m 307 #[.val (.int i1), .val (.int i2), .val (.long j1), .second, .val (.long j2), .second, .val (.int i3), .val (.ref s1), .val (.ref s2), .val (.ref f), .val (.int (0 : Int32)), .val (.int (1 : Int32)), .val (.int (1 : Int32)), .val (.int (1 : Int32))] [(.int (1 : Int32))]))
        obtain ⟨fs, hr, hrun, hended, hW, hsame⟩ := X64.leave (v := some (.int (1 : Int32))) (fun h => by rw [Bd.returns] at h; cases h)
        exact ⟨_, _, retN X64 hx (t := .boolean) Bd.returns (by simp) (hb hby at_307) hr, hrun, hended, _, _, rfl, ⟨rfl, N64⟩, ⟨_, rfl⟩, hW, hsame.mono (by decide) (by decide)⟩
      · refine own_via (fun _ k => XS.ifNo X63.here hx rfl (hb hby at_272) rfl ((if0 _ _).trans (feq ho4).1) k) ?_
        show own_G _ _ _ _ (T63.setTop (mkF m 275 #[.val (.int i1), .val (.int i2), .val (.long j1), .second, .val (.long j2), .second, .val (.int i3), .val (.ref s1), .val (.ref s2), .val (.ref f), .val (.int (0 : Int32)), .val (.int (1 : Int32)), .val (.int (1 : Int32)), .val (.int (1 : Int32))] []))
        refine own_via (fun _ k => XS.aload X63.here hx rfl (hb hby at_275) rfl rfl k) ?_
        show own_G _ _ _ _ (T63.setTop (mkF m 277 #[.val (.int i1), .val (.int i2), .val (.long j1), .second, .val (.long j2), .second, .val (.int i3), .val (.ref s1), .val (.ref s2), .val (.ref f), .val (.int (0 : Int32)), .val (.int (1 : Int32)), .val (.int (1 : Int32)), .val (.int (1 : Int32))] [(.ref f)]))
        obtain ⟨cq65, kq65, q65a, q65b, q65c⟩ := isOf hZ e63 E_f
        obtain ⟨_, _, ⟨T65, L65, k65, n65⟩, -, X65, ⟨Lc65, hQ65, l65, y65, z65⟩, st65⟩ := X63.virtualBack hx (y := (⟨"com/example/rafterwire/rafterwire/radio/FaultLines", "reset", "()V"⟩ : MethodName)) (z := (⟨"com/example/rafterwire/rafterwire/radio/FaultLines", "reset", "()V"⟩ : MethodName)) hown (mvT hZ (hw _ (List.mem_of_getElem? (i := 47) rfl))) (mvT hZ (hw _ (List.mem_of_getElem? (i := 48) rfl))) (notFace_of_selects (args := #[]) (mvT hZ (hw _ (List.mem_of_getElem? (i := 50) rfl)))) (mvT hZ (hw _ (List.mem_of_getElem? (i := 50) rfl))) (mvT hZ (hw _ (List.mem_of_getElem? (i := 49) rfl))) (by decide) (backOf (W := 0) (rmrs l Z a0 hw [] f (.ref s2) j2 T62.heap n0 Z0 E_f F_f_logged F_f_loggedAt g_f) hZ (hw _ (List.mem_of_getElem? (i := 51) rfl)) (hw _ (List.mem_of_getElem? (i := 28) rfl)) (by decide) (by decide)) q65a q65c (g := (mkF m 277 #[.val (.int i1), .val (.int i2), .val (.long j1), .second, .val (.long j2), .second, .val (.int i3), .val (.ref s1), .val (.ref s2), .val (.ref f), .val (.int (0 : Int32)), .val (.int (1 : Int32)), .val (.int (1 : Int32)), .val (.int (1 : Int32))] [(.ref f)])) rfl (by rw [hml]; rfl) (Steps.refl _) (argsL := []) (rest := []) (lenOf pd_9 rfl) rfl (by show 2 * 0 + _ ≤ _; exact Nat.le_of_eq rfl) (hb hby at_277) (fun _ _ => ⟨rfl, e63, Nat.le_of_ble_eq_true rfl, Nat.le_of_ble_eq_true rfl⟩)
        dsimp only [Pt.U, Pt.locs, Pt.cells, Pt.slots] at X65 l65 y65 z65 st65 hQ65
        subst l65 y65 z65
        obtain ⟨rfl, N65q, K65, -, F_f_logged, F_f_loggedAt⟩ := hQ65
        have N65 := Fr.app N63 N65q
        have S_c := own_sta1 S_c E_f K65
        have S_i := own_sta1 S_i E_f K65
        have E_du := E_du.keep K65
        have F_du_seconds := F_du_seconds.keep K65 (by simp [ne_du_f])
        have F_du_nanos := F_du_nanos.keep K65 (by simp [ne_du_f])
        have E_s1 := E_s1.keep K65
        have F_s1_value := F_s1_value.keep K65 (by simp [ne_s1_f])
        have F_s1_coder := F_s1_coder.keep K65 (by simp [ne_s1_f])
        have V_t1 := V_t1.keep K65 (by simp [ne_t1_f])
        have E_s2 := E_s2.keep K65
        have F_s2_value := F_s2_value.keep K65 (by simp [ne_s2_f])
        have F_s2_coder := F_s2_coder.keep K65 (by simp [ne_s2_f])
        have V_t2 := V_t2.keep K65 (by simp [ne_t2_f])
        have E_f := E_f.keep K65
        have Z0 := Nat.le_trans Z0 K65.1
        refine own_via (fun _ kt => st65.trans kt) ?_
        show own_G _ _ _ _ (T65.setTop (mkF m 280 #[.val (.int i1), .val (.int i2), .val (.long j1), .second, .val (.long j2), .second, .val (.int i3), .val (.ref s1), .val (.ref s2), .val (.ref f), .val (.int (0 : Int32)), .val (.int (1 : Int32)), .val (.int (1 : Int32)), .val (.int (1 : Int32))] []))
        refine own_via (fun _ k => XS.iconst X65.here hx rfl (hb hby at_280) k) ?_
        show own_G _ _ _ _ (T65.setTop (mkF m 281 #[.val (.int i1), .val (.int i2), .val (.long j1), .second, .val (.long j2), .second, .val (.int i3), .val (.ref s1), .val (.ref s2), .val (.ref f), .val (.int (0 : Int32)), .val (.int (1 : Int32)), .val (.int (1 : Int32)), .val (.int (1 : Int32))] [(.int (1 : Int32))]))
        refine own_via (fun _ k => XS.istore X65.here hx rfl (hb hby at_281) rfl (l' := #[.val (.int i1), .val (.int i2), .val (.long j1), .second, .val (.long j2), .second, .val (.int i3), .val (.ref s1), .val (.ref s2), .val (.ref f), .val (.int (1 : Int32)), .val (.int (1 : Int32)), .val (.int (1 : Int32)), .val (.int (1 : Int32))]) rfl k) ?_
        show own_G _ _ _ _ (T65.setTop (mkF m 283 #[.val (.int i1), .val (.int i2), .val (.long j1), .second, .val (.long j2), .second, .val (.int i3), .val (.ref s1), .val (.ref s2), .val (.ref f), .val (.int (1 : Int32)), .val (.int (1 : Int32)), .val (.int (1 : Int32)), .val (.int (1 : Int32))] []))
        refine own_via (fun _ k => XS.iload X65.here hx rfl (hb hby at_283) rfl k) ?_
        show own_G _ _ _ _ (T65.setTop (mkF m 285 #[.val (.int i1), .val (.int i2), .val (.long j1), .second, .val (.long j2), .second, .val (.int i3), .val (.ref s1), .val (.ref s2), .val (.ref f), .val (.int (1 : Int32)), .val (.int (1 : Int32)), .val (.int (1 : Int32)), .val (.int (1 : Int32))] [(.int (1 : Int32))]))
        refine own_via (fun _ k => XS.ifNo X65.here hx rfl (hb hby at_285) rfl ((if0 _ _).trans (feq (by decide)).1) k) ?_
        show own_G _ _ _ _ (T65.setTop (mkF m 288 #[.val (.int i1), .val (.int i2), .val (.long j1), .second, .val (.long j2), .second, .val (.int i3), .val (.ref s1), .val (.ref s2), .val (.ref f), .val (.int (1 : Int32)), .val (.int (1 : Int32)), .val (.int (1 : Int32)), .val (.int (1 : Int32))] []))
        refine own_via (fun _ k => XS.aload X65.here hx rfl (hb hby at_288) rfl rfl k) ?_
        show own_G _ _ _ _ (T65.setTop (mkF m 290 #[.val (.int i1), .val (.int i2), .val (.long j1), .second, .val (.long j2), .second, .val (.int i3), .val (.ref s1), .val (.ref s2), .val (.ref f), .val (.int (1 : Int32)), .val (.int (1 : Int32)), .val (.int (1 : Int32)), .val (.int (1 : Int32))] [(.ref f)]))
        obtain ⟨cq66, kq66, q66a, q66b, q66c⟩ := isOf hZ rfl E_f
        obtain ⟨_, _, ⟨T66, L66, k66, n66⟩, -, X66, ⟨Lc66, hQ66, l66, y66, z66⟩, st66⟩ := X65.virtualBack hx (y := (⟨"com/example/rafterwire/rafterwire/radio/FaultLines", "isQuiet", "()Z"⟩ : MethodName)) (z := (⟨"com/example/rafterwire/rafterwire/radio/FaultLines", "isQuiet", "()Z"⟩ : MethodName)) hown (mvT hZ (hw _ (List.mem_of_getElem? (i := 33) rfl))) (mvT hZ (hw _ (List.mem_of_getElem? (i := 34) rfl))) (notFace_of_selects (args := #[]) (mvT hZ (hw _ (List.mem_of_getElem? (i := 36) rfl)))) (mvT hZ (hw _ (List.mem_of_getElem? (i := 36) rfl))) (mvT hZ (hw _ (List.mem_of_getElem? (i := 35) rfl))) (by decide) (backOf (W := 0) (rmq0 l Z a0 hw [] f T65.heap n0 Z0 F_f_logged) hZ (hw _ (List.mem_of_getElem? (i := 37) rfl)) (hw _ (List.mem_of_getElem? (i := 28) rfl)) (by decide) (by decide)) q66a q66c (g := (mkF m 290 #[.val (.int i1), .val (.int i2), .val (.long j1), .second, .val (.long j2), .second, .val (.int i3), .val (.ref s1), .val (.ref s2), .val (.ref f), .val (.int (1 : Int32)), .val (.int (1 : Int32)), .val (.int (1 : Int32)), .val (.int (1 : Int32))] [(.ref f)])) rfl (by rw [hml]; rfl) (Steps.refl _) (argsL := []) (rest := []) (lenOf pd_10 rfl) rfl (by show 2 * 0 + _ ≤ _; exact Nat.le_of_eq rfl) (hb hby at_290) (fun _ _ => ⟨rfl, rfl, Nat.le_of_ble_eq_true rfl, Nat.le_of_ble_eq_true rfl⟩)
        dsimp only [Pt.U, Pt.locs, Pt.cells, Pt.slots] at X66 l66 y66 z66 st66 hQ66
        subst l66 y66 z66
        obtain ⟨rfl, N66q, e66⟩ := hQ66
        have N66 := Fr.app N65 N66q
        refine own_via (fun _ kt => st66.trans kt) ?_
        show own_G _ _ _ _ (T66.setTop (mkF m 293 #[.val (.int i1), .val (.int i2), .val (.long j1), .second, .val (.long j2), .second, .val (.int i3), .val (.ref s1), .val (.ref s2), .val (.ref f), .val (.int (1 : Int32)), .val (.int (1 : Int32)), .val (.int (1 : Int32)), .val (.int (1 : Int32))] [(.int (1 : Int32))]))
        refine own_via (fun _ k => XS.iload X66.here hx rfl (hb hby at_293) rfl k) ?_
        show own_G _ _ _ _ (T66.setTop (mkF m 295 #[.val (.int i1), .val (.int i2), .val (.long j1), .second, .val (.long j2), .second, .val (.int i3), .val (.ref s1), .val (.ref s2), .val (.ref f), .val (.int (1 : Int32)), .val (.int (1 : Int32)), .val (.int (1 : Int32)), .val (.int (1 : Int32))] [(.int (1 : Int32)), (.int (1 : Int32))]))
        refine own_via (fun _ k => XS.icmpNo X66.here hx rfl (hb hby at_295) rfl (teq (by decide)).2 k) ?_
        show own_G _ _ _ _ (T66.setTop (mkF m 298 #[.val (.int i1), .val (.int i2), .val (.long j1), .second, .val (.long j2), .second, .val (.int i3), .val (.ref s1), .val (.ref s2), .val (.ref f), .val (.int (1 : Int32)), .val (.int (1 : Int32)), .val (.int (1 : Int32)), .val (.int (1 : Int32))] []))
        refine own_via (fun _ k => XS.iconst X66.here hx rfl (hb hby at_298) k) ?_
        show own_G _ _ _ _ (T66.setTop (mkF m 299 #[.val (.int i1), .val (.int i2), .val (.long j1), .second, .val (.long j2), .second, .val (.int i3), .val (.ref s1), .val (.ref s2), .val (.ref f), .val (.int (1 : Int32)), .val (.int (1 : Int32)), .val (.int (1 : Int32)), .val (.int (1 : Int32))] [(.int (1 : Int32))]))
        refine own_via (fun _ k => XS.goto X66.here hx rfl (pc0 := 299) (pc' := 303) rfl (hb hby at_299) (by decide) (by decide) k) ?_
        show own_G _ _ _ _ (T66.setTop (mkF m 303 #[.val (.int i1), .val (.int i2), .val (.long j1), .second, .val (.long j2), .second, .val (.int i3), .val (.ref s1), .val (.ref s2), .val (.ref f), .val (.int (1 : Int32)), .val (.int (1 : Int32)), .val (.int (1 : Int32)), .val (.int (1 : Int32))] [(.int (1 : Int32))]))
        refine own_via (fun _ k => XS.istore X66.here hx rfl (hb hby at_303) rfl (l' := #[.val (.int i1), .val (.int i2), .val (.long j1), .second, .val (.long j2), .second, .val (.int i3), .val (.ref s1), .val (.ref s2), .val (.ref f), .val (.int (1 : Int32)), .val (.int (1 : Int32)), .val (.int (1 : Int32)), .val (.int (1 : Int32))]) rfl k) ?_
        show own_G _ _ _ _ (T66.setTop (mkF m 305 #[.val (.int i1), .val (.int i2), .val (.long j1), .second, .val (.long j2), .second, .val (.int i3), .val (.ref s1), .val (.ref s2), .val (.ref f), .val (.int (1 : Int32)), .val (.int (1 : Int32)), .val (.int (1 : Int32)), .val (.int (1 : Int32))] []))
        refine own_via (fun _ k => XS.iload X66.here hx rfl (hb hby at_305) rfl k) ?_
        show own_G _ _ _ _ (T66.setTop (mkF m 307 #[.val (.int i1), .val (.int i2), .val (.long j1), .second, .val (.long j2), .second, .val (.int i3), .val (.ref s1), .val (.ref s2), .val (.ref f), .val (.int (1 : Int32)), .val (.int (1 : Int32)), .val (.int (1 : Int32)), .val (.int (1 : Int32))] [(.int (1 : Int32))]))
        obtain ⟨fs, hr, hrun, hended, hW, hsame⟩ := X66.leave (v := some (.int (1 : Int32))) (fun h => by rw [Bd.returns] at h; cases h)
        exact ⟨_, _, retN X66 hx (t := .boolean) Bd.returns (by simp) (hb hby at_307) hr, hrun, hended, _, _, rfl, ⟨rfl, N66⟩, ⟨_, rfl⟩, hW, hsame.mono (by decide) (by decide)⟩
  · refine own_via (fun _ k => XS.ifNo X50.here hx rfl (hb hby at_55) rfl ((if0 _ _).trans (feq ho1).1) k) ?_
    show own_G _ _ _ _ (T50.setTop (mkF m 58 #[.val (.int i1), .val (.int i2), .val (.long j1), .second, .val (.long j2), .second, .val (.int i3), .val (.ref s1), .val (.ref s2), .val (.ref f), .val (.int (1 : Int32)), .val (.int (1 : Int32)), .unset, .unset] []))
    refine own_via (fun _ k => XS.aload X50.here hx rfl (hb hby at_58) rfl rfl k) ?_
    show own_G _ _ _ _ (T50.setTop (mkF m 60 #[.val (.int i1), .val (.int i2), .val (.long j1), .second, .val (.long j2), .second, .val (.int i3), .val (.ref s1), .val (.ref s2), .val (.ref f), .val (.int (1 : Int32)), .val (.int (1 : Int32)), .unset, .unset] [(.ref f)]))
    obtain ⟨cq67, kq67, q67a, q67b, q67c⟩ := isOf hZ e50 E_f
    obtain ⟨_, _, ⟨T67, L67, k67, n67⟩, -, X67, ⟨Lc67, hQ67, l67, y67, z67⟩, st67⟩ := X50.virtualBack hx (y := (⟨"com/example/rafterwire/rafterwire/radio/FaultLines", "reset", "()V"⟩ : MethodName)) (z := (⟨"com/example/rafterwire/rafterwire/radio/FaultLines", "reset", "()V"⟩ : MethodName)) hown (mvT hZ (hw _ (List.mem_of_getElem? (i := 47) rfl))) (mvT hZ (hw _ (List.mem_of_getElem? (i := 48) rfl))) (notFace_of_selects (args := #[]) (mvT hZ (hw _ (List.mem_of_getElem? (i := 50) rfl)))) (mvT hZ (hw _ (List.mem_of_getElem? (i := 50) rfl))) (mvT hZ (hw _ (List.mem_of_getElem? (i := 49) rfl))) (by decide) (backOf (W := 0) (rmrs l Z a0 hw [] f .null (0 : Int64) h48 n0 Z0 E_f F_f_logged F_f_loggedAt g_f) hZ (hw _ (List.mem_of_getElem? (i := 51) rfl)) (hw _ (List.mem_of_getElem? (i := 28) rfl)) (by decide) (by decide)) q67a q67c (g := (mkF m 60 #[.val (.int i1), .val (.int i2), .val (.long j1), .second, .val (.long j2), .second, .val (.int i3), .val (.ref s1), .val (.ref s2), .val (.ref f), .val (.int (1 : Int32)), .val (.int (1 : Int32)), .unset, .unset] [(.ref f)])) rfl (by rw [hml]; rfl) (Steps.refl _) (argsL := []) (rest := []) (lenOf pd_9 rfl) rfl (by show 2 * 0 + _ ≤ _; exact Nat.le_of_eq rfl) (hb hby at_60) (fun _ _ => ⟨rfl, e50, Nat.le_of_ble_eq_true rfl, Nat.le_of_ble_eq_true rfl⟩)
    dsimp only [Pt.U, Pt.locs, Pt.cells, Pt.slots] at X67 l67 y67 z67 st67 hQ67
    subst l67 y67 z67
    obtain ⟨rfl, N67q, K67, -, F_f_logged, F_f_loggedAt⟩ := hQ67
    have N67 := Fr.app N50 N67q
    have S_c := own_sta1 S_c E_f K67
    have S_i := own_sta1 S_i E_f K67
    have E_du := E_du.keep K67
    have F_du_seconds := F_du_seconds.keep K67 (by simp [ne_du_f])
    have F_du_nanos := F_du_nanos.keep K67 (by simp [ne_du_f])
    have E_s1 := E_s1.keep K67
    have F_s1_value := F_s1_value.keep K67 (by simp [ne_s1_f])
    have F_s1_coder := F_s1_coder.keep K67 (by simp [ne_s1_f])
    have V_t1 := V_t1.keep K67 (by simp [ne_t1_f])
    have E_s2 := E_s2.keep K67
    have F_s2_value := F_s2_value.keep K67 (by simp [ne_s2_f])
    have F_s2_coder := F_s2_coder.keep K67 (by simp [ne_s2_f])
    have V_t2 := V_t2.keep K67 (by simp [ne_t2_f])
    have E_f := E_f.keep K67
    have Z0 := Nat.le_trans Z0 K67.1
    refine own_via (fun _ kt => st67.trans kt) ?_
    show own_G _ _ _ _ (T67.setTop (mkF m 63 #[.val (.int i1), .val (.int i2), .val (.long j1), .second, .val (.long j2), .second, .val (.int i3), .val (.ref s1), .val (.ref s2), .val (.ref f), .val (.int (1 : Int32)), .val (.int (1 : Int32)), .unset, .unset] []))
    refine own_via (fun _ k => XS.iconst X67.here hx rfl (hb hby at_63) k) ?_
    show own_G _ _ _ _ (T67.setTop (mkF m 64 #[.val (.int i1), .val (.int i2), .val (.long j1), .second, .val (.long j2), .second, .val (.int i3), .val (.ref s1), .val (.ref s2), .val (.ref f), .val (.int (1 : Int32)), .val (.int (1 : Int32)), .unset, .unset] [(.int (1 : Int32))]))
    refine own_via (fun _ k => XS.istore X67.here hx rfl (hb hby at_64) rfl (l' := #[.val (.int i1), .val (.int i2), .val (.long j1), .second, .val (.long j2), .second, .val (.int i3), .val (.ref s1), .val (.ref s2), .val (.ref f), .val (.int (1 : Int32)), .val (.int (1 : Int32)), .unset, .unset]) rfl k) ?_
    show own_G _ _ _ _ (T67.setTop (mkF m 66 #[.val (.int i1), .val (.int i2), .val (.long j1), .second, .val (.long j2), .second, .val (.int i3), .val (.ref s1), .val (.ref s2), .val (.ref f), .val (.int (1 : Int32)), .val (.int (1 : Int32)), .unset, .unset] []))
    refine own_via (fun _ k => XS.iload X67.here hx rfl (hb hby at_66) rfl k) ?_
    show own_G _ _ _ _ (T67.setTop (mkF m 68 #[.val (.int i1), .val (.int i2), .val (.long j1), .second, .val (.long j2), .second, .val (.int i3), .val (.ref s1), .val (.ref s2), .val (.ref f), .val (.int (1 : Int32)), .val (.int (1 : Int32)), .unset, .unset] [(.int (1 : Int32))]))
    refine own_via (fun _ k => XS.ifNo X67.here hx rfl (hb hby at_68) rfl ((if0 _ _).trans (feq (by decide)).1) k) ?_
    show own_G _ _ _ _ (T67.setTop (mkF m 71 #[.val (.int i1), .val (.int i2), .val (.long j1), .second, .val (.long j2), .second, .val (.int i3), .val (.ref s1), .val (.ref s2), .val (.ref f), .val (.int (1 : Int32)), .val (.int (1 : Int32)), .unset, .unset] []))
    refine own_via (fun _ k => XS.aload X67.here hx rfl (hb hby at_71) rfl rfl k) ?_
    show own_G _ _ _ _ (T67.setTop (mkF m 73 #[.val (.int i1), .val (.int i2), .val (.long j1), .second, .val (.long j2), .second, .val (.int i3), .val (.ref s1), .val (.ref s2), .val (.ref f), .val (.int (1 : Int32)), .val (.int (1 : Int32)), .unset, .unset] [(.ref f)]))
    obtain ⟨cq68, kq68, q68a, q68b, q68c⟩ := isOf hZ rfl E_f
    obtain ⟨_, _, ⟨T68, L68, k68, n68⟩, -, X68, ⟨Lc68, hQ68, l68, y68, z68⟩, st68⟩ := X67.virtualBack hx (y := (⟨"com/example/rafterwire/rafterwire/radio/FaultLines", "isQuiet", "()Z"⟩ : MethodName)) (z := (⟨"com/example/rafterwire/rafterwire/radio/FaultLines", "isQuiet", "()Z"⟩ : MethodName)) hown (mvT hZ (hw _ (List.mem_of_getElem? (i := 33) rfl))) (mvT hZ (hw _ (List.mem_of_getElem? (i := 34) rfl))) (notFace_of_selects (args := #[]) (mvT hZ (hw _ (List.mem_of_getElem? (i := 36) rfl)))) (mvT hZ (hw _ (List.mem_of_getElem? (i := 36) rfl))) (mvT hZ (hw _ (List.mem_of_getElem? (i := 35) rfl))) (by decide) (backOf (W := 0) (rmq0 l Z a0 hw [] f T67.heap n0 Z0 F_f_logged) hZ (hw _ (List.mem_of_getElem? (i := 37) rfl)) (hw _ (List.mem_of_getElem? (i := 28) rfl)) (by decide) (by decide)) q68a q68c (g := (mkF m 73 #[.val (.int i1), .val (.int i2), .val (.long j1), .second, .val (.long j2), .second, .val (.int i3), .val (.ref s1), .val (.ref s2), .val (.ref f), .val (.int (1 : Int32)), .val (.int (1 : Int32)), .unset, .unset] [(.ref f)])) rfl (by rw [hml]; rfl) (Steps.refl _) (argsL := []) (rest := []) (lenOf pd_10 rfl) rfl (by show 2 * 0 + _ ≤ _; exact Nat.le_of_eq rfl) (hb hby at_73) (fun _ _ => ⟨rfl, rfl, Nat.le_of_ble_eq_true rfl, Nat.le_of_ble_eq_true rfl⟩)
    dsimp only [Pt.U, Pt.locs, Pt.cells, Pt.slots] at X68 l68 y68 z68 st68 hQ68
    subst l68 y68 z68
    obtain ⟨rfl, N68q, e68⟩ := hQ68
    have N68 := Fr.app N67 N68q
    refine own_via (fun _ kt => st68.trans kt) ?_
    show own_G _ _ _ _ (T68.setTop (mkF m 76 #[.val (.int i1), .val (.int i2), .val (.long j1), .second, .val (.long j2), .second, .val (.int i3), .val (.ref s1), .val (.ref s2), .val (.ref f), .val (.int (1 : Int32)), .val (.int (1 : Int32)), .unset, .unset] [(.int (1 : Int32))]))
    refine own_via (fun _ k => XS.iload X68.here hx rfl (hb hby at_76) rfl k) ?_
    show own_G _ _ _ _ (T68.setTop (mkF m 78 #[.val (.int i1), .val (.int i2), .val (.long j1), .second, .val (.long j2), .second, .val (.int i3), .val (.ref s1), .val (.ref s2), .val (.ref f), .val (.int (1 : Int32)), .val (.int (1 : Int32)), .unset, .unset] [(.int (1 : Int32)), (.int (1 : Int32))]))
    refine own_via (fun _ k => XS.icmpNo X68.here hx rfl (hb hby at_78) rfl (teq (by decide)).2 k) ?_
    show own_G _ _ _ _ (T68.setTop (mkF m 81 #[.val (.int i1), .val (.int i2), .val (.long j1), .second, .val (.long j2), .second, .val (.int i3), .val (.ref s1), .val (.ref s2), .val (.ref f), .val (.int (1 : Int32)), .val (.int (1 : Int32)), .unset, .unset] []))
    refine own_via (fun _ k => XS.iconst X68.here hx rfl (hb hby at_81) k) ?_
    show own_G _ _ _ _ (T68.setTop (mkF m 82 #[.val (.int i1), .val (.int i2), .val (.long j1), .second, .val (.long j2), .second, .val (.int i3), .val (.ref s1), .val (.ref s2), .val (.ref f), .val (.int (1 : Int32)), .val (.int (1 : Int32)), .unset, .unset] [(.int (1 : Int32))]))
    refine own_via (fun _ k => XS.goto X68.here hx rfl (pc0 := 82) (pc' := 86) rfl (hb hby at_82) (by decide) (by decide) k) ?_
    show own_G _ _ _ _ (T68.setTop (mkF m 86 #[.val (.int i1), .val (.int i2), .val (.long j1), .second, .val (.long j2), .second, .val (.int i3), .val (.ref s1), .val (.ref s2), .val (.ref f), .val (.int (1 : Int32)), .val (.int (1 : Int32)), .unset, .unset] [(.int (1 : Int32))]))
    refine own_via (fun _ k => XS.istore X68.here hx rfl (hb hby at_86) rfl (l' := #[.val (.int i1), .val (.int i2), .val (.long j1), .second, .val (.long j2), .second, .val (.int i3), .val (.ref s1), .val (.ref s2), .val (.ref f), .val (.int (1 : Int32)), .val (.int (1 : Int32)), .unset, .unset]) rfl k) ?_
    show own_G _ _ _ _ (T68.setTop (mkF m 88 #[.val (.int i1), .val (.int i2), .val (.long j1), .second, .val (.long j2), .second, .val (.int i3), .val (.ref s1), .val (.ref s2), .val (.ref f), .val (.int (1 : Int32)), .val (.int (1 : Int32)), .unset, .unset] []))
    refine own_via (fun _ k => XS.aload X68.here hx rfl (hb hby at_88) rfl rfl k) ?_
    show own_G _ _ _ _ (T68.setTop (mkF m 90 #[.val (.int i1), .val (.int i2), .val (.long j1), .second, .val (.long j2), .second, .val (.int i3), .val (.ref s1), .val (.ref s2), .val (.ref f), .val (.int (1 : Int32)), .val (.int (1 : Int32)), .unset, .unset] [(.ref f)]))
    refine own_via (fun _ k => XS.aload X68.here hx rfl (hb hby at_90) rfl rfl k) ?_
    show own_G _ _ _ _ (T68.setTop (mkF m 92 #[.val (.int i1), .val (.int i2), .val (.long j1), .second, .val (.long j2), .second, .val (.int i3), .val (.ref s1), .val (.ref s2), .val (.ref f), .val (.int (1 : Int32)), .val (.int (1 : Int32)), .unset, .unset] [(.ref s1), (.ref f)]))
    refine own_via (fun _ k => XS.lloadN X68.here hx rfl (hb hby at_92) rfl k) ?_
    show own_G _ _ _ _ (T68.setTop (mkF m 93 #[.val (.int i1), .val (.int i2), .val (.long j1), .second, .val (.long j2), .second, .val (.int i3), .val (.ref s1), .val (.ref s2), .val (.ref f), .val (.int (1 : Int32)), .val (.int (1 : Int32)), .unset, .unset] [(.long j1), (.ref s1), (.ref f)]))
    obtain ⟨cq69, kq69, q69a, q69b, q69c⟩ := isOf hZ e68 E_f
    obtain ⟨_, _, ⟨T69, L69, k69, n69⟩, -, X69, ⟨Lc69, hQ69, l69, y69, z69⟩, st69⟩ := X68.virtualBack hx (y := (⟨"com/example/rafterwire/rafterwire/radio/FaultLines", "take", "(Ljava/lang/String;J)Z"⟩ : MethodName)) (z := (⟨"com/example/rafterwire/rafterwire/radio/FaultLines", "take", "(Ljava/lang/String;J)Z"⟩ : MethodName)) hown (mvT hZ (hw _ (List.mem_of_getElem? (i := 40) rfl))) (mvT hZ (hw _ (List.mem_of_getElem? (i := 41) rfl))) (notFace_of_selects (args := #[]) (mvT hZ (hw _ (List.mem_of_getElem? (i := 43) rfl)))) (mvT hZ (hw _ (List.mem_of_getElem? (i := 43) rfl))) (mvT hZ (hw _ (List.mem_of_getElem? (i := 42) rfl))) (by decide) (backOf (W := 0) (rmt0 l Z a0 hw [] f s1 j1 (0 : Int64) T67.heap n0 Z0 E_f F_f_logged F_f_loggedAt g_f) hZ (hw _ (List.mem_of_getElem? (i := 44) rfl)) (hw _ (List.mem_of_getElem? (i := 28) rfl)) (by decide) (by decide)) q69a q69c (g := (mkF m 93 #[.val (.int i1), .val (.int i2), .val (.long j1), .second, .val (.long j2), .second, .val (.int i3), .val (.ref s1), .val (.ref s2), .val (.ref f), .val (.int (1 : Int32)), .val (.int (1 : Int32)), .unset, .unset] [(.long j1), (.ref s1), (.ref f)])) rfl (by rw [hml]; rfl) (Steps.refl _) (argsL := [(.ref s1), (.long j1)]) (rest := []) (lenOf pd_11 rfl) rfl (by show 2 * 0 + _ ≤ _; exact Nat.le_of_eq rfl) (hb hby at_93) (fun _ _ => ⟨rfl, e68, Nat.le_of_ble_eq_true rfl, Nat.le_of_ble_eq_true rfl⟩)
    dsimp only [Pt.U, Pt.locs, Pt.cells, Pt.slots] at X69 l69 y69 z69 st69 hQ69
    subst l69 y69 z69
    obtain ⟨rfl, N69q, K69, -, F_f_logged, F_f_loggedAt⟩ := hQ69
    have N69 := Fr.app N68 N69q
    have S_c := own_sta1 S_c E_f K69
    have S_i := own_sta1 S_i E_f K69
    have E_du := E_du.keep K69
    have F_du_seconds := F_du_seconds.keep K69 (by simp [ne_du_f])
    have F_du_nanos := F_du_nanos.keep K69 (by simp [ne_du_f])
    have E_s1 := E_s1.keep K69
    have F_s1_value := F_s1_value.keep K69 (by simp [ne_s1_f])
    have F_s1_coder := F_s1_coder.keep K69 (by simp [ne_s1_f])
    have V_t1 := V_t1.keep K69 (by simp [ne_t1_f])
    have E_s2 := E_s2.keep K69
    have F_s2_value := F_s2_value.keep K69 (by simp [ne_s2_f])
    have F_s2_coder := F_s2_coder.keep K69 (by simp [ne_s2_f])
    have V_t2 := V_t2.keep K69 (by simp [ne_t2_f])
    have E_f := E_f.keep K69
    have Z0 := Nat.le_trans Z0 K69.1
    refine own_via (fun _ kt => st69.trans kt) ?_
    show own_G _ _ _ _ (T69.setTop (mkF m 96 #[.val (.int i1), .val (.int i2), .val (.long j1), .second, .val (.long j2), .second, .val (.int i3), .val (.ref s1), .val (.ref s2), .val (.ref f), .val (.int (1 : Int32)), .val (.int (1 : Int32)), .unset, .unset] [(.int (1 : Int32))]))
    refine own_via (fun _ k => XS.istore X69.here hx rfl (hb hby at_96) rfl (l' := #[.val (.int i1), .val (.int i2), .val (.long j1), .second, .val (.long j2), .second, .val (.int i3), .val (.ref s1), .val (.ref s2), .val (.ref f), .val (.int (1 : Int32)), .val (.int (1 : Int32)), .val (.int (1 : Int32)), .unset]) rfl k) ?_
    show own_G _ _ _ _ (T69.setTop (mkF m 98 #[.val (.int i1), .val (.int i2), .val (.long j1), .second, .val (.long j2), .second, .val (.int i3), .val (.ref s1), .val (.ref s2), .val (.ref f), .val (.int (1 : Int32)), .val (.int (1 : Int32)), .val (.int (1 : Int32)), .unset] []))
    refine own_via (fun _ k => XS.iload X69.here hx rfl (hb hby at_98) rfl k) ?_
    show own_G _ _ _ _ (T69.setTop (mkF m 100 #[.val (.int i1), .val (.int i2), .val (.long j1), .second, .val (.long j2), .second, .val (.int i3), .val (.ref s1), .val (.ref s2), .val (.ref f), .val (.int (1 : Int32)), .val (.int (1 : Int32)), .val (.int (1 : Int32)), .unset] [(.int (1 : Int32))]))
    refine own_via (fun _ k => XS.ifNo X69.here hx rfl (hb hby at_100) rfl ((if0 _ _).trans (feq (by decide)).1) k) ?_
    show own_G _ _ _ _ (T69.setTop (mkF m 103 #[.val (.int i1), .val (.int i2), .val (.long j1), .second, .val (.long j2), .second, .val (.int i3), .val (.ref s1), .val (.ref s2), .val (.ref f), .val (.int (1 : Int32)), .val (.int (1 : Int32)), .val (.int (1 : Int32)), .unset] []))
    refine own_via (fun _ k => XS.iload X69.here hx rfl (hb hby at_103) rfl k) ?_
    show own_G _ _ _ _ (T69.setTop (mkF m 105 #[.val (.int i1), .val (.int i2), .val (.long j1), .second, .val (.long j2), .second, .val (.int i3), .val (.ref s1), .val (.ref s2), .val (.ref f), .val (.int (1 : Int32)), .val (.int (1 : Int32)), .val (.int (1 : Int32)), .unset] [(.int (1 : Int32))]))
    refine own_via (fun _ k => XS.ifNo X69.here hx rfl (hb hby at_105) rfl ((if0 _ _).trans (feq (by decide)).1) k) ?_
    show own_G _ _ _ _ (T69.setTop (mkF m 108 #[.val (.int i1), .val (.int i2), .val (.long j1), .second, .val (.long j2), .second, .val (.int i3), .val (.ref s1), .val (.ref s2), .val (.ref f), .val (.int (1 : Int32)), .val (.int (1 : Int32)), .val (.int (1 : Int32)), .unset] []))
    refine own_via (fun _ k => XS.iload X69.here hx rfl (hb hby at_108) rfl k) ?_
    show own_G _ _ _ _ (T69.setTop (mkF m 110 #[.val (.int i1), .val (.int i2), .val (.long j1), .second, .val (.long j2), .second, .val (.int i3), .val (.ref s1), .val (.ref s2), .val (.ref f), .val (.int (1 : Int32)), .val (.int (1 : Int32)), .val (.int (1 : Int32)), .unset] [(.int (1 : Int32))]))
    refine own_via (fun _ k => XS.ifNo X69.here hx rfl (hb hby at_110) rfl ((if0 _ _).trans (feq (by decide)).1) k) ?_
    show own_G _ _ _ _ (T69.setTop (mkF m 113 #[.val (.int i1), .val (.int i2), .val (.long j1), .second, .val (.long j2), .second, .val (.int i3), .val (.ref s1), .val (.ref s2), .val (.ref f), .val (.int (1 : Int32)), .val (.int (1 : Int32)), .val (.int (1 : Int32)), .unset] []))
    refine own_via (fun _ k => XS.iconst X69.here hx rfl (hb hby at_113) k) ?_
    show own_G _ _ _ _ (T69.setTop (mkF m 114 #[.val (.int i1), .val (.int i2), .val (.long j1), .second, .val (.long j2), .second, .val (.int i3), .val (.ref s1), .val (.ref s2), .val (.ref f), .val (.int (1 : Int32)), .val (.int (1 : Int32)), .val (.int (1 : Int32)), .unset] [(.int (1 : Int32))]))
    refine own_via (fun _ k => XS.goto X69.here hx rfl (pc0 := 114) (pc' := 118) rfl (hb hby at_114) (by decide) (by decide) k) ?_
    show own_G _ _ _ _ (T69.setTop (mkF m 118 #[.val (.int i1), .val (.int i2), .val (.long j1), .second, .val (.long j2), .second, .val (.int i3), .val (.ref s1), .val (.ref s2), .val (.ref f), .val (.int (1 : Int32)), .val (.int (1 : Int32)), .val (.int (1 : Int32)), .unset] [(.int (1 : Int32))]))
    refine own_via (fun _ k => XS.istore X69.here hx rfl (hb hby at_118) rfl (l' := #[.val (.int i1), .val (.int i2), .val (.long j1), .second, .val (.long j2), .second, .val (.int i3), .val (.ref s1), .val (.ref s2), .val (.ref f), .val (.int (1 : Int32)), .val (.int (1 : Int32)), .val (.int (1 : Int32)), .unset]) rfl k) ?_
    show own_G _ _ _ _ (T69.setTop (mkF m 120 #[.val (.int i1), .val (.int i2), .val (.long j1), .second, .val (.long j2), .second, .val (.int i3), .val (.ref s1), .val (.ref s2), .val (.ref f), .val (.int (1 : Int32)), .val (.int (1 : Int32)), .val (.int (1 : Int32)), .unset] []))
    refine own_via (fun _ k => XS.iload X69.here hx rfl (hb hby at_120) rfl k) ?_
    show own_G _ _ _ _ (T69.setTop (mkF m 122 #[.val (.int i1), .val (.int i2), .val (.long j1), .second, .val (.long j2), .second, .val (.int i3), .val (.ref s1), .val (.ref s2), .val (.ref f), .val (.int (1 : Int32)), .val (.int (1 : Int32)), .val (.int (1 : Int32)), .unset] [(.int (1 : Int32))]))
    refine own_via (fun _ k => XS.ifNo X69.here hx rfl (hb hby at_122) rfl ((if0 _ _).trans (feq (by decide)).1) k) ?_
    show own_G _ _ _ _ (T69.setTop (mkF m 125 #[.val (.int i1), .val (.int i2), .val (.long j1), .second, .val (.long j2), .second, .val (.int i3), .val (.ref s1), .val (.ref s2), .val (.ref f), .val (.int (1 : Int32)), .val (.int (1 : Int32)), .val (.int (1 : Int32)), .unset] []))
    refine own_via (fun _ k => XS.iload X69.here hx rfl (hb hby at_125) rfl k) ?_
    show own_G _ _ _ _ (T69.setTop (mkF m 127 #[.val (.int i1), .val (.int i2), .val (.long j1), .second, .val (.long j2), .second, .val (.int i3), .val (.ref s1), .val (.ref s2), .val (.ref f), .val (.int (1 : Int32)), .val (.int (1 : Int32)), .val (.int (1 : Int32)), .unset] [(.int (1 : Int32))]))
    refine own_via (fun _ k => XS.ifYes X69.here hx rfl (pc0 := 127) (pc' := 134) rfl (hb hby at_127) rfl ((if0 _ _).trans (feq (by decide)).2) (by decide) (by decide) k) ?_
    show own_G _ _ _ _ (T69.setTop (mkF m 134 #[.val (.int i1), .val (.int i2), .val (.long j1), .second, .val (.long j2), .second, .val (.int i3), .val (.ref s1), .val (.ref s2), .val (.ref f), .val (.int (1 : Int32)), .val (.int (1 : Int32)), .val (.int (1 : Int32)), .unset] []))
    refine own_via (fun _ k => XS.iconst X69.here hx rfl (hb hby at_134) k) ?_
    show own_G _ _ _ _ (T69.setTop (mkF m 135 #[.val (.int i1), .val (.int i2), .val (.long j1), .second, .val (.long j2), .second, .val (.int i3), .val (.ref s1), .val (.ref s2), .val (.ref f), .val (.int (1 : Int32)), .val (.int (1 : Int32)), .val (.int (1 : Int32)), .unset] [(.int (0 : Int32))]))
    refine own_via (fun _ k => XS.istore X69.here hx rfl (hb hby at_135) rfl (l' := #[.val (.int i1), .val (.int i2), .val (.long j1), .second, .val (.long j2), .second, .val (.int i3), .val (.ref s1), .val (.ref s2), .val (.ref f), .val (.int (0 : Int32)), .val (.int (1 : Int32)), .val (.int (1 : Int32)), .unset]) rfl k) ?_
    show own_G _ _ _ _ (T69.setTop (mkF m 137 #[.val (.int i1), .val (.int i2), .val (.long j1), .second, .val (.long j2), .second, .val (.int i3), .val (.ref s1), .val (.ref s2), .val (.ref f), .val (.int (0 : Int32)), .val (.int (1 : Int32)), .val (.int (1 : Int32)), .unset] []))
    refine own_via (fun _ k => XS.iload X69.here hx rfl (hb hby at_137) rfl k) ?_
    show own_G _ _ _ _ (T69.setTop (mkF m 139 #[.val (.int i1), .val (.int i2), .val (.long j1), .second, .val (.long j2), .second, .val (.int i3), .val (.ref s1), .val (.ref s2), .val (.ref f), .val (.int (0 : Int32)), .val (.int (1 : Int32)), .val (.int (1 : Int32)), .unset] [(.int (1 : Int32))]))
    refine own_via (fun _ k => XS.ifNo X69.here hx rfl (hb hby at_139) rfl ((if0 _ _).trans (feq (by decide)).1) k) ?_
    show own_G _ _ _ _ (T69.setTop (mkF m 142 #[.val (.int i1), .val (.int i2), .val (.long j1), .second, .val (.long j2), .second, .val (.int i3), .val (.ref s1), .val (.ref s2), .val (.ref f), .val (.int (0 : Int32)), .val (.int (1 : Int32)), .val (.int (1 : Int32)), .unset] []))
    refine own_via (fun _ k => XS.aload X69.here hx rfl (hb hby at_142) rfl rfl k) ?_
    show own_G _ _ _ _ (T69.setTop (mkF m 144 #[.val (.int i1), .val (.int i2), .val (.long j1), .second, .val (.long j2), .second, .val (.int i3), .val (.ref s1), .val (.ref s2), .val (.ref f), .val (.int (0 : Int32)), .val (.int (1 : Int32)), .val (.int (1 : Int32)), .unset] [(.ref f)]))
    obtain ⟨cq70, kq70, q70a, q70b, q70c⟩ := isOf hZ rfl E_f
    obtain ⟨_, _, ⟨T70, L70, k70, n70⟩, -, X70, ⟨Lc70, hQ70, l70, y70, z70⟩, st70⟩ := X69.virtualBack hx (y := (⟨"com/example/rafterwire/rafterwire/radio/FaultLines", "isQuiet", "()Z"⟩ : MethodName)) (z := (⟨"com/example/rafterwire/rafterwire/radio/FaultLines", "isQuiet", "()Z"⟩ : MethodName)) hown (mvT hZ (hw _ (List.mem_of_getElem? (i := 33) rfl))) (mvT hZ (hw _ (List.mem_of_getElem? (i := 34) rfl))) (notFace_of_selects (args := #[]) (mvT hZ (hw _ (List.mem_of_getElem? (i := 36) rfl)))) (mvT hZ (hw _ (List.mem_of_getElem? (i := 36) rfl))) (mvT hZ (hw _ (List.mem_of_getElem? (i := 35) rfl))) (by decide) (backOf (W := 0) (rmq1 l Z a0 hw [] f s1 T69.heap n0 Z0 F_f_logged) hZ (hw _ (List.mem_of_getElem? (i := 37) rfl)) (hw _ (List.mem_of_getElem? (i := 28) rfl)) (by decide) (by decide)) q70a q70c (g := (mkF m 144 #[.val (.int i1), .val (.int i2), .val (.long j1), .second, .val (.long j2), .second, .val (.int i3), .val (.ref s1), .val (.ref s2), .val (.ref f), .val (.int (0 : Int32)), .val (.int (1 : Int32)), .val (.int (1 : Int32)), .unset] [(.ref f)])) rfl (by rw [hml]; rfl) (Steps.refl _) (argsL := []) (rest := []) (lenOf pd_10 rfl) rfl (by show 2 * 0 + _ ≤ _; exact Nat.le_of_eq rfl) (hb hby at_144) (fun _ _ => ⟨rfl, rfl, Nat.le_of_ble_eq_true rfl, Nat.le_of_ble_eq_true rfl⟩)
    dsimp only [Pt.U, Pt.locs, Pt.cells, Pt.slots] at X70 l70 y70 z70 st70 hQ70
    subst l70 y70 z70
    obtain ⟨rfl, N70q, e70⟩ := hQ70
    have N70 := Fr.app N69 N70q
    refine own_via (fun _ kt => st70.trans kt) ?_
    show own_G _ _ _ _ (T70.setTop (mkF m 147 #[.val (.int i1), .val (.int i2), .val (.long j1), .second, .val (.long j2), .second, .val (.int i3), .val (.ref s1), .val (.ref s2), .val (.ref f), .val (.int (0 : Int32)), .val (.int (1 : Int32)), .val (.int (1 : Int32)), .unset] [(.int (0 : Int32))]))
    refine own_via (fun _ k => XS.iload X70.here hx rfl (hb hby at_147) rfl k) ?_
    show own_G _ _ _ _ (T70.setTop (mkF m 149 #[.val (.int i1), .val (.int i2), .val (.long j1), .second, .val (.long j2), .second, .val (.int i3), .val (.ref s1), .val (.ref s2), .val (.ref f), .val (.int (0 : Int32)), .val (.int (1 : Int32)), .val (.int (1 : Int32)), .unset] [(.int (0 : Int32)), (.int (0 : Int32))]))
    refine own_via (fun _ k => XS.icmpNo X70.here hx rfl (hb hby at_149) rfl (teq (by decide)).2 k) ?_
    show own_G _ _ _ _ (T70.setTop (mkF m 152 #[.val (.int i1), .val (.int i2), .val (.long j1), .second, .val (.long j2), .second, .val (.int i3), .val (.ref s1), .val (.ref s2), .val (.ref f), .val (.int (0 : Int32)), .val (.int (1 : Int32)), .val (.int (1 : Int32)), .unset] []))
    refine own_via (fun _ k => XS.iconst X70.here hx rfl (hb hby at_152) k) ?_
    show own_G _ _ _ _ (T70.setTop (mkF m 153 #[.val (.int i1), .val (.int i2), .val (.long j1), .second, .val (.long j2), .second, .val (.int i3), .val (.ref s1), .val (.ref s2), .val (.ref f), .val (.int (0 : Int32)), .val (.int (1 : Int32)), .val (.int (1 : Int32)), .unset] [(.int (1 : Int32))]))
    refine own_via (fun _ k => XS.goto X70.here hx rfl (pc0 := 153) (pc' := 157) rfl (hb hby at_153) (by decide) (by decide) k) ?_
    show own_G _ _ _ _ (T70.setTop (mkF m 157 #[.val (.int i1), .val (.int i2), .val (.long j1), .second, .val (.long j2), .second, .val (.int i3), .val (.ref s1), .val (.ref s2), .val (.ref f), .val (.int (0 : Int32)), .val (.int (1 : Int32)), .val (.int (1 : Int32)), .unset] [(.int (1 : Int32))]))
    refine own_via (fun _ k => XS.istore X70.here hx rfl (hb hby at_157) rfl (l' := #[.val (.int i1), .val (.int i2), .val (.long j1), .second, .val (.long j2), .second, .val (.int i3), .val (.ref s1), .val (.ref s2), .val (.ref f), .val (.int (0 : Int32)), .val (.int (1 : Int32)), .val (.int (1 : Int32)), .unset]) rfl k) ?_
    show own_G _ _ _ _ (T70.setTop (mkF m 159 #[.val (.int i1), .val (.int i2), .val (.long j1), .second, .val (.long j2), .second, .val (.int i3), .val (.ref s1), .val (.ref s2), .val (.ref f), .val (.int (0 : Int32)), .val (.int (1 : Int32)), .val (.int (1 : Int32)), .unset] []))
    refine own_via (fun _ k => XS.iload X70.here hx rfl (hb hby at_159) rfl k) ?_
    show own_G _ _ _ _ (T70.setTop (mkF m 161 #[.val (.int i1), .val (.int i2), .val (.long j1), .second, .val (.long j2), .second, .val (.int i3), .val (.ref s1), .val (.ref s2), .val (.ref f), .val (.int (0 : Int32)), .val (.int (1 : Int32)), .val (.int (1 : Int32)), .unset] [(.int i3)]))
    refine own_via (fun _ k => XS.iconst X70.here hx rfl (hb hby at_161) k) ?_
    show own_G _ _ _ _ (T70.setTop (mkF m 162 #[.val (.int i1), .val (.int i2), .val (.long j1), .second, .val (.long j2), .second, .val (.int i3), .val (.ref s1), .val (.ref s2), .val (.ref f), .val (.int (0 : Int32)), .val (.int (1 : Int32)), .val (.int (1 : Int32)), .unset] [(.int (2 : Int32)), (.int i3)]))
    refine own_via (fun _ k => XS.iand X70.here hx rfl (hb hby at_162) rfl k) ?_
    show own_G _ _ _ _ (T70.setTop (mkF m 163 #[.val (.int i1), .val (.int i2), .val (.long j1), .second, .val (.long j2), .second, .val (.int i3), .val (.ref s1), .val (.ref s2), .val (.ref f), .val (.int (0 : Int32)), .val (.int (1 : Int32)), .val (.int (1 : Int32)), .unset] [(.int (i3 &&& (2 : Int32)))]))
    by_cases ho2 : (i3 &&& (2 : Int32)) = (0 : Int32)
    · refine own_via (fun _ k => XS.ifYes X70.here hx rfl (pc0 := 163) (pc' := 174) rfl (hb hby at_163) rfl ((if0 _ _).trans (teq ho2).1) (by decide) (by decide) k) ?_
      show own_G _ _ _ _ (T70.setTop (mkF m 174 #[.val (.int i1), .val (.int i2), .val (.long j1), .second, .val (.long j2), .second, .val (.int i3), .val (.ref s1), .val (.ref s2), .val (.ref f), .val (.int (0 : Int32)), .val (.int (1 : Int32)), .val (.int (1 : Int32)), .unset] []))
      refine own_via (fun _ k => XS.iload X70.here hx rfl (hb hby at_174) rfl k) ?_
      show own_G _ _ _ _ (T70.setTop (mkF m 176 #[.val (.int i1), .val (.int i2), .val (.long j1), .second, .val (.long j2), .second, .val (.int i3), .val (.ref s1), .val (.ref s2), .val (.ref f), .val (.int (0 : Int32)), .val (.int (1 : Int32)), .val (.int (1 : Int32)), .unset] [(.int (1 : Int32))]))
      refine own_via (fun _ k => XS.ifNo X70.here hx rfl (hb hby at_176) rfl ((if0 _ _).trans (feq (by decide)).1) k) ?_
      show own_G _ _ _ _ (T70.setTop (mkF m 179 #[.val (.int i1), .val (.int i2), .val (.long j1), .second, .val (.long j2), .second, .val (.int i3), .val (.ref s1), .val (.ref s2), .val (.ref f), .val (.int (0 : Int32)), .val (.int (1 : Int32)), .val (.int (1 : Int32)), .unset] []))
      refine own_via (fun _ k => XS.aload X70.here hx rfl (hb hby at_179) rfl rfl k) ?_
      show own_G _ _ _ _ (T70.setTop (mkF m 181 #[.val (.int i1), .val (.int i2), .val (.long j1), .second, .val (.long j2), .second, .val (.int i3), .val (.ref s1), .val (.ref s2), .val (.ref f), .val (.int (0 : Int32)), .val (.int (1 : Int32)), .val (.int (1 : Int32)), .unset] [(.ref f)]))
      obtain ⟨cq71, kq71, q71a, q71b, q71c⟩ := isOf hZ e70 E_f
      obtain ⟨_, _, ⟨T71, L71, k71, n71⟩, -, X71, ⟨Lc71, hQ71, l71, y71, z71⟩, st71⟩ := X70.virtualBack hx (y := (⟨"com/example/rafterwire/rafterwire/radio/FaultLines", "isQuiet", "()Z"⟩ : MethodName)) (z := (⟨"com/example/rafterwire/rafterwire/radio/FaultLines", "isQuiet", "()Z"⟩ : MethodName)) hown (mvT hZ (hw _ (List.mem_of_getElem? (i := 33) rfl))) (mvT hZ (hw _ (List.mem_of_getElem? (i := 34) rfl))) (notFace_of_selects (args := #[]) (mvT hZ (hw _ (List.mem_of_getElem? (i := 36) rfl)))) (mvT hZ (hw _ (List.mem_of_getElem? (i := 36) rfl))) (mvT hZ (hw _ (List.mem_of_getElem? (i := 35) rfl))) (by decide) (backOf (W := 0) (rmq1 l Z a0 hw [] f s1 T69.heap n0 Z0 F_f_logged) hZ (hw _ (List.mem_of_getElem? (i := 37) rfl)) (hw _ (List.mem_of_getElem? (i := 28) rfl)) (by decide) (by decide)) q71a q71c (g := (mkF m 181 #[.val (.int i1), .val (.int i2), .val (.long j1), .second, .val (.long j2), .second, .val (.int i3), .val (.ref s1), .val (.ref s2), .val (.ref f), .val (.int (0 : Int32)), .val (.int (1 : Int32)), .val (.int (1 : Int32)), .unset] [(.ref f)])) rfl (by rw [hml]; rfl) (Steps.refl _) (argsL := []) (rest := []) (lenOf pd_10 rfl) rfl (by show 2 * 0 + _ ≤ _; exact Nat.le_of_eq rfl) (hb hby at_181) (fun _ _ => ⟨rfl, e70, Nat.le_of_ble_eq_true rfl, Nat.le_of_ble_eq_true rfl⟩)
      dsimp only [Pt.U, Pt.locs, Pt.cells, Pt.slots] at X71 l71 y71 z71 st71 hQ71
      subst l71 y71 z71
      obtain ⟨rfl, N71q, e71⟩ := hQ71
      have N71 := Fr.app N70 N71q
      refine own_via (fun _ kt => st71.trans kt) ?_
      show own_G _ _ _ _ (T71.setTop (mkF m 184 #[.val (.int i1), .val (.int i2), .val (.long j1), .second, .val (.long j2), .second, .val (.int i3), .val (.ref s1), .val (.ref s2), .val (.ref f), .val (.int (0 : Int32)), .val (.int (1 : Int32)), .val (.int (1 : Int32)), .unset] [(.int (0 : Int32))]))
      refine own_via (fun _ k => XS.iload X71.here hx rfl (hb hby at_184) rfl k) ?_
      show own_G _ _ _ _ (T71.setTop (mkF m 186 #[.val (.int i1), .val (.int i2), .val (.long j1), .second, .val (.long j2), .second, .val (.int i3), .val (.ref s1), .val (.ref s2), .val (.ref f), .val (.int (0 : Int32)), .val (.int (1 : Int32)), .val (.int (1 : Int32)), .unset] [(.int (0 : Int32)), (.int (0 : Int32))]))
      refine own_via (fun _ k => XS.icmpNo X71.here hx rfl (hb hby at_186) rfl (teq (by decide)).2 k) ?_
      show own_G _ _ _ _ (T71.setTop (mkF m 189 #[.val (.int i1), .val (.int i2), .val (.long j1), .second, .val (.long j2), .second, .val (.int i3), .val (.ref s1), .val (.ref s2), .val (.ref f), .val (.int (0 : Int32)), .val (.int (1 : Int32)), .val (.int (1 : Int32)), .unset] []))
      refine own_via (fun _ k => XS.iconst X71.here hx rfl (hb hby at_189) k) ?_
      show own_G _ _ _ _ (T71.setTop (mkF m 190 #[.val (.int i1), .val (.int i2), .val (.long j1), .second, .val (.long j2), .second, .val (.int i3), .val (.ref s1), .val (.ref s2), .val (.ref f), .val (.int (0 : Int32)), .val (.int (1 : Int32)), .val (.int (1 : Int32)), .unset] [(.int (1 : Int32))]))
      refine own_via (fun _ k => XS.goto X71.here hx rfl (pc0 := 190) (pc' := 194) rfl (hb hby at_190) (by decide) (by decide) k) ?_
      show own_G _ _ _ _ (T71.setTop (mkF m 194 #[.val (.int i1), .val (.int i2), .val (.long j1), .second, .val (.long j2), .second, .val (.int i3), .val (.ref s1), .val (.ref s2), .val (.ref f), .val (.int (0 : Int32)), .val (.int (1 : Int32)), .val (.int (1 : Int32)), .unset] [(.int (1 : Int32))]))
      refine own_via (fun _ k => XS.istore X71.here hx rfl (hb hby at_194) rfl (l' := #[.val (.int i1), .val (.int i2), .val (.long j1), .second, .val (.long j2), .second, .val (.int i3), .val (.ref s1), .val (.ref s2), .val (.ref f), .val (.int (0 : Int32)), .val (.int (1 : Int32)), .val (.int (1 : Int32)), .unset]) rfl k) ?_
      show own_G _ _ _ _ (T71.setTop (mkF m 196 #[.val (.int i1), .val (.int i2), .val (.long j1), .second, .val (.long j2), .second, .val (.int i3), .val (.ref s1), .val (.ref s2), .val (.ref f), .val (.int (0 : Int32)), .val (.int (1 : Int32)), .val (.int (1 : Int32)), .unset] []))
      refine own_via (fun _ k => XS.aload X71.here hx rfl (hb hby at_196) rfl rfl k) ?_
      show own_G _ _ _ _ (T71.setTop (mkF m 198 #[.val (.int i1), .val (.int i2), .val (.long j1), .second, .val (.long j2), .second, .val (.int i3), .val (.ref s1), .val (.ref s2), .val (.ref f), .val (.int (0 : Int32)), .val (.int (1 : Int32)), .val (.int (1 : Int32)), .unset] [(.ref f)]))
      refine own_via (fun _ k => XS.aload X71.here hx rfl (hb hby at_198) rfl rfl k) ?_
      show own_G _ _ _ _ (T71.setTop (mkF m 200 #[.val (.int i1), .val (.int i2), .val (.long j1), .second, .val (.long j2), .second, .val (.int i3), .val (.ref s1), .val (.ref s2), .val (.ref f), .val (.int (0 : Int32)), .val (.int (1 : Int32)), .val (.int (1 : Int32)), .unset] [(.ref s2), (.ref f)]))
      refine own_via (fun _ k => XS.lload X71.here hx rfl (hb hby at_200) rfl k) ?_
      show own_G _ _ _ _ (T71.setTop (mkF m 202 #[.val (.int i1), .val (.int i2), .val (.long j1), .second, .val (.long j2), .second, .val (.int i3), .val (.ref s1), .val (.ref s2), .val (.ref f), .val (.int (0 : Int32)), .val (.int (1 : Int32)), .val (.int (1 : Int32)), .unset] [(.long j2), (.ref s2), (.ref f)]))
      obtain ⟨cq72, kq72, q72a, q72b, q72c⟩ := isOf hZ e71 E_f
      obtain ⟨_, _, ⟨T72, L72, k72, n72⟩, -, X72, ⟨Lc72, hQ72, l72, y72, z72⟩, st72⟩ := X71.virtualBack hx (y := (⟨"com/example/rafterwire/rafterwire/radio/FaultLines", "take", "(Ljava/lang/String;J)Z"⟩ : MethodName)) (z := (⟨"com/example/rafterwire/rafterwire/radio/FaultLines", "take", "(Ljava/lang/String;J)Z"⟩ : MethodName)) hown (mvT hZ (hw _ (List.mem_of_getElem? (i := 40) rfl))) (mvT hZ (hw _ (List.mem_of_getElem? (i := 41) rfl))) (notFace_of_selects (args := #[]) (mvT hZ (hw _ (List.mem_of_getElem? (i := 43) rfl)))) (mvT hZ (hw _ (List.mem_of_getElem? (i := 43) rfl))) (mvT hZ (hw _ (List.mem_of_getElem? (i := 42) rfl))) (by decide) (backOf (W := 0) (rmt1 l Z a0 hw [] f s2 j2 j1 s1 t2 t1 kc2 kc1 z2 z1 cs du T69.heap n0 Z0 E_f F_f_logged F_f_loggedAt g_f E_s2 F_s2_value F_s2_coder V_t2 E_s1 F_s1_value F_s1_coder V_t1 S_c hcs S_i E_du F_du_seconds F_du_nanos) hZ (hw _ (List.mem_of_getElem? (i := 44) rfl)) (hw _ (List.mem_of_getElem? (i := 28) rfl)) (by decide) (by decide)) q72a q72c (g := (mkF m 202 #[.val (.int i1), .val (.int i2), .val (.long j1), .second, .val (.long j2), .second, .val (.int i3), .val (.ref s1), .val (.ref s2), .val (.ref f), .val (.int (0 : Int32)), .val (.int (1 : Int32)), .val (.int (1 : Int32)), .unset] [(.long j2), (.ref s2), (.ref f)])) rfl (by rw [hml]; rfl) (Steps.refl _) (argsL := [(.ref s2), (.long j2)]) (rest := []) (lenOf pd_11 rfl) rfl (by show 2 * 0 + _ ≤ _; exact Nat.le_of_eq rfl) (hb hby at_202) (fun _ _ => ⟨rfl, e71, Nat.le_of_ble_eq_true rfl, Nat.le_of_ble_eq_true rfl⟩)
      dsimp only [Pt.U, Pt.locs, Pt.cells, Pt.slots] at X72 l72 y72 z72 st72 hQ72
      subst l72 y72 z72
      obtain ⟨kr, o2, q3, rfl, N72q, K72, -, F_f_logged, F_f_loggedAt⟩ := hQ72
      have N72 := Fr.app N71 N72q
      have S_c := own_sta1 S_c E_f K72
      have S_i := own_sta1 S_i E_f K72
      have E_du := E_du.keep K72
      have F_du_seconds := F_du_seconds.keep K72 (by simp [ne_du_f])
      have F_du_nanos := F_du_nanos.keep K72 (by simp [ne_du_f])
      have E_s1 := E_s1.keep K72
      have F_s1_value := F_s1_value.keep K72 (by simp [ne_s1_f])
      have F_s1_coder := F_s1_coder.keep K72 (by simp [ne_s1_f])
      have V_t1 := V_t1.keep K72 (by simp [ne_t1_f])
      have E_s2 := E_s2.keep K72
      have F_s2_value := F_s2_value.keep K72 (by simp [ne_s2_f])
      have F_s2_coder := F_s2_coder.keep K72 (by simp [ne_s2_f])
      have V_t2 := V_t2.keep K72 (by simp [ne_t2_f])
      have E_f := E_f.keep K72
      have Z0 := Nat.le_trans Z0 K72.1
      refine own_via (fun _ kt => st72.trans kt) ?_
      show own_G _ _ _ _ (T72.setTop (mkF m 205 #[.val (.int i1), .val (.int i2), .val (.long j1), .second, .val (.long j2), .second, .val (.int i3), .val (.ref s1), .val (.ref s2), .val (.ref f), .val (.int (0 : Int32)), .val (.int (1 : Int32)), .val (.int (1 : Int32)), .unset] [(.int kr)]))
      refine own_via (fun _ k => XS.istore X72.here hx rfl (hb hby at_205) rfl (l' := #[.val (.int i1), .val (.int i2), .val (.long j1), .second, .val (.long j2), .second, .val (.int i3), .val (.ref s1), .val (.ref s2), .val (.ref f), .val (.int (0 : Int32)), .val (.int (1 : Int32)), .val (.int (1 : Int32)), .val (.int kr)]) rfl k) ?_
      show own_G _ _ _ _ (T72.setTop (mkF m 207 #[.val (.int i1), .val (.int i2), .val (.long j1), .second, .val (.long j2), .second, .val (.int i3), .val (.ref s1), .val (.ref s2), .val (.ref f), .val (.int (0 : Int32)), .val (.int (1 : Int32)), .val (.int (1 : Int32)), .val (.int kr)] []))
      refine own_via (fun _ k => XS.iload X72.here hx rfl (hb hby at_207) rfl k) ?_
      show own_G _ _ _ _ (T72.setTop (mkF m 209 #[.val (.int i1), .val (.int i2), .val (.long j1), .second, .val (.long j2), .second, .val (.int i3), .val (.ref s1), .val (.ref s2), .val (.ref f), .val (.int (0 : Int32)), .val (.int (1 : Int32)), .val (.int (1 : Int32)), .val (.int kr)] [(.int (1 : Int32))]))
      refine own_via (fun _ k => XS.ifNo X72.here hx rfl (hb hby at_209) rfl ((if0 _ _).trans (feq (by decide)).1) k) ?_
      show own_G _ _ _ _ (T72.setTop (mkF m 212 #[.val (.int i1), .val (.int i2), .val (.long j1), .second, .val (.long j2), .second, .val (.int i3), .val (.ref s1), .val (.ref s2), .val (.ref f), .val (.int (0 : Int32)), .val (.int (1 : Int32)), .val (.int (1 : Int32)), .val (.int kr)] []))
      refine own_via (fun _ k => XS.iload X72.here hx rfl (hb hby at_212) rfl k) ?_
      show own_G _ _ _ _ (T72.setTop (mkF m 214 #[.val (.int i1), .val (.int i2), .val (.long j1), .second, .val (.long j2), .second, .val (.int i3), .val (.ref s1), .val (.ref s2), .val (.ref f), .val (.int (0 : Int32)), .val (.int (1 : Int32)), .val (.int (1 : Int32)), .val (.int kr)] [(.int (0 : Int32))]))
      refine own_via (fun _ k => XS.ifYes X72.here hx rfl (pc0 := 214) (pc' := 222) rfl (hb hby at_214) rfl ((if0 _ _).trans (teq (by decide)).1) (by decide) (by decide) k) ?_
      show own_G _ _ _ _ (T72.setTop (mkF m 222 #[.val (.int i1), .val (.int i2), .val (.long j1), .second, .val (.long j2), .second, .val (.int i3), .val (.ref s1), .val (.ref s2), .val (.ref f), .val (.int (0 : Int32)), .val (.int (1 : Int32)), .val (.int (1 : Int32)), .val (.int kr)] []))
      refine own_via (fun _ k => XS.iconst X72.here hx rfl (hb hby at_222) k) ?_
      show own_G _ _ _ _ (T72.setTop (mkF m 223 #[.val (.int i1), .val (.int i2), .val (.long j1), .second, .val (.long j2), .second, .val (.int i3), .val (.ref s1), .val (.ref s2), .val (.ref f), .val (.int (0 : Int32)), .val (.int (1 : Int32)), .val (.int (1 : Int32)), .val (.int kr)] [(.int (1 : Int32))]))
      refine own_via (fun _ k => XS.goto X72.here hx rfl (pc0 := 223) (pc' := 227) rfl (hb hby at_223) (by decide) (by decide) k) ?_
      show own_G _ _ _ _ (T72.setTop (mkF m 227 #[.val (.int i1), .val (.int i2), .val (.long j1), .second, .val (.long j2), .second, .val (.int i3), .val (.ref s1), .val (.ref s2), .val (.ref f), .val (.int (0 : Int32)), .val (.int (1 : Int32)), .val (.int (1 : Int32)), .val (.int kr)] [(.int (1 : Int32))]))
      refine own_via (fun _ k => XS.istore X72.here hx rfl (hb hby at_227) rfl (l' := #[.val (.int i1), .val (.int i2), .val (.long j1), .second, .val (.long j2), .second, .val (.int i3), .val (.ref s1), .val (.ref s2), .val (.ref f), .val (.int (0 : Int32)), .val (.int (1 : Int32)), .val (.int (1 : Int32)), .val (.int kr)]) rfl k) ?_
      show own_G _ _ _ _ (T72.setTop (mkF m 229 #[.val (.int i1), .val (.int i2), .val (.long j1), .second, .val (.long j2), .second, .val (.int i3), .val (.ref s1), .val (.ref s2), .val (.ref f), .val (.int (0 : Int32)), .val (.int (1 : Int32)), .val (.int (1 : Int32)), .val (.int kr)] []))
      refine own_via (fun _ k => XS.iload X72.here hx rfl (hb hby at_229) rfl k) ?_
      show own_G _ _ _ _ (T72.setTop (mkF m 231 #[.val (.int i1), .val (.int i2), .val (.long j1), .second, .val (.long j2), .second, .val (.int i3), .val (.ref s1), .val (.ref s2), .val (.ref f), .val (.int (0 : Int32)), .val (.int (1 : Int32)), .val (.int (1 : Int32)), .val (.int kr)] [(.int (0 : Int32))]))
      refine own_via (fun _ k => XS.ifYes X72.here hx rfl (pc0 := 231) (pc' := 243) rfl (hb hby at_231) rfl ((if0 _ _).trans (teq (by decide)).1) (by decide) (by decide) k) ?_
      show own_G _ _ _ _ (T72.setTop (mkF m 243 #[.val (.int i1), .val (.int i2), .val (.long j1), .second, .val (.long j2), .second, .val (.int i3), .val (.ref s1), .val (.ref s2), .val (.ref f), .val (.int (0 : Int32)), .val (.int (1 : Int32)), .val (.int (1 : Int32)), .val (.int kr)] []))
      refine own_via (fun _ k => XS.iconst X72.here hx rfl (hb hby at_243) k) ?_
      show own_G _ _ _ _ (T72.setTop (mkF m 244 #[.val (.int i1), .val (.int i2), .val (.long j1), .second, .val (.long j2), .second, .val (.int i3), .val (.ref s1), .val (.ref s2), .val (.ref f), .val (.int (0 : Int32)), .val (.int (1 : Int32)), .val (.int (1 : Int32)), .val (.int kr)] [(.int (0 : Int32))]))
      refine own_via (fun _ k => XS.istore X72.here hx rfl (hb hby at_244) rfl (l' := #[.val (.int i1), .val (.int i2), .val (.long j1), .second, .val (.long j2), .second, .val (.int i3), .val (.ref s1), .val (.ref s2), .val (.ref f), .val (.int (0 : Int32)), .val (.int (1 : Int32)), .val (.int (1 : Int32)), .val (.int kr)]) rfl k) ?_
      show own_G _ _ _ _ (T72.setTop (mkF m 246 #[.val (.int i1), .val (.int i2), .val (.long j1), .second, .val (.long j2), .second, .val (.int i3), .val (.ref s1), .val (.ref s2), .val (.ref f), .val (.int (0 : Int32)), .val (.int (1 : Int32)), .val (.int (1 : Int32)), .val (.int kr)] []))
      refine own_via (fun _ k => XS.iload X72.here hx rfl (hb hby at_246) rfl k) ?_
      show own_G _ _ _ _ (T72.setTop (mkF m 248 #[.val (.int i1), .val (.int i2), .val (.long j1), .second, .val (.long j2), .second, .val (.int i3), .val (.ref s1), .val (.ref s2), .val (.ref f), .val (.int (0 : Int32)), .val (.int (1 : Int32)), .val (.int (1 : Int32)), .val (.int kr)] [(.int (1 : Int32))]))
      refine own_via (fun _ k => XS.ifNo X72.here hx rfl (hb hby at_248) rfl ((if0 _ _).trans (feq (by decide)).1) k) ?_
      show own_G _ _ _ _ (T72.setTop (mkF m 251 #[.val (.int i1), .val (.int i2), .val (.long j1), .second, .val (.long j2), .second, .val (.int i3), .val (.ref s1), .val (.ref s2), .val (.ref f), .val (.int (0 : Int32)), .val (.int (1 : Int32)), .val (.int (1 : Int32)), .val (.int kr)] []))
      refine own_via (fun _ k => XS.aload X72.here hx rfl (hb hby at_251) rfl rfl k) ?_
      show own_G _ _ _ _ (T72.setTop (mkF m 253 #[.val (.int i1), .val (.int i2), .val (.long j1), .second, .val (.long j2), .second, .val (.int i3), .val (.ref s1), .val (.ref s2), .val (.ref f), .val (.int (0 : Int32)), .val (.int (1 : Int32)), .val (.int (1 : Int32)), .val (.int kr)] [(.ref f)]))
      obtain ⟨cq73, kq73, q73a, q73b, q73c⟩ := isOf hZ rfl E_f
      obtain ⟨_, _, ⟨T73, L73, k73, n73⟩, -, X73, ⟨Lc73, hQ73, l73, y73, z73⟩, st73⟩ := X72.virtualBack hx (y := (⟨"com/example/rafterwire/rafterwire/radio/FaultLines", "isQuiet", "()Z"⟩ : MethodName)) (z := (⟨"com/example/rafterwire/rafterwire/radio/FaultLines", "isQuiet", "()Z"⟩ : MethodName)) hown (mvT hZ (hw _ (List.mem_of_getElem? (i := 33) rfl))) (mvT hZ (hw _ (List.mem_of_getElem? (i := 34) rfl))) (notFace_of_selects (args := #[]) (mvT hZ (hw _ (List.mem_of_getElem? (i := 36) rfl)))) (mvT hZ (hw _ (List.mem_of_getElem? (i := 36) rfl))) (mvT hZ (hw _ (List.mem_of_getElem? (i := 35) rfl))) (by decide) (backOf (W := 0) (rmq1 l Z a0 hw [] f o2 T72.heap n0 Z0 F_f_logged) hZ (hw _ (List.mem_of_getElem? (i := 37) rfl)) (hw _ (List.mem_of_getElem? (i := 28) rfl)) (by decide) (by decide)) q73a q73c (g := (mkF m 253 #[.val (.int i1), .val (.int i2), .val (.long j1), .second, .val (.long j2), .second, .val (.int i3), .val (.ref s1), .val (.ref s2), .val (.ref f), .val (.int (0 : Int32)), .val (.int (1 : Int32)), .val (.int (1 : Int32)), .val (.int kr)] [(.ref f)])) rfl (by rw [hml]; rfl) (Steps.refl _) (argsL := []) (rest := []) (lenOf pd_10 rfl) rfl (by show 2 * 0 + _ ≤ _; exact Nat.le_of_eq rfl) (hb hby at_253) (fun _ _ => ⟨rfl, rfl, Nat.le_of_ble_eq_true rfl, Nat.le_of_ble_eq_true rfl⟩)
      dsimp only [Pt.U, Pt.locs, Pt.cells, Pt.slots] at X73 l73 y73 z73 st73 hQ73
      subst l73 y73 z73
      obtain ⟨rfl, N73q, e73⟩ := hQ73
      have N73 := Fr.app N72 N73q
      refine own_via (fun _ kt => st73.trans kt) ?_
      show own_G _ _ _ _ (T73.setTop (mkF m 256 #[.val (.int i1), .val (.int i2), .val (.long j1), .second, .val (.long j2), .second, .val (.int i3), .val (.ref s1), .val (.ref s2), .val (.ref f), .val (.int (0 : Int32)), .val (.int (1 : Int32)), .val (.int (1 : Int32)), .val (.int kr)] [(.int (0 : Int32))]))
      refine own_via (fun _ k => XS.iload X73.here hx rfl (hb hby at_256) rfl k) ?_
      show own_G _ _ _ _ (T73.setTop (mkF m 258 #[.val (.int i1), .val (.int i2), .val (.long j1), .second, .val (.long j2), .second, .val (.int i3), .val (.ref s1), .val (.ref s2), .val (.ref f), .val (.int (0 : Int32)), .val (.int (1 : Int32)), .val (.int (1 : Int32)), .val (.int kr)] [(.int (0 : Int32)), (.int (0 : Int32))]))
      refine own_via (fun _ k => XS.icmpNo X73.here hx rfl (hb hby at_258) rfl (teq (by decide)).2 k) ?_
      show own_G _ _ _ _ (T73.setTop (mkF m 261 #[.val (.int i1), .val (.int i2), .val (.long j1), .second, .val (.long j2), .second, .val (.int i3), .val (.ref s1), .val (.ref s2), .val (.ref f), .val (.int (0 : Int32)), .val (.int (1 : Int32)), .val (.int (1 : Int32)), .val (.int kr)] []))
      refine own_via (fun _ k => XS.iconst X73.here hx rfl (hb hby at_261) k) ?_
      show own_G _ _ _ _ (T73.setTop (mkF m 262 #[.val (.int i1), .val (.int i2), .val (.long j1), .second, .val (.long j2), .second, .val (.int i3), .val (.ref s1), .val (.ref s2), .val (.ref f), .val (.int (0 : Int32)), .val (.int (1 : Int32)), .val (.int (1 : Int32)), .val (.int kr)] [(.int (1 : Int32))]))
      refine own_via (fun _ k => XS.goto X73.here hx rfl (pc0 := 262) (pc' := 266) rfl (hb hby at_262) (by decide) (by decide) k) ?_
      show own_G _ _ _ _ (T73.setTop (mkF m 266 #[.val (.int i1), .val (.int i2), .val (.long j1), .second, .val (.long j2), .second, .val (.int i3), .val (.ref s1), .val (.ref s2), .val (.ref f), .val (.int (0 : Int32)), .val (.int (1 : Int32)), .val (.int (1 : Int32)), .val (.int kr)] [(.int (1 : Int32))]))
      refine own_via (fun _ k => XS.istore X73.here hx rfl (hb hby at_266) rfl (l' := #[.val (.int i1), .val (.int i2), .val (.long j1), .second, .val (.long j2), .second, .val (.int i3), .val (.ref s1), .val (.ref s2), .val (.ref f), .val (.int (0 : Int32)), .val (.int (1 : Int32)), .val (.int (1 : Int32)), .val (.int kr)]) rfl k) ?_
      show own_G _ _ _ _ (T73.setTop (mkF m 268 #[.val (.int i1), .val (.int i2), .val (.long j1), .second, .val (.long j2), .second, .val (.int i3), .val (.ref s1), .val (.ref s2), .val (.ref f), .val (.int (0 : Int32)), .val (.int (1 : Int32)), .val (.int (1 : Int32)), .val (.int kr)] []))
      refine own_via (fun _ k => XS.iload X73.here hx rfl (hb hby at_268) rfl k) ?_
      show own_G _ _ _ _ (T73.setTop (mkF m 270 #[.val (.int i1), .val (.int i2), .val (.long j1), .second, .val (.long j2), .second, .val (.int i3), .val (.ref s1), .val (.ref s2), .val (.ref f), .val (.int (0 : Int32)), .val (.int (1 : Int32)), .val (.int (1 : Int32)), .val (.int kr)] [(.int i3)]))
      refine own_via (fun _ k => XS.iconst X73.here hx rfl (hb hby at_270) k) ?_
      show own_G _ _ _ _ (T73.setTop (mkF m 271 #[.val (.int i1), .val (.int i2), .val (.long j1), .second, .val (.long j2), .second, .val (.int i3), .val (.ref s1), .val (.ref s2), .val (.ref f), .val (.int (0 : Int32)), .val (.int (1 : Int32)), .val (.int (1 : Int32)), .val (.int kr)] [(.int (4 : Int32)), (.int i3)]))
      refine own_via (fun _ k => XS.iand X73.here hx rfl (hb hby at_271) rfl k) ?_
      show own_G _ _ _ _ (T73.setTop (mkF m 272 #[.val (.int i1), .val (.int i2), .val (.long j1), .second, .val (.long j2), .second, .val (.int i3), .val (.ref s1), .val (.ref s2), .val (.ref f), .val (.int (0 : Int32)), .val (.int (1 : Int32)), .val (.int (1 : Int32)), .val (.int kr)] [(.int (i3 &&& (4 : Int32)))]))
      by_cases ho4 : (i3 &&& (4 : Int32)) = (0 : Int32)
      · refine own_via (fun _ k => XS.ifYes X73.here hx rfl (pc0 := 272) (pc' := 283) rfl (hb hby at_272) rfl ((if0 _ _).trans (teq ho4).1) (by decide) (by decide) k) ?_
        show own_G _ _ _ _ (T73.setTop (mkF m 283 #[.val (.int i1), .val (.int i2), .val (.long j1), .second, .val (.long j2), .second, .val (.int i3), .val (.ref s1), .val (.ref s2), .val (.ref f), .val (.int (0 : Int32)), .val (.int (1 : Int32)), .val (.int (1 : Int32)), .val (.int kr)] []))
        refine own_via (fun _ k => XS.iload X73.here hx rfl (hb hby at_283) rfl k) ?_
        show own_G _ _ _ _ (T73.setTop (mkF m 285 #[.val (.int i1), .val (.int i2), .val (.long j1), .second, .val (.long j2), .second, .val (.int i3), .val (.ref s1), .val (.ref s2), .val (.ref f), .val (.int (0 : Int32)), .val (.int (1 : Int32)), .val (.int (1 : Int32)), .val (.int kr)] [(.int (1 : Int32))]))
        refine own_via (fun _ k => XS.ifNo X73.here hx rfl (hb hby at_285) rfl ((if0 _ _).trans (feq (by decide)).1) k) ?_
        show own_G _ _ _ _ (T73.setTop (mkF m 288 #[.val (.int i1), .val (.int i2), .val (.long j1), .second, .val (.long j2), .second, .val (.int i3), .val (.ref s1), .val (.ref s2), .val (.ref f), .val (.int (0 : Int32)), .val (.int (1 : Int32)), .val (.int (1 : Int32)), .val (.int kr)] []))
        refine own_via (fun _ k => XS.aload X73.here hx rfl (hb hby at_288) rfl rfl k) ?_
        show own_G _ _ _ _ (T73.setTop (mkF m 290 #[.val (.int i1), .val (.int i2), .val (.long j1), .second, .val (.long j2), .second, .val (.int i3), .val (.ref s1), .val (.ref s2), .val (.ref f), .val (.int (0 : Int32)), .val (.int (1 : Int32)), .val (.int (1 : Int32)), .val (.int kr)] [(.ref f)]))
        obtain ⟨cq74, kq74, q74a, q74b, q74c⟩ := isOf hZ e73 E_f
        obtain ⟨_, _, ⟨T74, L74, k74, n74⟩, -, X74, ⟨Lc74, hQ74, l74, y74, z74⟩, st74⟩ := X73.virtualBack hx (y := (⟨"com/example/rafterwire/rafterwire/radio/FaultLines", "isQuiet", "()Z"⟩ : MethodName)) (z := (⟨"com/example/rafterwire/rafterwire/radio/FaultLines", "isQuiet", "()Z"⟩ : MethodName)) hown (mvT hZ (hw _ (List.mem_of_getElem? (i := 33) rfl))) (mvT hZ (hw _ (List.mem_of_getElem? (i := 34) rfl))) (notFace_of_selects (args := #[]) (mvT hZ (hw _ (List.mem_of_getElem? (i := 36) rfl)))) (mvT hZ (hw _ (List.mem_of_getElem? (i := 36) rfl))) (mvT hZ (hw _ (List.mem_of_getElem? (i := 35) rfl))) (by decide) (backOf (W := 0) (rmq1 l Z a0 hw [] f o2 T72.heap n0 Z0 F_f_logged) hZ (hw _ (List.mem_of_getElem? (i := 37) rfl)) (hw _ (List.mem_of_getElem? (i := 28) rfl)) (by decide) (by decide)) q74a q74c (g := (mkF m 290 #[.val (.int i1), .val (.int i2), .val (.long j1), .second, .val (.long j2), .second, .val (.int i3), .val (.ref s1), .val (.ref s2), .val (.ref f), .val (.int (0 : Int32)), .val (.int (1 : Int32)), .val (.int (1 : Int32)), .val (.int kr)] [(.ref f)])) rfl (by rw [hml]; rfl) (Steps.refl _) (argsL := []) (rest := []) (lenOf pd_10 rfl) rfl (by show 2 * 0 + _ ≤ _; exact Nat.le_of_eq rfl) (hb hby at_290) (fun _ _ => ⟨rfl, e73, Nat.le_of_ble_eq_true rfl, Nat.le_of_ble_eq_true rfl⟩)
        dsimp only [Pt.U, Pt.locs, Pt.cells, Pt.slots] at X74 l74 y74 z74 st74 hQ74
        subst l74 y74 z74
        obtain ⟨rfl, N74q, e74⟩ := hQ74
        have N74 := Fr.app N73 N74q
        refine own_via (fun _ kt => st74.trans kt) ?_
        show own_G _ _ _ _ (T74.setTop (mkF m 293 #[.val (.int i1), .val (.int i2), .val (.long j1), .second, .val (.long j2), .second, .val (.int i3), .val (.ref s1), .val (.ref s2), .val (.ref f), .val (.int (0 : Int32)), .val (.int (1 : Int32)), .val (.int (1 : Int32)), .val (.int kr)] [(.int (0 : Int32))]))
        refine own_via (fun _ k => XS.iload X74.here hx rfl (hb hby at_293) rfl k) ?_
        show own_G _ _ _ _ (T74.setTop (mkF m 295 #[.val (.int i1), .val (.int i2), .val (.long j1), .second, .val (.long j2), .second, .val (.int i3), .val (.ref s1), .val (.ref s2), .val (.ref f), .val (.int (0 : Int32)), .val (.int (1 : Int32)), .val (.int (1 : Int32)), .val (.int kr)] [(.int (0 : Int32)), (.int (0 : Int32))]))
        refine own_via (fun _ k => XS.icmpNo X74.here hx rfl (hb hby at_295) rfl (teq (by decide)).2 k) ?_
        show own_G _ _ _ _ (T74.setTop (mkF m 298 #[.val (.int i1), .val (.int i2), .val (.long j1), .second, .val (.long j2), .second, .val (.int i3), .val (.ref s1), .val (.ref s2), .val (.ref f), .val (.int (0 : Int32)), .val (.int (1 : Int32)), .val (.int (1 : Int32)), .val (.int kr)] []))
        refine own_via (fun _ k => XS.iconst X74.here hx rfl (hb hby at_298) k) ?_
        show own_G _ _ _ _ (T74.setTop (mkF m 299 #[.val (.int i1), .val (.int i2), .val (.long j1), .second, .val (.long j2), .second, .val (.int i3), .val (.ref s1), .val (.ref s2), .val (.ref f), .val (.int (0 : Int32)), .val (.int (1 : Int32)), .val (.int (1 : Int32)), .val (.int kr)] [(.int (1 : Int32))]))
        refine own_via (fun _ k => XS.goto X74.here hx rfl (pc0 := 299) (pc' := 303) rfl (hb hby at_299) (by decide) (by decide) k) ?_
        show own_G _ _ _ _ (T74.setTop (mkF m 303 #[.val (.int i1), .val (.int i2), .val (.long j1), .second, .val (.long j2), .second, .val (.int i3), .val (.ref s1), .val (.ref s2), .val (.ref f), .val (.int (0 : Int32)), .val (.int (1 : Int32)), .val (.int (1 : Int32)), .val (.int kr)] [(.int (1 : Int32))]))
        refine own_via (fun _ k => XS.istore X74.here hx rfl (hb hby at_303) rfl (l' := #[.val (.int i1), .val (.int i2), .val (.long j1), .second, .val (.long j2), .second, .val (.int i3), .val (.ref s1), .val (.ref s2), .val (.ref f), .val (.int (0 : Int32)), .val (.int (1 : Int32)), .val (.int (1 : Int32)), .val (.int kr)]) rfl k) ?_
        show own_G _ _ _ _ (T74.setTop (mkF m 305 #[.val (.int i1), .val (.int i2), .val (.long j1), .second, .val (.long j2), .second, .val (.int i3), .val (.ref s1), .val (.ref s2), .val (.ref f), .val (.int (0 : Int32)), .val (.int (1 : Int32)), .val (.int (1 : Int32)), .val (.int kr)] []))
        refine own_via (fun _ k => XS.iload X74.here hx rfl (hb hby at_305) rfl k) ?_
        show own_G _ _ _ _ (T74.setTop (mkF m 307 #[.val (.int i1), .val (.int i2), .val (.long j1), .second, .val (.long j2), .second, .val (.int i3), .val (.ref s1), .val (.ref s2), .val (.ref f), .val (.int (0 : Int32)), .val (.int (1 : Int32)), .val (.int (1 : Int32)), .val (.int kr)] [(.int (1 : Int32))]))
        obtain ⟨fs, hr, hrun, hended, hW, hsame⟩ := X74.leave (v := some (.int (1 : Int32))) (fun h => by rw [Bd.returns] at h; cases h)
        exact ⟨_, _, retN X74 hx (t := .boolean) Bd.returns (by simp) (hb hby at_307) hr, hrun, hended, _, _, rfl, ⟨rfl, N74⟩, ⟨_, rfl⟩, hW, hsame.mono (by decide) (by decide)⟩
      · refine own_via (fun _ k => XS.ifNo X73.here hx rfl (hb hby at_272) rfl ((if0 _ _).trans (feq ho4).1) k) ?_
        show own_G _ _ _ _ (T73.setTop (mkF m 275 #[.val (.int i1), .val (.int i2), .val (.long j1), .second, .val (.long j2), .second, .val (.int i3), .val (.ref s1), .val (.ref s2), .val (.ref f), .val (.int (0 : Int32)), .val (.int (1 : Int32)), .val (.int (1 : Int32)), .val (.int kr)] []))
        refine own_via (fun _ k => XS.aload X73.here hx rfl (hb hby at_275) rfl rfl k) ?_
        show own_G _ _ _ _ (T73.setTop (mkF m 277 #[.val (.int i1), .val (.int i2), .val (.long j1), .second, .val (.long j2), .second, .val (.int i3), .val (.ref s1), .val (.ref s2), .val (.ref f), .val (.int (0 : Int32)), .val (.int (1 : Int32)), .val (.int (1 : Int32)), .val (.int kr)] [(.ref f)]))
        obtain ⟨cq75, kq75, q75a, q75b, q75c⟩ := isOf hZ e73 E_f
        obtain ⟨_, _, ⟨T75, L75, k75, n75⟩, -, X75, ⟨Lc75, hQ75, l75, y75, z75⟩, st75⟩ := X73.virtualBack hx (y := (⟨"com/example/rafterwire/rafterwire/radio/FaultLines", "reset", "()V"⟩ : MethodName)) (z := (⟨"com/example/rafterwire/rafterwire/radio/FaultLines", "reset", "()V"⟩ : MethodName)) hown (mvT hZ (hw _ (List.mem_of_getElem? (i := 47) rfl))) (mvT hZ (hw _ (List.mem_of_getElem? (i := 48) rfl))) (notFace_of_selects (args := #[]) (mvT hZ (hw _ (List.mem_of_getElem? (i := 50) rfl)))) (mvT hZ (hw _ (List.mem_of_getElem? (i := 50) rfl))) (mvT hZ (hw _ (List.mem_of_getElem? (i := 49) rfl))) (by decide) (backOf (W := 0) (rmrs l Z a0 hw [] f (.ref o2) q3 T72.heap n0 Z0 E_f F_f_logged F_f_loggedAt g_f) hZ (hw _ (List.mem_of_getElem? (i := 51) rfl)) (hw _ (List.mem_of_getElem? (i := 28) rfl)) (by decide) (by decide)) q75a q75c (g := (mkF m 277 #[.val (.int i1), .val (.int i2), .val (.long j1), .second, .val (.long j2), .second, .val (.int i3), .val (.ref s1), .val (.ref s2), .val (.ref f), .val (.int (0 : Int32)), .val (.int (1 : Int32)), .val (.int (1 : Int32)), .val (.int kr)] [(.ref f)])) rfl (by rw [hml]; rfl) (Steps.refl _) (argsL := []) (rest := []) (lenOf pd_9 rfl) rfl (by show 2 * 0 + _ ≤ _; exact Nat.le_of_eq rfl) (hb hby at_277) (fun _ _ => ⟨rfl, e73, Nat.le_of_ble_eq_true rfl, Nat.le_of_ble_eq_true rfl⟩)
        dsimp only [Pt.U, Pt.locs, Pt.cells, Pt.slots] at X75 l75 y75 z75 st75 hQ75
        subst l75 y75 z75
        obtain ⟨rfl, N75q, K75, -, F_f_logged, F_f_loggedAt⟩ := hQ75
        have N75 := Fr.app N73 N75q
        have S_c := own_sta1 S_c E_f K75
        have S_i := own_sta1 S_i E_f K75
        have E_du := E_du.keep K75
        have F_du_seconds := F_du_seconds.keep K75 (by simp [ne_du_f])
        have F_du_nanos := F_du_nanos.keep K75 (by simp [ne_du_f])
        have E_s1 := E_s1.keep K75
        have F_s1_value := F_s1_value.keep K75 (by simp [ne_s1_f])
        have F_s1_coder := F_s1_coder.keep K75 (by simp [ne_s1_f])
        have V_t1 := V_t1.keep K75 (by simp [ne_t1_f])
        have E_s2 := E_s2.keep K75
        have F_s2_value := F_s2_value.keep K75 (by simp [ne_s2_f])
        have F_s2_coder := F_s2_coder.keep K75 (by simp [ne_s2_f])
        have V_t2 := V_t2.keep K75 (by simp [ne_t2_f])
        have E_f := E_f.keep K75
        have Z0 := Nat.le_trans Z0 K75.1
        refine own_via (fun _ kt => st75.trans kt) ?_
        show own_G _ _ _ _ (T75.setTop (mkF m 280 #[.val (.int i1), .val (.int i2), .val (.long j1), .second, .val (.long j2), .second, .val (.int i3), .val (.ref s1), .val (.ref s2), .val (.ref f), .val (.int (0 : Int32)), .val (.int (1 : Int32)), .val (.int (1 : Int32)), .val (.int kr)] []))
        refine own_via (fun _ k => XS.iconst X75.here hx rfl (hb hby at_280) k) ?_
        show own_G _ _ _ _ (T75.setTop (mkF m 281 #[.val (.int i1), .val (.int i2), .val (.long j1), .second, .val (.long j2), .second, .val (.int i3), .val (.ref s1), .val (.ref s2), .val (.ref f), .val (.int (0 : Int32)), .val (.int (1 : Int32)), .val (.int (1 : Int32)), .val (.int kr)] [(.int (1 : Int32))]))
        refine own_via (fun _ k => XS.istore X75.here hx rfl (hb hby at_281) rfl (l' := #[.val (.int i1), .val (.int i2), .val (.long j1), .second, .val (.long j2), .second, .val (.int i3), .val (.ref s1), .val (.ref s2), .val (.ref f), .val (.int (1 : Int32)), .val (.int (1 : Int32)), .val (.int (1 : Int32)), .val (.int kr)]) rfl k) ?_
        show own_G _ _ _ _ (T75.setTop (mkF m 283 #[.val (.int i1), .val (.int i2), .val (.long j1), .second, .val (.long j2), .second, .val (.int i3), .val (.ref s1), .val (.ref s2), .val (.ref f), .val (.int (1 : Int32)), .val (.int (1 : Int32)), .val (.int (1 : Int32)), .val (.int kr)] []))
        refine own_via (fun _ k => XS.iload X75.here hx rfl (hb hby at_283) rfl k) ?_
        show own_G _ _ _ _ (T75.setTop (mkF m 285 #[.val (.int i1), .val (.int i2), .val (.long j1), .second, .val (.long j2), .second, .val (.int i3), .val (.ref s1), .val (.ref s2), .val (.ref f), .val (.int (1 : Int32)), .val (.int (1 : Int32)), .val (.int (1 : Int32)), .val (.int kr)] [(.int (1 : Int32))]))
        refine own_via (fun _ k => XS.ifNo X75.here hx rfl (hb hby at_285) rfl ((if0 _ _).trans (feq (by decide)).1) k) ?_
        show own_G _ _ _ _ (T75.setTop (mkF m 288 #[.val (.int i1), .val (.int i2), .val (.long j1), .second, .val (.long j2), .second, .val (.int i3), .val (.ref s1), .val (.ref s2), .val (.ref f), .val (.int (1 : Int32)), .val (.int (1 : Int32)), .val (.int (1 : Int32)), .val (.int kr)] []))
        refine own_via (fun _ k => XS.aload X75.here hx rfl (hb hby at_288) rfl rfl k) ?_
        show own_G _ _ _ _ (T75.setTop (mkF m 290 #[.val (.int i1), .val (.int i2), .val (.long j1), .second, .val (.long j2), .second, .val (.int i3), .val (.ref s1), .val (.ref s2), .val (.ref f), .val (.int (1 : Int32)), .val (.int (1 : Int32)), .val (.int (1 : Int32)), .val (.int kr)] [(.ref f)]))
        obtain ⟨cq76, kq76, q76a, q76b, q76c⟩ := isOf hZ rfl E_f
        obtain ⟨_, _, ⟨T76, L76, k76, n76⟩, -, X76, ⟨Lc76, hQ76, l76, y76, z76⟩, st76⟩ := X75.virtualBack hx (y := (⟨"com/example/rafterwire/rafterwire/radio/FaultLines", "isQuiet", "()Z"⟩ : MethodName)) (z := (⟨"com/example/rafterwire/rafterwire/radio/FaultLines", "isQuiet", "()Z"⟩ : MethodName)) hown (mvT hZ (hw _ (List.mem_of_getElem? (i := 33) rfl))) (mvT hZ (hw _ (List.mem_of_getElem? (i := 34) rfl))) (notFace_of_selects (args := #[]) (mvT hZ (hw _ (List.mem_of_getElem? (i := 36) rfl)))) (mvT hZ (hw _ (List.mem_of_getElem? (i := 36) rfl))) (mvT hZ (hw _ (List.mem_of_getElem? (i := 35) rfl))) (by decide) (backOf (W := 0) (rmq0 l Z a0 hw [] f T75.heap n0 Z0 F_f_logged) hZ (hw _ (List.mem_of_getElem? (i := 37) rfl)) (hw _ (List.mem_of_getElem? (i := 28) rfl)) (by decide) (by decide)) q76a q76c (g := (mkF m 290 #[.val (.int i1), .val (.int i2), .val (.long j1), .second, .val (.long j2), .second, .val (.int i3), .val (.ref s1), .val (.ref s2), .val (.ref f), .val (.int (1 : Int32)), .val (.int (1 : Int32)), .val (.int (1 : Int32)), .val (.int kr)] [(.ref f)])) rfl (by rw [hml]; rfl) (Steps.refl _) (argsL := []) (rest := []) (lenOf pd_10 rfl) rfl (by show 2 * 0 + _ ≤ _; exact Nat.le_of_eq rfl) (hb hby at_290) (fun _ _ => ⟨rfl, rfl, Nat.le_of_ble_eq_true rfl, Nat.le_of_ble_eq_true rfl⟩)
        dsimp only [Pt.U, Pt.locs, Pt.cells, Pt.slots] at X76 l76 y76 z76 st76 hQ76
        subst l76 y76 z76
        obtain ⟨rfl, N76q, e76⟩ := hQ76
        have N76 := Fr.app N75 N76q
        refine own_via (fun _ kt => st76.trans kt) ?_
        show own_G _ _ _ _ (T76.setTop (mkF m 293 #[.val (.int i1), .val (.int i2), .val (.long j1), .second, .val (.long j2), .second, .val (.int i3), .val (.ref s1), .val (.ref s2), .val (.ref f), .val (.int (1 : Int32)), .val (.int (1 : Int32)), .val (.int (1 : Int32)), .val (.int kr)] [(.int (1 : Int32))]))
        refine own_via (fun _ k => XS.iload X76.here hx rfl (hb hby at_293) rfl k) ?_
        show own_G _ _ _ _ (T76.setTop (mkF m 295 #[.val (.int i1), .val (.int i2), .val (.long j1), .second, .val (.long j2), .second, .val (.int i3), .val (.ref s1), .val (.ref s2), .val (.ref f), .val (.int (1 : Int32)), .val (.int (1 : Int32)), .val (.int (1 : Int32)), .val (.int kr)] [(.int (1 : Int32)), (.int (1 : Int32))]))
        refine own_via (fun _ k => XS.icmpNo X76.here hx rfl (hb hby at_295) rfl (teq (by decide)).2 k) ?_
        show own_G _ _ _ _ (T76.setTop (mkF m 298 #[.val (.int i1), .val (.int i2), .val (.long j1), .second, .val (.long j2), .second, .val (.int i3), .val (.ref s1), .val (.ref s2), .val (.ref f), .val (.int (1 : Int32)), .val (.int (1 : Int32)), .val (.int (1 : Int32)), .val (.int kr)] []))
        refine own_via (fun _ k => XS.iconst X76.here hx rfl (hb hby at_298) k) ?_
        show own_G _ _ _ _ (T76.setTop (mkF m 299 #[.val (.int i1), .val (.int i2), .val (.long j1), .second, .val (.long j2), .second, .val (.int i3), .val (.ref s1), .val (.ref s2), .val (.ref f), .val (.int (1 : Int32)), .val (.int (1 : Int32)), .val (.int (1 : Int32)), .val (.int kr)] [(.int (1 : Int32))]))
        refine own_via (fun _ k => XS.goto X76.here hx rfl (pc0 := 299) (pc' := 303) rfl (hb hby at_299) (by decide) (by decide) k) ?_
        show own_G _ _ _ _ (T76.setTop (mkF m 303 #[.val (.int i1), .val (.int i2), .val (.long j1), .second, .val (.long j2), .second, .val (.int i3), .val (.ref s1), .val (.ref s2), .val (.ref f), .val (.int (1 : Int32)), .val (.int (1 : Int32)), .val (.int (1 : Int32)), .val (.int kr)] [(.int (1 : Int32))]))
        refine own_via (fun _ k => XS.istore X76.here hx rfl (hb hby at_303) rfl (l' := #[.val (.int i1), .val (.int i2), .val (.long j1), .second, .val (.long j2), .second, .val (.int i3), .val (.ref s1), .val (.ref s2), .val (.ref f), .val (.int (1 : Int32)), .val (.int (1 : Int32)), .val (.int (1 : Int32)), .val (.int kr)]) rfl k) ?_
        show own_G _ _ _ _ (T76.setTop (mkF m 305 #[.val (.int i1), .val (.int i2), .val (.long j1), .second, .val (.long j2), .second, .val (.int i3), .val (.ref s1), .val (.ref s2), .val (.ref f), .val (.int (1 : Int32)), .val (.int (1 : Int32)), .val (.int (1 : Int32)), .val (.int kr)] []))
        refine own_via (fun _ k => XS.iload X76.here hx rfl (hb hby at_305) rfl k) ?_
        show own_G _ _ _ _ (T76.setTop (mkF m 307 #[.val (.int i1), .val (.int i2), .val (.long j1), .second, .val (.long j2), .second, .val (.int i3), .val (.ref s1), .val (.ref s2), .val (.ref f), .val (.int (1 : Int32)), .val (.int (1 : Int32)), .val (.int (1 : Int32)), .val (.int kr)] [(.int (1 : Int32))]))
        obtain ⟨fs, hr, hrun, hended, hW, hsame⟩ := X76.leave (v := some (.int (1 : Int32))) (fun h => by rw [Bd.returns] at h; cases h)
        exact ⟨_, _, retN X76 hx (t := .boolean) Bd.returns (by simp) (hb hby at_307) hr, hrun, hended, _, _, rfl, ⟨rfl, N76⟩, ⟨_, rfl⟩, hW, hsame.mono (by decide) (by decide)⟩
    · refine own_via (fun _ k => XS.ifNo X70.here hx rfl (hb hby at_163) rfl ((if0 _ _).trans (feq ho2).1) k) ?_
      show own_G _ _ _ _ (T70.setTop (mkF m 166 #[.val (.int i1), .val (.int i2), .val (.long j1), .second, .val (.long j2), .second, .val (.int i3), .val (.ref s1), .val (.ref s2), .val (.ref f), .val (.int (0 : Int32)), .val (.int (1 : Int32)), .val (.int (1 : Int32)), .unset] []))
      refine own_via (fun _ k => XS.aload X70.here hx rfl (hb hby at_166) rfl rfl k) ?_
      show own_G _ _ _ _ (T70.setTop (mkF m 168 #[.val (.int i1), .val (.int i2), .val (.long j1), .second, .val (.long j2), .second, .val (.int i3), .val (.ref s1), .val (.ref s2), .val (.ref f), .val (.int (0 : Int32)), .val (.int (1 : Int32)), .val (.int (1 : Int32)), .unset] [(.ref f)]))
      obtain ⟨cq77, kq77, q77a, q77b, q77c⟩ := isOf hZ e70 E_f
      obtain ⟨_, _, ⟨T77, L77, k77, n77⟩, -, X77, ⟨Lc77, hQ77, l77, y77, z77⟩, st77⟩ := X70.virtualBack hx (y := (⟨"com/example/rafterwire/rafterwire/radio/FaultLines", "reset", "()V"⟩ : MethodName)) (z := (⟨"com/example/rafterwire/rafterwire/radio/FaultLines", "reset", "()V"⟩ : MethodName)) hown (mvT hZ (hw _ (List.mem_of_getElem? (i := 47) rfl))) (mvT hZ (hw _ (List.mem_of_getElem? (i := 48) rfl))) (notFace_of_selects (args := #[]) (mvT hZ (hw _ (List.mem_of_getElem? (i := 50) rfl)))) (mvT hZ (hw _ (List.mem_of_getElem? (i := 50) rfl))) (mvT hZ (hw _ (List.mem_of_getElem? (i := 49) rfl))) (by decide) (backOf (W := 0) (rmrs l Z a0 hw [] f (.ref s1) j1 T69.heap n0 Z0 E_f F_f_logged F_f_loggedAt g_f) hZ (hw _ (List.mem_of_getElem? (i := 51) rfl)) (hw _ (List.mem_of_getElem? (i := 28) rfl)) (by decide) (by decide)) q77a q77c (g := (mkF m 168 #[.val (.int i1), .val (.int i2), .val (.long j1), .second, .val (.long j2), .second, .val (.int i3), .val (.ref s1), .val (.ref s2), .val (.ref f), .val (.int (0 : Int32)), .val (.int (1 : Int32)), .val (.int (1 : Int32)), .unset] [(.ref f)])) rfl (by rw [hml]; rfl) (Steps.refl _) (argsL := []) (rest := []) (lenOf pd_9 rfl) rfl (by show 2 * 0 + _ ≤ _; exact Nat.le_of_eq rfl) (hb hby at_168) (fun _ _ => ⟨rfl, e70, Nat.le_of_ble_eq_true rfl, Nat.le_of_ble_eq_true rfl⟩)
      dsimp only [Pt.U, Pt.locs, Pt.cells, Pt.slots] at X77 l77 y77 z77 st77 hQ77
      subst l77 y77 z77
      obtain ⟨rfl, N77q, K77, -, F_f_logged, F_f_loggedAt⟩ := hQ77
      have N77 := Fr.app N70 N77q
      have S_c := own_sta1 S_c E_f K77
      have S_i := own_sta1 S_i E_f K77
      have E_du := E_du.keep K77
      have F_du_seconds := F_du_seconds.keep K77 (by simp [ne_du_f])
      have F_du_nanos := F_du_nanos.keep K77 (by simp [ne_du_f])
      have E_s1 := E_s1.keep K77
      have F_s1_value := F_s1_value.keep K77 (by simp [ne_s1_f])
      have F_s1_coder := F_s1_coder.keep K77 (by simp [ne_s1_f])
      have V_t1 := V_t1.keep K77 (by simp [ne_t1_f])
      have E_s2 := E_s2.keep K77
      have F_s2_value := F_s2_value.keep K77 (by simp [ne_s2_f])
      have F_s2_coder := F_s2_coder.keep K77 (by simp [ne_s2_f])
      have V_t2 := V_t2.keep K77 (by simp [ne_t2_f])
      have E_f := E_f.keep K77
      have Z0 := Nat.le_trans Z0 K77.1
      refine own_via (fun _ kt => st77.trans kt) ?_
      show own_G _ _ _ _ (T77.setTop (mkF m 171 #[.val (.int i1), .val (.int i2), .val (.long j1), .second, .val (.long j2), .second, .val (.int i3), .val (.ref s1), .val (.ref s2), .val (.ref f), .val (.int (0 : Int32)), .val (.int (1 : Int32)), .val (.int (1 : Int32)), .unset] []))
      refine own_via (fun _ k => XS.iconst X77.here hx rfl (hb hby at_171) k) ?_
      show own_G _ _ _ _ (T77.setTop (mkF m 172 #[.val (.int i1), .val (.int i2), .val (.long j1), .second, .val (.long j2), .second, .val (.int i3), .val (.ref s1), .val (.ref s2), .val (.ref f), .val (.int (0 : Int32)), .val (.int (1 : Int32)), .val (.int (1 : Int32)), .unset] [(.int (1 : Int32))]))
      refine own_via (fun _ k => XS.istore X77.here hx rfl (hb hby at_172) rfl (l' := #[.val (.int i1), .val (.int i2), .val (.long j1), .second, .val (.long j2), .second, .val (.int i3), .val (.ref s1), .val (.ref s2), .val (.ref f), .val (.int (1 : Int32)), .val (.int (1 : Int32)), .val (.int (1 : Int32)), .unset]) rfl k) ?_
      show own_G _ _ _ _ (T77.setTop (mkF m 174 #[.val (.int i1), .val (.int i2), .val (.long j1), .second, .val (.long j2), .second, .val (.int i3), .val (.ref s1), .val (.ref s2), .val (.ref f), .val (.int (1 : Int32)), .val (.int (1 : Int32)), .val (.int (1 : Int32)), .unset] []))
      refine own_via (fun _ k => XS.iload X77.here hx rfl (hb hby at_174) rfl k) ?_
      show own_G _ _ _ _ (T77.setTop (mkF m 176 #[.val (.int i1), .val (.int i2), .val (.long j1), .second, .val (.long j2), .second, .val (.int i3), .val (.ref s1), .val (.ref s2), .val (.ref f), .val (.int (1 : Int32)), .val (.int (1 : Int32)), .val (.int (1 : Int32)), .unset] [(.int (1 : Int32))]))
      refine own_via (fun _ k => XS.ifNo X77.here hx rfl (hb hby at_176) rfl ((if0 _ _).trans (feq (by decide)).1) k) ?_
      show own_G _ _ _ _ (T77.setTop (mkF m 179 #[.val (.int i1), .val (.int i2), .val (.long j1), .second, .val (.long j2), .second, .val (.int i3), .val (.ref s1), .val (.ref s2), .val (.ref f), .val (.int (1 : Int32)), .val (.int (1 : Int32)), .val (.int (1 : Int32)), .unset] []))
      refine own_via (fun _ k => XS.aload X77.here hx rfl (hb hby at_179) rfl rfl k) ?_
      show own_G _ _ _ _ (T77.setTop (mkF m 181 #[.val (.int i1), .val (.int i2), .val (.long j1), .second, .val (.long j2), .second, .val (.int i3), .val (.ref s1), .val (.ref s2), .val (.ref f), .val (.int (1 : Int32)), .val (.int (1 : Int32)), .val (.int (1 : Int32)), .unset] [(.ref f)]))
      obtain ⟨cq78, kq78, q78a, q78b, q78c⟩ := isOf hZ rfl E_f
      obtain ⟨_, _, ⟨T78, L78, k78, n78⟩, -, X78, ⟨Lc78, hQ78, l78, y78, z78⟩, st78⟩ := X77.virtualBack hx (y := (⟨"com/example/rafterwire/rafterwire/radio/FaultLines", "isQuiet", "()Z"⟩ : MethodName)) (z := (⟨"com/example/rafterwire/rafterwire/radio/FaultLines", "isQuiet", "()Z"⟩ : MethodName)) hown (mvT hZ (hw _ (List.mem_of_getElem? (i := 33) rfl))) (mvT hZ (hw _ (List.mem_of_getElem? (i := 34) rfl))) (notFace_of_selects (args := #[]) (mvT hZ (hw _ (List.mem_of_getElem? (i := 36) rfl)))) (mvT hZ (hw _ (List.mem_of_getElem? (i := 36) rfl))) (mvT hZ (hw _ (List.mem_of_getElem? (i := 35) rfl))) (by decide) (backOf (W := 0) (rmq0 l Z a0 hw [] f T77.heap n0 Z0 F_f_logged) hZ (hw _ (List.mem_of_getElem? (i := 37) rfl)) (hw _ (List.mem_of_getElem? (i := 28) rfl)) (by decide) (by decide)) q78a q78c (g := (mkF m 181 #[.val (.int i1), .val (.int i2), .val (.long j1), .second, .val (.long j2), .second, .val (.int i3), .val (.ref s1), .val (.ref s2), .val (.ref f), .val (.int (1 : Int32)), .val (.int (1 : Int32)), .val (.int (1 : Int32)), .unset] [(.ref f)])) rfl (by rw [hml]; rfl) (Steps.refl _) (argsL := []) (rest := []) (lenOf pd_10 rfl) rfl (by show 2 * 0 + _ ≤ _; exact Nat.le_of_eq rfl) (hb hby at_181) (fun _ _ => ⟨rfl, rfl, Nat.le_of_ble_eq_true rfl, Nat.le_of_ble_eq_true rfl⟩)
      dsimp only [Pt.U, Pt.locs, Pt.cells, Pt.slots] at X78 l78 y78 z78 st78 hQ78
      subst l78 y78 z78
      obtain ⟨rfl, N78q, e78⟩ := hQ78
      have N78 := Fr.app N77 N78q
      refine own_via (fun _ kt => st78.trans kt) ?_
      show own_G _ _ _ _ (T78.setTop (mkF m 184 #[.val (.int i1), .val (.int i2), .val (.long j1), .second, .val (.long j2), .second, .val (.int i3), .val (.ref s1), .val (.ref s2), .val (.ref f), .val (.int (1 : Int32)), .val (.int (1 : Int32)), .val (.int (1 : Int32)), .unset] [(.int (1 : Int32))]))
      refine own_via (fun _ k => XS.iload X78.here hx rfl (hb hby at_184) rfl k) ?_
      show own_G _ _ _ _ (T78.setTop (mkF m 186 #[.val (.int i1), .val (.int i2), .val (.long j1), .second, .val (.long j2), .second, .val (.int i3), .val (.ref s1), .val (.ref s2), .val (.ref f), .val (.int (1 : Int32)), .val (.int (1 : Int32)), .val (.int (1 : Int32)), .unset] [(.int (1 : Int32)), (.int (1 : Int32))]))
      refine own_via (fun _ k => XS.icmpNo X78.here hx rfl (hb hby at_186) rfl (teq (by decide)).2 k) ?_
      show own_G _ _ _ _ (T78.setTop (mkF m 189 #[.val (.int i1), .val (.int i2), .val (.long j1), .second, .val (.long j2), .second, .val (.int i3), .val (.ref s1), .val (.ref s2), .val (.ref f), .val (.int (1 : Int32)), .val (.int (1 : Int32)), .val (.int (1 : Int32)), .unset] []))
      refine own_via (fun _ k => XS.iconst X78.here hx rfl (hb hby at_189) k) ?_
      show own_G _ _ _ _ (T78.setTop (mkF m 190 #[.val (.int i1), .val (.int i2), .val (.long j1), .second, .val (.long j2), .second, .val (.int i3), .val (.ref s1), .val (.ref s2), .val (.ref f), .val (.int (1 : Int32)), .val (.int (1 : Int32)), .val (.int (1 : Int32)), .unset] [(.int (1 : Int32))]))
      refine own_via (fun _ k => XS.goto X78.here hx rfl (pc0 := 190) (pc' := 194) rfl (hb hby at_190) (by decide) (by decide) k) ?_
      show own_G _ _ _ _ (T78.setTop (mkF m 194 #[.val (.int i1), .val (.int i2), .val (.long j1), .second, .val (.long j2), .second, .val (.int i3), .val (.ref s1), .val (.ref s2), .val (.ref f), .val (.int (1 : Int32)), .val (.int (1 : Int32)), .val (.int (1 : Int32)), .unset] [(.int (1 : Int32))]))
      refine own_via (fun _ k => XS.istore X78.here hx rfl (hb hby at_194) rfl (l' := #[.val (.int i1), .val (.int i2), .val (.long j1), .second, .val (.long j2), .second, .val (.int i3), .val (.ref s1), .val (.ref s2), .val (.ref f), .val (.int (1 : Int32)), .val (.int (1 : Int32)), .val (.int (1 : Int32)), .unset]) rfl k) ?_
      show own_G _ _ _ _ (T78.setTop (mkF m 196 #[.val (.int i1), .val (.int i2), .val (.long j1), .second, .val (.long j2), .second, .val (.int i3), .val (.ref s1), .val (.ref s2), .val (.ref f), .val (.int (1 : Int32)), .val (.int (1 : Int32)), .val (.int (1 : Int32)), .unset] []))
      refine own_via (fun _ k => XS.aload X78.here hx rfl (hb hby at_196) rfl rfl k) ?_
      show own_G _ _ _ _ (T78.setTop (mkF m 198 #[.val (.int i1), .val (.int i2), .val (.long j1), .second, .val (.long j2), .second, .val (.int i3), .val (.ref s1), .val (.ref s2), .val (.ref f), .val (.int (1 : Int32)), .val (.int (1 : Int32)), .val (.int (1 : Int32)), .unset] [(.ref f)]))
      refine own_via (fun _ k => XS.aload X78.here hx rfl (hb hby at_198) rfl rfl k) ?_
      show own_G _ _ _ _ (T78.setTop (mkF m 200 #[.val (.int i1), .val (.int i2), .val (.long j1), .second, .val (.long j2), .second, .val (.int i3), .val (.ref s1), .val (.ref s2), .val (.ref f), .val (.int (1 : Int32)), .val (.int (1 : Int32)), .val (.int (1 : Int32)), .unset] [(.ref s2), (.ref f)]))
      refine own_via (fun _ k => XS.lload X78.here hx rfl (hb hby at_200) rfl k) ?_
      show own_G _ _ _ _ (T78.setTop (mkF m 202 #[.val (.int i1), .val (.int i2), .val (.long j1), .second, .val (.long j2), .second, .val (.int i3), .val (.ref s1), .val (.ref s2), .val (.ref f), .val (.int (1 : Int32)), .val (.int (1 : Int32)), .val (.int (1 : Int32)), .unset] [(.long j2), (.ref s2), (.ref f)]))
      obtain ⟨cq79, kq79, q79a, q79b, q79c⟩ := isOf hZ e78 E_f
      obtain ⟨_, _, ⟨T79, L79, k79, n79⟩, -, X79, ⟨Lc79, hQ79, l79, y79, z79⟩, st79⟩ := X78.virtualBack hx (y := (⟨"com/example/rafterwire/rafterwire/radio/FaultLines", "take", "(Ljava/lang/String;J)Z"⟩ : MethodName)) (z := (⟨"com/example/rafterwire/rafterwire/radio/FaultLines", "take", "(Ljava/lang/String;J)Z"⟩ : MethodName)) hown (mvT hZ (hw _ (List.mem_of_getElem? (i := 40) rfl))) (mvT hZ (hw _ (List.mem_of_getElem? (i := 41) rfl))) (notFace_of_selects (args := #[]) (mvT hZ (hw _ (List.mem_of_getElem? (i := 43) rfl)))) (mvT hZ (hw _ (List.mem_of_getElem? (i := 43) rfl))) (mvT hZ (hw _ (List.mem_of_getElem? (i := 42) rfl))) (by decide) (backOf (W := 0) (rmt0 l Z a0 hw [] f s2 j2 j1 T77.heap n0 Z0 E_f F_f_logged F_f_loggedAt g_f) hZ (hw _ (List.mem_of_getElem? (i := 44) rfl)) (hw _ (List.mem_of_getElem? (i := 28) rfl)) (by decide) (by decide)) q79a q79c (g := (mkF m 202 #[.val (.int i1), .val (.int i2), .val (.long j1), .second, .val (.long j2), .second, .val (.int i3), .val (.ref s1), .val (.ref s2), .val (.ref f), .val (.int (1 : Int32)), .val (.int (1 : Int32)), .val (.int (1 : Int32)), .unset] [(.long j2), (.ref s2), (.ref f)])) rfl (by rw [hml]; rfl) (Steps.refl _) (argsL := [(.ref s2), (.long j2)]) (rest := []) (lenOf pd_11 rfl) rfl (by show 2 * 0 + _ ≤ _; exact Nat.le_of_eq rfl) (hb hby at_202) (fun _ _ => ⟨rfl, e78, Nat.le_of_ble_eq_true rfl, Nat.le_of_ble_eq_true rfl⟩)
      dsimp only [Pt.U, Pt.locs, Pt.cells, Pt.slots] at X79 l79 y79 z79 st79 hQ79
      subst l79 y79 z79
      obtain ⟨rfl, N79q, K79, -, F_f_logged, F_f_loggedAt⟩ := hQ79
      have N79 := Fr.app N78 N79q
      have S_c := own_sta1 S_c E_f K79
      have S_i := own_sta1 S_i E_f K79
      have E_du := E_du.keep K79
      have F_du_seconds := F_du_seconds.keep K79 (by simp [ne_du_f])
      have F_du_nanos := F_du_nanos.keep K79 (by simp [ne_du_f])
      have E_s1 := E_s1.keep K79
      have F_s1_value := F_s1_value.keep K79 (by simp [ne_s1_f])
      have F_s1_coder := F_s1_coder.keep K79 (by simp [ne_s1_f])
      have V_t1 := V_t1.keep K79 (by simp [ne_t1_f])
      have E_s2 := E_s2.keep K79
      have F_s2_value := F_s2_value.keep K79 (by simp [ne_s2_f])
      have F_s2_coder := F_s2_coder.keep K79 (by simp [ne_s2_f])
      have V_t2 := V_t2.keep K79 (by simp [ne_t2_f])
      have E_f := E_f.keep K79
      have Z0 := Nat.le_trans Z0 K79.1
      refine own_via (fun _ kt => st79.trans kt) ?_
      show own_G _ _ _ _ (T79.setTop (mkF m 205 #[.val (.int i1), .val (.int i2), .val (.long j1), .second, .val (.long j2), .second, .val (.int i3), .val (.ref s1), .val (.ref s2), .val (.ref f), .val (.int (1 : Int32)), .val (.int (1 : Int32)), .val (.int (1 : Int32)), .unset] [(.int (1 : Int32))]))
      refine own_via (fun _ k => XS.istore X79.here hx rfl (hb hby at_205) rfl (l' := #[.val (.int i1), .val (.int i2), .val (.long j1), .second, .val (.long j2), .second, .val (.int i3), .val (.ref s1), .val (.ref s2), .val (.ref f), .val (.int (1 : Int32)), .val (.int (1 : Int32)), .val (.int (1 : Int32)), .val (.int (1 : Int32))]) rfl k) ?_
      show own_G _ _ _ _ (T79.setTop (mkF m 207 #[.val (.int i1), .val (.int i2), .val (.long j1), .second, .val (.long j2), .second, .val (.int i3), .val (.ref s1), .val (.ref s2), .val (.ref f), .val (.int (1 : Int32)), .val (.int (1 : Int32)), .val (.int (1 : Int32)), .val (.int (1 : Int32))] []))
      refine own_via (fun _ k => XS.iload X79.here hx rfl (hb hby at_207) rfl k) ?_
      show own_G _ _ _ _ (T79.setTop (mkF m 209 #[.val (.int i1), .val (.int i2), .val (.long j1), .second, .val (.long j2), .second, .val (.int i3), .val (.ref s1), .val (.ref s2), .val (.ref f), .val (.int (1 : Int32)), .val (.int (1 : Int32)), .val (.int (1 : Int32)), .val (.int (1 : Int32))] [(.int (1 : Int32))]))
      refine own_via (fun _ k => XS.ifNo X79.here hx rfl (hb hby at_209) rfl ((if0 _ _).trans (feq (by decide)).1) k) ?_
      show own_G _ _ _ _ (T79.setTop (mkF m 212 #[.val (.int i1), .val (.int i2), .val (.long j1), .second, .val (.long j2), .second, .val (.int i3), .val (.ref s1), .val (.ref s2), .val (.ref f), .val (.int (1 : Int32)), .val (.int (1 : Int32)), .val (.int (1 : Int32)), .val (.int (1 : Int32))] []))
      refine own_via (fun _ k => XS.iload X79.here hx rfl (hb hby at_212) rfl k) ?_
      show own_G _ _ _ _ (T79.setTop (mkF m 214 #[.val (.int i1), .val (.int i2), .val (.long j1), .second, .val (.long j2), .second, .val (.int i3), .val (.ref s1), .val (.ref s2), .val (.ref f), .val (.int (1 : Int32)), .val (.int (1 : Int32)), .val (.int (1 : Int32)), .val (.int (1 : Int32))] [(.int (1 : Int32))]))
      refine own_via (fun _ k => XS.ifNo X79.here hx rfl (hb hby at_214) rfl ((if0 _ _).trans (feq (by decide)).1) k) ?_
      show own_G _ _ _ _ (T79.setTop (mkF m 217 #[.val (.int i1), .val (.int i2), .val (.long j1), .second, .val (.long j2), .second, .val (.int i3), .val (.ref s1), .val (.ref s2), .val (.ref f), .val (.int (1 : Int32)), .val (.int (1 : Int32)), .val (.int (1 : Int32)), .val (.int (1 : Int32))] []))
      refine own_via (fun _ k => XS.iload X79.here hx rfl (hb hby at_217) rfl k) ?_
      show own_G _ _ _ _ (T79.setTop (mkF m 219 #[.val (.int i1), .val (.int i2), .val (.long j1), .second, .val (.long j2), .second, .val (.int i3), .val (.ref s1), .val (.ref s2), .val (.ref f), .val (.int (1 : Int32)), .val (.int (1 : Int32)), .val (.int (1 : Int32)), .val (.int (1 : Int32))] [(.int (1 : Int32))]))
      refine own_via (fun _ k => XS.ifNo X79.here hx rfl (hb hby at_219) rfl ((if0 _ _).trans (feq (by decide)).1) k) ?_
      show own_G _ _ _ _ (T79.setTop (mkF m 222 #[.val (.int i1), .val (.int i2), .val (.long j1), .second, .val (.long j2), .second, .val (.int i3), .val (.ref s1), .val (.ref s2), .val (.ref f), .val (.int (1 : Int32)), .val (.int (1 : Int32)), .val (.int (1 : Int32)), .val (.int (1 : Int32))] []))
      refine own_via (fun _ k => XS.iconst X79.here hx rfl (hb hby at_222) k) ?_
      show own_G _ _ _ _ (T79.setTop (mkF m 223 #[.val (.int i1), .val (.int i2), .val (.long j1), .second, .val (.long j2), .second, .val (.int i3), .val (.ref s1), .val (.ref s2), .val (.ref f), .val (.int (1 : Int32)), .val (.int (1 : Int32)), .val (.int (1 : Int32)), .val (.int (1 : Int32))] [(.int (1 : Int32))]))
      refine own_via (fun _ k => XS.goto X79.here hx rfl (pc0 := 223) (pc' := 227) rfl (hb hby at_223) (by decide) (by decide) k) ?_
      show own_G _ _ _ _ (T79.setTop (mkF m 227 #[.val (.int i1), .val (.int i2), .val (.long j1), .second, .val (.long j2), .second, .val (.int i3), .val (.ref s1), .val (.ref s2), .val (.ref f), .val (.int (1 : Int32)), .val (.int (1 : Int32)), .val (.int (1 : Int32)), .val (.int (1 : Int32))] [(.int (1 : Int32))]))
      refine own_via (fun _ k => XS.istore X79.here hx rfl (hb hby at_227) rfl (l' := #[.val (.int i1), .val (.int i2), .val (.long j1), .second, .val (.long j2), .second, .val (.int i3), .val (.ref s1), .val (.ref s2), .val (.ref f), .val (.int (1 : Int32)), .val (.int (1 : Int32)), .val (.int (1 : Int32)), .val (.int (1 : Int32))]) rfl k) ?_
      show own_G _ _ _ _ (T79.setTop (mkF m 229 #[.val (.int i1), .val (.int i2), .val (.long j1), .second, .val (.long j2), .second, .val (.int i3), .val (.ref s1), .val (.ref s2), .val (.ref f), .val (.int (1 : Int32)), .val (.int (1 : Int32)), .val (.int (1 : Int32)), .val (.int (1 : Int32))] []))
      refine own_via (fun _ k => XS.iload X79.here hx rfl (hb hby at_229) rfl k) ?_
      show own_G _ _ _ _ (T79.setTop (mkF m 231 #[.val (.int i1), .val (.int i2), .val (.long j1), .second, .val (.long j2), .second, .val (.int i3), .val (.ref s1), .val (.ref s2), .val (.ref f), .val (.int (1 : Int32)), .val (.int (1 : Int32)), .val (.int (1 : Int32)), .val (.int (1 : Int32))] [(.int (1 : Int32))]))
      refine own_via (fun _ k => XS.ifNo X79.here hx rfl (hb hby at_231) rfl ((if0 _ _).trans (feq (by decide)).1) k) ?_
      show own_G _ _ _ _ (T79.setTop (mkF m 234 #[.val (.int i1), .val (.int i2), .val (.long j1), .second, .val (.long j2), .second, .val (.int i3), .val (.ref s1), .val (.ref s2), .val (.ref f), .val (.int (1 : Int32)), .val (.int (1 : Int32)), .val (.int (1 : Int32)), .val (.int (1 : Int32))] []))
      refine own_via (fun _ k => XS.iload X79.here hx rfl (hb hby at_234) rfl k) ?_
      show own_G _ _ _ _ (T79.setTop (mkF m 236 #[.val (.int i1), .val (.int i2), .val (.long j1), .second, .val (.long j2), .second, .val (.int i3), .val (.ref s1), .val (.ref s2), .val (.ref f), .val (.int (1 : Int32)), .val (.int (1 : Int32)), .val (.int (1 : Int32)), .val (.int (1 : Int32))] [(.int (1 : Int32))]))
      refine own_via (fun _ k => XS.ifYes X79.here hx rfl (pc0 := 236) (pc' := 243) rfl (hb hby at_236) rfl ((if0 _ _).trans (feq (by decide)).2) (by decide) (by decide) k) ?_
      show own_G _ _ _ _ (T79.setTop (mkF m 243 #[.val (.int i1), .val (.int i2), .val (.long j1), .second, .val (.long j2), .second, .val (.int i3), .val (.ref s1), .val (.ref s2), .val (.ref f), .val (.int (1 : Int32)), .val (.int (1 : Int32)), .val (.int (1 : Int32)), .val (.int (1 : Int32))] []))
      refine own_via (fun _ k => XS.iconst X79.here hx rfl (hb hby at_243) k) ?_
      show own_G _ _ _ _ (T79.setTop (mkF m 244 #[.val (.int i1), .val (.int i2), .val (.long j1), .second, .val (.long j2), .second, .val (.int i3), .val (.ref s1), .val (.ref s2), .val (.ref f), .val (.int (1 : Int32)), .val (.int (1 : Int32)), .val (.int (1 : Int32)), .val (.int (1 : Int32))] [(.int (0 : Int32))]))
      refine own_via (fun _ k => XS.istore X79.here hx rfl (hb hby at_244) rfl (l' := #[.val (.int i1), .val (.int i2), .val (.long j1), .second, .val (.long j2), .second, .val (.int i3), .val (.ref s1), .val (.ref s2), .val (.ref f), .val (.int (0 : Int32)), .val (.int (1 : Int32)), .val (.int (1 : Int32)), .val (.int (1 : Int32))]) rfl k) ?_
      show own_G _ _ _ _ (T79.setTop (mkF m 246 #[.val (.int i1), .val (.int i2), .val (.long j1), .second, .val (.long j2), .second, .val (.int i3), .val (.ref s1), .val (.ref s2), .val (.ref f), .val (.int (0 : Int32)), .val (.int (1 : Int32)), .val (.int (1 : Int32)), .val (.int (1 : Int32))] []))
      refine own_via (fun _ k => XS.iload X79.here hx rfl (hb hby at_246) rfl k) ?_
      show own_G _ _ _ _ (T79.setTop (mkF m 248 #[.val (.int i1), .val (.int i2), .val (.long j1), .second, .val (.long j2), .second, .val (.int i3), .val (.ref s1), .val (.ref s2), .val (.ref f), .val (.int (0 : Int32)), .val (.int (1 : Int32)), .val (.int (1 : Int32)), .val (.int (1 : Int32))] [(.int (1 : Int32))]))
      refine own_via (fun _ k => XS.ifNo X79.here hx rfl (hb hby at_248) rfl ((if0 _ _).trans (feq (by decide)).1) k) ?_
      show own_G _ _ _ _ (T79.setTop (mkF m 251 #[.val (.int i1), .val (.int i2), .val (.long j1), .second, .val (.long j2), .second, .val (.int i3), .val (.ref s1), .val (.ref s2), .val (.ref f), .val (.int (0 : Int32)), .val (.int (1 : Int32)), .val (.int (1 : Int32)), .val (.int (1 : Int32))] []))
      refine own_via (fun _ k => XS.aload X79.here hx rfl (hb hby at_251) rfl rfl k) ?_
      show own_G _ _ _ _ (T79.setTop (mkF m 253 #[.val (.int i1), .val (.int i2), .val (.long j1), .second, .val (.long j2), .second, .val (.int i3), .val (.ref s1), .val (.ref s2), .val (.ref f), .val (.int (0 : Int32)), .val (.int (1 : Int32)), .val (.int (1 : Int32)), .val (.int (1 : Int32))] [(.ref f)]))
      obtain ⟨cq80, kq80, q80a, q80b, q80c⟩ := isOf hZ rfl E_f
      obtain ⟨_, _, ⟨T80, L80, k80, n80⟩, -, X80, ⟨Lc80, hQ80, l80, y80, z80⟩, st80⟩ := X79.virtualBack hx (y := (⟨"com/example/rafterwire/rafterwire/radio/FaultLines", "isQuiet", "()Z"⟩ : MethodName)) (z := (⟨"com/example/rafterwire/rafterwire/radio/FaultLines", "isQuiet", "()Z"⟩ : MethodName)) hown (mvT hZ (hw _ (List.mem_of_getElem? (i := 33) rfl))) (mvT hZ (hw _ (List.mem_of_getElem? (i := 34) rfl))) (notFace_of_selects (args := #[]) (mvT hZ (hw _ (List.mem_of_getElem? (i := 36) rfl)))) (mvT hZ (hw _ (List.mem_of_getElem? (i := 36) rfl))) (mvT hZ (hw _ (List.mem_of_getElem? (i := 35) rfl))) (by decide) (backOf (W := 0) (rmq1 l Z a0 hw [] f s2 T79.heap n0 Z0 F_f_logged) hZ (hw _ (List.mem_of_getElem? (i := 37) rfl)) (hw _ (List.mem_of_getElem? (i := 28) rfl)) (by decide) (by decide)) q80a q80c (g := (mkF m 253 #[.val (.int i1), .val (.int i2), .val (.long j1), .second, .val (.long j2), .second, .val (.int i3), .val (.ref s1), .val (.ref s2), .val (.ref f), .val (.int (0 : Int32)), .val (.int (1 : Int32)), .val (.int (1 : Int32)), .val (.int (1 : Int32))] [(.ref f)])) rfl (by rw [hml]; rfl) (Steps.refl _) (argsL := []) (rest := []) (lenOf pd_10 rfl) rfl (by show 2 * 0 + _ ≤ _; exact Nat.le_of_eq rfl) (hb hby at_253) (fun _ _ => ⟨rfl, rfl, Nat.le_of_ble_eq_true rfl, Nat.le_of_ble_eq_true rfl⟩)
      dsimp only [Pt.U, Pt.locs, Pt.cells, Pt.slots] at X80 l80 y80 z80 st80 hQ80
      subst l80 y80 z80
      obtain ⟨rfl, N80q, e80⟩ := hQ80
      have N80 := Fr.app N79 N80q
      refine own_via (fun _ kt => st80.trans kt) ?_
      show own_G _ _ _ _ (T80.setTop (mkF m 256 #[.val (.int i1), .val (.int i2), .val (.long j1), .second, .val (.long j2), .second, .val (.int i3), .val (.ref s1), .val (.ref s2), .val (.ref f), .val (.int (0 : Int32)), .val (.int (1 : Int32)), .val (.int (1 : Int32)), .val (.int (1 : Int32))] [(.int (0 : Int32))]))
      refine own_via (fun _ k => XS.iload X80.here hx rfl (hb hby at_256) rfl k) ?_
      show own_G _ _ _ _ (T80.setTop (mkF m 258 #[.val (.int i1), .val (.int i2), .val (.long j1), .second, .val (.long j2), .second, .val (.int i3), .val (.ref s1), .val (.ref s2), .val (.ref f), .val (.int (0 : Int32)), .val (.int (1 : Int32)), .val (.int (1 : Int32)), .val (.int (1 : Int32))] [(.int (0 : Int32)), (.int (0 : Int32))]))
      refine own_via (fun _ k => XS.icmpNo X80.here hx rfl (hb hby at_258) rfl (teq (by decide)).2 k) ?_
      show own_G _ _ _ _ (T80.setTop (mkF m 261 #[.val (.int i1), .val (.int i2), .val (.long j1), .second, .val (.long j2), .second, .val (.int i3), .val (.ref s1), .val (.ref s2), .val (.ref f), .val (.int (0 : Int32)), .val (.int (1 : Int32)), .val (.int (1 : Int32)), .val (.int (1 : Int32))] []))
      refine own_via (fun _ k => XS.iconst X80.here hx rfl (hb hby at_261) k) ?_
      show own_G _ _ _ _ (T80.setTop (mkF m 262 #[.val (.int i1), .val (.int i2), .val (.long j1), .second, .val (.long j2), .second, .val (.int i3), .val (.ref s1), .val (.ref s2), .val (.ref f), .val (.int (0 : Int32)), .val (.int (1 : Int32)), .val (.int (1 : Int32)), .val (.int (1 : Int32))] [(.int (1 : Int32))]))
      refine own_via (fun _ k => XS.goto X80.here hx rfl (pc0 := 262) (pc' := 266) rfl (hb hby at_262) (by decide) (by decide) k) ?_
      show own_G _ _ _ _ (T80.setTop (mkF m 266 #[.val (.int i1), .val (.int i2), .val (.long j1), .second, .val (.long j2), .second, .val (.int i3), .val (.ref s1), .val (.ref s2), .val (.ref f), .val (.int (0 : Int32)), .val (.int (1 : Int32)), .val (.int (1 : Int32)), .val (.int (1 : Int32))] [(.int (1 : Int32))]))
      refine own_via (fun _ k => XS.istore X80.here hx rfl (hb hby at_266) rfl (l' := #[.val (.int i1), .val (.int i2), .val (.long j1), .second, .val (.long j2), .second, .val (.int i3), .val (.ref s1), .val (.ref s2), .val (.ref f), .val (.int (0 : Int32)), .val (.int (1 : Int32)), .val (.int (1 : Int32)), .val (.int (1 : Int32))]) rfl k) ?_
      show own_G _ _ _ _ (T80.setTop (mkF m 268 #[.val (.int i1), .val (.int i2), .val (.long j1), .second, .val (.long j2), .second, .val (.int i3), .val (.ref s1), .val (.ref s2), .val (.ref f), .val (.int (0 : Int32)), .val (.int (1 : Int32)), .val (.int (1 : Int32)), .val (.int (1 : Int32))] []))
      refine own_via (fun _ k => XS.iload X80.here hx rfl (hb hby at_268) rfl k) ?_
      show own_G _ _ _ _ (T80.setTop (mkF m 270 #[.val (.int i1), .val (.int i2), .val (.long j1), .second, .val (.long j2), .second, .val (.int i3), .val (.ref s1), .val (.ref s2), .val (.ref f), .val (.int (0 : Int32)), .val (.int (1 : Int32)), .val (.int (1 : Int32)), .val (.int (1 : Int32))] [(.int i3)]))
      refine own_via (fun _ k => XS.iconst X80.here hx rfl (hb hby at_270) k) ?_
      show own_G _ _ _ _ (T80.setTop (mkF m 271 #[.val (.int i1), .val (.int i2), .val (.long j1), .second, .val (.long j2), .second, .val (.int i3), .val (.ref s1), .val (.ref s2), .val (.ref f), .val (.int (0 : Int32)), .val (.int (1 : Int32)), .val (.int (1 : Int32)), .val (.int (1 : Int32))] [(.int (4 : Int32)), (.int i3)]))
      refine own_via (fun _ k => XS.iand X80.here hx rfl (hb hby at_271) rfl k) ?_
      show own_G _ _ _ _ (T80.setTop (mkF m 272 #[.val (.int i1), .val (.int i2), .val (.long j1), .second, .val (.long j2), .second, .val (.int i3), .val (.ref s1), .val (.ref s2), .val (.ref f), .val (.int (0 : Int32)), .val (.int (1 : Int32)), .val (.int (1 : Int32)), .val (.int (1 : Int32))] [(.int (i3 &&& (4 : Int32)))]))
      by_cases ho4 : (i3 &&& (4 : Int32)) = (0 : Int32)
      · refine own_via (fun _ k => XS.ifYes X80.here hx rfl (pc0 := 272) (pc' := 283) rfl (hb hby at_272) rfl ((if0 _ _).trans (teq ho4).1) (by decide) (by decide) k) ?_
        show own_G _ _ _ _ (T80.setTop (mkF m 283 #[.val (.int i1), .val (.int i2), .val (.long j1), .second, .val (.long j2), .second, .val (.int i3), .val (.ref s1), .val (.ref s2), .val (.ref f), .val (.int (0 : Int32)), .val (.int (1 : Int32)), .val (.int (1 : Int32)), .val (.int (1 : Int32))] []))
        refine own_via (fun _ k => XS.iload X80.here hx rfl (hb hby at_283) rfl k) ?_
        show own_G _ _ _ _ (T80.setTop (mkF m 285 #[.val (.int i1), .val (.int i2), .val (.long j1), .second, .val (.long j2), .second, .val (.int i3), .val (.ref s1), .val (.ref s2), .val (.ref f), .val (.int (0 : Int32)), .val (.int (1 : Int32)), .val (.int (1 : Int32)), .val (.int (1 : Int32))] [(.int (1 : Int32))]))
        refine own_via (fun _ k => XS.ifNo X80.here hx rfl (hb hby at_285) rfl ((if0 _ _).trans (feq (by decide)).1) k) ?_
        show own_G _ _ _ _ (T80.setTop (mkF m 288 #[.val (.int i1), .val (.int i2), .val (.long j1), .second, .val (.long j2), .second, .val (.int i3), .val (.ref s1), .val (.ref s2), .val (.ref f), .val (.int (0 : Int32)), .val (.int (1 : Int32)), .val (.int (1 : Int32)), .val (.int (1 : Int32))] []))
        refine own_via (fun _ k => XS.aload X80.here hx rfl (hb hby at_288) rfl rfl k) ?_
        show own_G _ _ _ _ (T80.setTop (mkF m 290 #[.val (.int i1), .val (.int i2), .val (.long j1), .second, .val (.long j2), .second, .val (.int i3), .val (.ref s1), .val (.ref s2), .val (.ref f), .val (.int (0 : Int32)), .val (.int (1 : Int32)), .val (.int (1 : Int32)), .val (.int (1 : Int32))] [(.ref f)]))
        obtain ⟨cq81, kq81, q81a, q81b, q81c⟩ := isOf hZ e80 E_f
        obtain ⟨_, _, ⟨T81, L81, k81, n81⟩, -, X81, ⟨Lc81, hQ81, l81, y81, z81⟩, st81⟩ := X80.virtualBack hx (y := (⟨"com/example/rafterwire/rafterwire/radio/FaultLines", "isQuiet", "()Z"⟩ : MethodName)) (z := (⟨"com/example/rafterwire/rafterwire/radio/FaultLines", "isQuiet", "()Z"⟩ : MethodName)) hown (mvT hZ (hw _ (List.mem_of_getElem? (i := 33) rfl))) (mvT hZ (hw _ (List.mem_of_getElem? (i := 34) rfl))) (notFace_of_selects (args := #[]) (mvT hZ (hw _ (List.mem_of_getElem? (i := 36) rfl)))) (mvT hZ (hw _ (List.mem_of_getElem? (i := 36) rfl))) (mvT hZ (hw _ (List.mem_of_getElem? (i := 35) rfl))) (by decide) (backOf (W := 0) (rmq1 l Z a0 hw [] f s2 T79.heap n0 Z0 F_f_logged) hZ (hw _ (List.mem_of_getElem? (i := 37) rfl)) (hw _ (List.mem_of_getElem? (i := 28) rfl)) (by decide) (by decide)) q81a q81c (g := (mkF m 290 #[.val (.int i1), .val (.int i2), .val (.long j1), .second, .val (.long j2), .second, .val (.int i3), .val (.ref s1), .val (.ref s2), .val (.ref f), .val (.int (0 : Int32)), .val (.int (1 : Int32)), .val (.int (1 : Int32)), .val (.int (1 : Int32))] [(.ref f)])) rfl (by rw [hml]; rfl) (Steps.refl _) (argsL := []) (rest := []) (lenOf pd_10 rfl) rfl (by show 2 * 0 + _ ≤ _; exact Nat.le_of_eq rfl) (hb hby at_290) (fun _ _ => ⟨rfl, e80, Nat.le_of_ble_eq_true rfl, Nat.le_of_ble_eq_true rfl⟩)
        dsimp only [Pt.U, Pt.locs, Pt.cells, Pt.slots] at X81 l81 y81 z81 st81 hQ81
        subst l81 y81 z81
        obtain ⟨rfl, N81q, e81⟩ := hQ81
        have N81 := Fr.app N80 N81q
        refine own_via (fun _ kt => st81.trans kt) ?_
        show own_G _ _ _ _ (T81.setTop (mkF m 293 #[.val (.int i1), .val (.int i2), .val (.long j1), .second, .val (.long j2), .second, .val (.int i3), .val (.ref s1), .val (.ref s2), .val (.ref f), .val (.int (0 : Int32)), .val (.int (1 : Int32)), .val (.int (1 : Int32)), .val (.int (1 : Int32))] [(.int (0 : Int32))]))
        refine own_via (fun _ k => XS.iload X81.here hx rfl (hb hby at_293) rfl k) ?_
        show own_G _ _ _ _ (T81.setTop (mkF m 295 #[.val (.int i1), .val (.int i2), .val (.long j1), .second, .val (.long j2), .second, .val (.int i3), .val (.ref s1), .val (.ref s2), .val (.ref f), .val (.int (0 : Int32)), .val (.int (1 : Int32)), .val (.int (1 : Int32)), .val (.int (1 : Int32))] [(.int (0 : Int32)), (.int (0 : Int32))]))
        refine own_via (fun _ k => XS.icmpNo X81.here hx rfl (hb hby at_295) rfl (teq (by decide)).2 k) ?_
        show own_G _ _ _ _ (T81.setTop (mkF m 298 #[.val (.int i1), .val (.int i2), .val (.long j1), .second, .val (.long j2), .second, .val (.int i3), .val (.ref s1), .val (.ref s2), .val (.ref f), .val (.int (0 : Int32)), .val (.int (1 : Int32)), .val (.int (1 : Int32)), .val (.int (1 : Int32))] []))
        refine own_via (fun _ k => XS.iconst X81.here hx rfl (hb hby at_298) k) ?_
        show own_G _ _ _ _ (T81.setTop (mkF m 299 #[.val (.int i1), .val (.int i2), .val (.long j1), .second, .val (.long j2), .second, .val (.int i3), .val (.ref s1), .val (.ref s2), .val (.ref f), .val (.int (0 : Int32)), .val (.int (1 : Int32)), .val (.int (1 : Int32)), .val (.int (1 : Int32))] [(.int (1 : Int32))]))
        refine own_via (fun _ k => XS.goto X81.here hx rfl (pc0 := 299) (pc' := 303) rfl (hb hby at_299) (by decide) (by decide) k) ?_
        show own_G _ _ _ _ (T81.setTop (mkF m 303 #[.val (.int i1), .val (.int i2), .val (.long j1), .second, .val (.long j2), .second, .val (.int i3), .val (.ref s1), .val (.ref s2), .val (.ref f), .val (.int (0 : Int32)), .val (.int (1 : Int32)), .val (.int (1 : Int32)), .val (.int (1 : Int32))] [(.int (1 : Int32))]))
        refine own_via (fun _ k => XS.istore X81.here hx rfl (hb hby at_303) rfl (l' := #[.val (.int i1), .val (.int i2), .val (.long j1), .second, .val (.long j2), .second, .val (.int i3), .val (.ref s1), .val (.ref s2), .val (.ref f), .val (.int (0 : Int32)), .val (.int (1 : Int32)), .val (.int (1 : Int32)), .val (.int (1 : Int32))]) rfl k) ?_
        show own_G _ _ _ _ (T81.setTop (mkF m 305 #[.val (.int i1), .val (.int i2), .val (.long j1), .second, .val (.long j2), .second, .val (.int i3), .val (.ref s1), .val (.ref s2), .val (.ref f), .val (.int (0 : Int32)), .val (.int (1 : Int32)), .val (.int (1 : Int32)), .val (.int (1 : Int32))] []))
        refine own_via (fun _ k => XS.iload X81.here hx rfl (hb hby at_305) rfl k) ?_
        show own_G _ _ _ _ (T81.setTop (mkF m 307 #[.val (.int i1), .val (.int i2), .val (.long j1), .second, .val (.long j2), .second, .val (.int i3), .val (.ref s1), .val (.ref s2), .val (.ref f), .val (.int (0 : Int32)), .val (.int (1 : Int32)), .val (.int (1 : Int32)), .val (.int (1 : Int32))] [(.int (1 : Int32))]))
        obtain ⟨fs, hr, hrun, hended, hW, hsame⟩ := X81.leave (v := some (.int (1 : Int32))) (fun h => by rw [Bd.returns] at h; cases h)
        exact ⟨_, _, retN X81 hx (t := .boolean) Bd.returns (by simp) (hb hby at_307) hr, hrun, hended, _, _, rfl, ⟨rfl, N81⟩, ⟨_, rfl⟩, hW, hsame.mono (by decide) (by decide)⟩
      · refine own_via (fun _ k => XS.ifNo X80.here hx rfl (hb hby at_272) rfl ((if0 _ _).trans (feq ho4).1) k) ?_
        show own_G _ _ _ _ (T80.setTop (mkF m 275 #[.val (.int i1), .val (.int i2), .val (.long j1), .second, .val (.long j2), .second, .val (.int i3), .val (.ref s1), .val (.ref s2), .val (.ref f), .val (.int (0 : Int32)), .val (.int (1 : Int32)), .val (.int (1 : Int32)), .val (.int (1 : Int32))] []))
        refine own_via (fun _ k => XS.aload X80.here hx rfl (hb hby at_275) rfl rfl k) ?_
        show own_G _ _ _ _ (T80.setTop (mkF m 277 #[.val (.int i1), .val (.int i2), .val (.long j1), .second, .val (.long j2), .second, .val (.int i3), .val (.ref s1), .val (.ref s2), .val (.ref f), .val (.int (0 : Int32)), .val (.int (1 : Int32)), .val (.int (1 : Int32)), .val (.int (1 : Int32))] [(.ref f)]))
        obtain ⟨cq82, kq82, q82a, q82b, q82c⟩ := isOf hZ e80 E_f
        obtain ⟨_, _, ⟨T82, L82, k82, n82⟩, -, X82, ⟨Lc82, hQ82, l82, y82, z82⟩, st82⟩ := X80.virtualBack hx (y := (⟨"com/example/rafterwire/rafterwire/radio/FaultLines", "reset", "()V"⟩ : MethodName)) (z := (⟨"com/example/rafterwire/rafterwire/radio/FaultLines", "reset", "()V"⟩ : MethodName)) hown (mvT hZ (hw _ (List.mem_of_getElem? (i := 47) rfl))) (mvT hZ (hw _ (List.mem_of_getElem? (i := 48) rfl))) (notFace_of_selects (args := #[]) (mvT hZ (hw _ (List.mem_of_getElem? (i := 50) rfl)))) (mvT hZ (hw _ (List.mem_of_getElem? (i := 50) rfl))) (mvT hZ (hw _ (List.mem_of_getElem? (i := 49) rfl))) (by decide) (backOf (W := 0) (rmrs l Z a0 hw [] f (.ref s2) j2 T79.heap n0 Z0 E_f F_f_logged F_f_loggedAt g_f) hZ (hw _ (List.mem_of_getElem? (i := 51) rfl)) (hw _ (List.mem_of_getElem? (i := 28) rfl)) (by decide) (by decide)) q82a q82c (g := (mkF m 277 #[.val (.int i1), .val (.int i2), .val (.long j1), .second, .val (.long j2), .second, .val (.int i3), .val (.ref s1), .val (.ref s2), .val (.ref f), .val (.int (0 : Int32)), .val (.int (1 : Int32)), .val (.int (1 : Int32)), .val (.int (1 : Int32))] [(.ref f)])) rfl (by rw [hml]; rfl) (Steps.refl _) (argsL := []) (rest := []) (lenOf pd_9 rfl) rfl (by show 2 * 0 + _ ≤ _; exact Nat.le_of_eq rfl) (hb hby at_277) (fun _ _ => ⟨rfl, e80, Nat.le_of_ble_eq_true rfl, Nat.le_of_ble_eq_true rfl⟩)
        dsimp only [Pt.U, Pt.locs, Pt.cells, Pt.slots] at X82 l82 y82 z82 st82 hQ82
        subst l82 y82 z82
        obtain ⟨rfl, N82q, K82, -, F_f_logged, F_f_loggedAt⟩ := hQ82
        have N82 := Fr.app N80 N82q
        have S_c := own_sta1 S_c E_f K82
        have S_i := own_sta1 S_i E_f K82
        have E_du := E_du.keep K82
        have F_du_seconds := F_du_seconds.keep K82 (by simp [ne_du_f])
        have F_du_nanos := F_du_nanos.keep K82 (by simp [ne_du_f])
        have E_s1 := E_s1.keep K82
        have F_s1_value := F_s1_value.keep K82 (by simp [ne_s1_f])
        have F_s1_coder := F_s1_coder.keep K82 (by simp [ne_s1_f])
        have V_t1 := V_t1.keep K82 (by simp [ne_t1_f])
        have E_s2 := E_s2.keep K82
        have F_s2_value := F_s2_value.keep K82 (by simp [ne_s2_f])
        have F_s2_coder := F_s2_coder.keep K82 (by simp [ne_s2_f])
        have V_t2 := V_t2.keep K82 (by simp [ne_t2_f])
        have E_f := E_f.keep K82
        have Z0 := Nat.le_trans Z0 K82.1
        refine own_via (fun _ kt => st82.trans kt) ?_
        show own_G _ _ _ _ (T82.setTop (mkF m 280 #[.val (.int i1), .val (.int i2), .val (.long j1), .second, .val (.long j2), .second, .val (.int i3), .val (.ref s1), .val (.ref s2), .val (.ref f), .val (.int (0 : Int32)), .val (.int (1 : Int32)), .val (.int (1 : Int32)), .val (.int (1 : Int32))] []))
        refine own_via (fun _ k => XS.iconst X82.here hx rfl (hb hby at_280) k) ?_
        show own_G _ _ _ _ (T82.setTop (mkF m 281 #[.val (.int i1), .val (.int i2), .val (.long j1), .second, .val (.long j2), .second, .val (.int i3), .val (.ref s1), .val (.ref s2), .val (.ref f), .val (.int (0 : Int32)), .val (.int (1 : Int32)), .val (.int (1 : Int32)), .val (.int (1 : Int32))] [(.int (1 : Int32))]))
        refine own_via (fun _ k => XS.istore X82.here hx rfl (hb hby at_281) rfl (l' := #[.val (.int i1), .val (.int i2), .val (.long j1), .second, .val (.long j2), .second, .val (.int i3), .val (.ref s1), .val (.ref s2), .val (.ref f), .val (.int (1 : Int32)), .val (.int (1 : Int32)), .val (.int (1 : Int32)), .val (.int (1 : Int32))]) rfl k) ?_
        show own_G _ _ _ _ (T82.setTop (mkF m 283 #[.val (.int i1), .val (.int i2), .val (.long j1), .second, .val (.long j2), .second, .val (.int i3), .val (.ref s1), .val (.ref s2), .val (.ref f), .val (.int (1 : Int32)), .val (.int (1 : Int32)), .val (.int (1 : Int32)), .val (.int (1 : Int32))] []))
        refine own_via (fun _ k => XS.iload X82.here hx rfl (hb hby at_283) rfl k) ?_
        show own_G _ _ _ _ (T82.setTop (mkF m 285 #[.val (.int i1), .val (.int i2), .val (.long j1), .second, .val (.long j2), .second, .val (.int i3), .val (.ref s1), .val (.ref s2), .val (.ref f), .val (.int (1 : Int32)), .val (.int (1 : Int32)), .val (.int (1 : Int32)), .val (.int (1 : Int32))] [(.int (1 : Int32))]))
        refine own_via (fun _ k => XS.ifNo X82.here hx rfl (hb hby at_285) rfl ((if0 _ _).trans (feq (by decide)).1) k) ?_
        show own_G _ _ _ _ (T82.setTop (mkF m 288 #[.val (.int i1), .val (.int i2), .val (.long j1), .second, .val (.long j2), .second, .val (.int i3), .val (.ref s1), .val (.ref s2), .val (.ref f), .val (.int (1 : Int32)), .val (.int (1 : Int32)), .val (.int (1 : Int32)), .val (.int (1 : Int32))] []))
        refine own_via (fun _ k => XS.aload X82.here hx rfl (hb hby at_288) rfl rfl k) ?_
        show own_G _ _ _ _ (T82.setTop (mkF m 290 #[.val (.int i1), .val (.int i2), .val (.long j1), .second, .val (.long j2), .second, .val (.int i3), .val (.ref s1), .val (.ref s2), .val (.ref f), .val (.int (1 : Int32)), .val (.int (1 : Int32)), .val (.int (1 : Int32)), .val (.int (1 : Int32))] [(.ref f)]))
        obtain ⟨cq83, kq83, q83a, q83b, q83c⟩ := isOf hZ rfl E_f
        obtain ⟨_, _, ⟨T83, L83, k83, n83⟩, -, X83, ⟨Lc83, hQ83, l83, y83, z83⟩, st83⟩ := X82.virtualBack hx (y := (⟨"com/example/rafterwire/rafterwire/radio/FaultLines", "isQuiet", "()Z"⟩ : MethodName)) (z := (⟨"com/example/rafterwire/rafterwire/radio/FaultLines", "isQuiet", "()Z"⟩ : MethodName)) hown (mvT hZ (hw _ (List.mem_of_getElem? (i := 33) rfl))) (mvT hZ (hw _ (List.mem_of_getElem? (i := 34) rfl))) (notFace_of_selects (args := #[]) (mvT hZ (hw _ (List.mem_of_getElem? (i := 36) rfl)))) (mvT hZ (hw _ (List.mem_of_getElem? (i := 36) rfl))) (mvT hZ (hw _ (List.mem_of_getElem? (i := 35) rfl))) (by decide) (backOf (W := 0) (rmq0 l Z a0 hw [] f T82.heap n0 Z0 F_f_logged) hZ (hw _ (List.mem_of_getElem? (i := 37) rfl)) (hw _ (List.mem_of_getElem? (i := 28) rfl)) (by decide) (by decide)) q83a q83c (g := (mkF m 290 #[.val (.int i1), .val (.int i2), .val (.long j1), .second, .val (.long j2), .second, .val (.int i3), .val (.ref s1), .val (.ref s2), .val (.ref f), .val (.int (1 : Int32)), .val (.int (1 : Int32)), .val (.int (1 : Int32)), .val (.int (1 : Int32))] [(.ref f)])) rfl (by rw [hml]; rfl) (Steps.refl _) (argsL := []) (rest := []) (lenOf pd_10 rfl) rfl (by show 2 * 0 + _ ≤ _; exact Nat.le_of_eq rfl) (hb hby at_290) (fun _ _ => ⟨rfl, rfl, Nat.le_of_ble_eq_true rfl, Nat.le_of_ble_eq_true rfl⟩)
        dsimp only [Pt.U, Pt.locs, Pt.cells, Pt.slots] at X83 l83 y83 z83 st83 hQ83
        subst l83 y83 z83
        obtain ⟨rfl, N83q, e83⟩ := hQ83
        have N83 := Fr.app N82 N83q
        refine own_via (fun _ kt => st83.trans kt) ?_
        show own_G _ _ _ _ (T83.setTop (mkF m 293 #[.val (.int i1), .val (.int i2), .val (.long j1), .second, .val (.long j2), .second, .val (.int i3), .val (.ref s1), .val (.ref s2), .val (.ref f), .val (.int (1 : Int32)), .val (.int (1 : Int32)), .val (.int (1 : Int32)), .val (.int (1 : Int32))] [(.int (1 : Int32))]))
        refine own_via (fun _ k => XS.iload X83.here hx rfl (hb hby at_293) rfl k) ?_
        show own_G _ _ _ _ (T83.setTop (mkF m 295 #[.val (.int i1), .val (.int i2), .val (.long j1), .second, .val (.long j2), .second, .val (.int i3), .val (.ref s1), .val (.ref s2), .val (.ref f), .val (.int (1 : Int32)), .val (.int (1 : Int32)), .val (.int (1 : Int32)), .val (.int (1 : Int32))] [(.int (1 : Int32)), (.int (1 : Int32))]))
        refine own_via (fun _ k => XS.icmpNo X83.here hx rfl (hb hby at_295) rfl (teq (by decide)).2 k) ?_
        show own_G _ _ _ _ (T83.setTop (mkF m 298 #[.val (.int i1), .val (.int i2), .val (.long j1), .second, .val (.long j2), .second, .val (.int i3), .val (.ref s1), .val (.ref s2), .val (.ref f), .val (.int (1 : Int32)), .val (.int (1 : Int32)), .val (.int (1 : Int32)), .val (.int (1 : Int32))] []))
        refine own_via (fun _ k => XS.iconst X83.here hx rfl (hb hby at_298) k) ?_
        show own_G _ _ _ _ (T83.setTop (mkF m 299 #[.val (.int i1), .val (.int i2), .val (.long j1), .second, .val (.long j2), .second, .val (.int i3), .val (.ref s1), .val (.ref s2), .val (.ref f), .val (.int (1 : Int32)), .val (.int (1 : Int32)), .val (.int (1 : Int32)), .val (.int (1 : Int32))] [(.int (1 : Int32))]))
        refine own_via (fun _ k => XS.goto X83.here hx rfl (pc0 := 299) (pc' := 303) rfl (hb hby at_299) (by decide) (by decide) k) ?_
        show own_G _ _ _ _ (T83.setTop (mkF m 303 #[.val (.int i1), .val (.int i2), .val (.long j1), .second, .val (.long j2), .second, .val (.int i3), .val (.ref s1), .val (.ref s2), .val (.ref f), .val (.int (1 : Int32)), .val (.int (1 : Int32)), .val (.int (1 : Int32)), .val (.int (1 : Int32))] [(.int (1 : Int32))]))
        refine own_via (fun _ k => XS.istore X83.here hx rfl (hb hby at_303) rfl (l' := #[.val (.int i1), .val (.int i2), .val (.long j1), .second, .val (.long j2), .second, .val (.int i3), .val (.ref s1), .val (.ref s2), .val (.ref f), .val (.int (1 : Int32)), .val (.int (1 : Int32)), .val (.int (1 : Int32)), .val (.int (1 : Int32))]) rfl k) ?_
        show own_G _ _ _ _ (T83.setTop (mkF m 305 #[.val (.int i1), .val (.int i2), .val (.long j1), .second, .val (.long j2), .second, .val (.int i3), .val (.ref s1), .val (.ref s2), .val (.ref f), .val (.int (1 : Int32)), .val (.int (1 : Int32)), .val (.int (1 : Int32)), .val (.int (1 : Int32))] []))
        refine own_via (fun _ k => XS.iload X83.here hx rfl (hb hby at_305) rfl k) ?_
        show own_G _ _ _ _ (T83.setTop (mkF m 307 #[.val (.int i1), .val (.int i2), .val (.long j1), .second, .val (.long j2), .second, .val (.int i3), .val (.ref s1), .val (.ref s2), .val (.ref f), .val (.int (1 : Int32)), .val (.int (1 : Int32)), .val (.int (1 : Int32)), .val (.int (1 : Int32))] [(.int (1 : Int32))]))
        obtain ⟨fs, hr, hrun, hended, hW, hsame⟩ := X83.leave (v := some (.int (1 : Int32))) (fun h => by rw [Bd.returns] at h; cases h)
        exact ⟨_, _, retN X83 hx (t := .boolean) Bd.returns (by simp) (hb hby at_307) hr, hrun, hended, _, _, rfl, ⟨rfl, N83⟩, ⟨_, rfl⟩, hW, hsame.mono (by decide) (by decide)⟩
set_option maxRecDepth 65536 in
set_option maxHeartbeats 40000000 in
theorem comes_1 {Post : Tables → Env → Array Value → State → Outcome → State → Prop} (hpost : ∀ tb e args s v u, (limb_1_1.after args s (.returned v) u = true ∧ limb_1_2.after args s (.returned v) u = true ∧ True) → FrameEnd s (.returned v) u (Jvm.fieldLocs frame_1_writes args s ++ Jvm.arrayLocs frame_1_arrays args s ++ Jvm.staticLocs frame_1_statics s) 24 128 → Post tb e args s (.returned v) u) :
    ArmFor flags0 classFile x code maxLocals ret World_1 tables_1 room_1 Calls_1 rest_1 Pre_1 Post := by
  intro l hfl _ _ p e ha hc hk s m args below hf hA hF happ hP
  obtain ⟨hcalls, hrest, hpre⟩ := hP
  obtain ⟨-, -, -, hnamed, -, -, -, hat⟩ := (Spec.applies_iff hf).mp happ
  have hall := flat_of_before _ (show (Jvm.Cond.and given_1 narrow_1).before args s = true from hpre)
  have hKK : own_Kinds [.int, .int, .long, .long, .int] args := by
    refine own_Kinds_of (s := s) ?_ fun q hq => hall q ?_
    · have := hall (.count 5) (by simp [flatC, given_1])
      simpa [Cond.before, Cond.holds, Cond.value] using this
    · have hf : flatC (Jvm.Cond.and given_1 narrow_1) = .count 5 :: (Jvm.Sym.sorts 0 [.int, .int, .long, .long, .int] ++ flatC narrow_1) := rfl
      rw [hf]; exact List.mem_cons_of_mem _ (List.mem_append_left _ hq)
  obtain ⟨v0, v1, v2, v3, v4, rfl, q0, q1, q2, q3, q4⟩ := own_k5 hKK
  obtain ⟨i1, rfl⟩ := own_int q0
  obtain ⟨i2, rfl⟩ := own_int q1
  obtain ⟨j1, rfl⟩ := own_long q2
  obtain ⟨j2, rfl⟩ := own_long q3
  obtain ⟨i3, rfl⟩ := own_int q4
  have hw := fun d (hd : d ∈ tables_1) => atoms_spec (ws := Jvm.Cond.code x code maxLocals ret :: tables_1) hat d (List.mem_cons_of_mem _ hd)
  obtain ⟨hsets, hown0⟩ := atoms_of _ (rest_1_c_eq ▸ (show rest_1_c.before _ s = true from hrest))
  obtain ⟨cs, ecs⟩ := is_v (Cond.before_iff.mp (hsets _ (List.mem_of_getElem? (i := 1) rfl)))
  have S_c : Sta s s.heap "java/lang/String" "COMPACT_STRINGS" "Z" (.int cs) := Sta.start ecs (Or.inl (hsets _ (List.mem_of_getElem? (i := 0) rfl)))
  have hcs : ¬ cs = (0 : Int32) := fun q => by
    have n3 := not_v (Cond.before_iff.mp (hsets _ (List.mem_of_getElem? (i := 2) rfl)))
    subst q
    simp [Cond.value, ecs, Term.int_eval] at n3
  obtain ⟨-, hn⟩ := and_e (Cond.before_iff.mp (show (Jvm.Cond.and given_1 narrow_1).before _ s = true from hpre))
  obtain ⟨hn1, hn2⟩ := and_e hn
  obtain ⟨hn2, hn3⟩ := and_e hn2
  obtain ⟨du, edu⟩ := exa_v hn1
  have E_du := exa_at edu hn1
  have S_i : Sta s s.heap "com/example/rafterwire/rafterwire/radio/FaultLines" "INTERVAL" "Ljava/time/Duration;" (.ref du) := Sta.start edu (Or.inr ⟨hw _ (List.mem_of_getElem? (i := 28) rfl), hw _ (List.mem_of_getElem? (i := 61) rfl)⟩)
  have F_du_seconds : Fld s s.heap du "java/time/Duration" "seconds" "J" (.long 10) := by
    obtain ⟨y, e1, e2⟩ := Cond.eq_one (Cond.before_iff.mpr hn2)
    cases e2
    exact Fld.start ((fld_at edu).symm.trans e1)
  have F_du_nanos : Fld s s.heap du "java/time/Duration" "nanos" "I" (.int 0) := by
    obtain ⟨y, e1, e2⟩ := Cond.eq_one (Cond.before_iff.mpr hn3)
    cases e2
    exact Fld.start ((fld_at edu).symm.trans e1)
  obtain ⟨n, o, h1, h2, h3, _, L, rfl, ⟨rfl, N⟩, hq⟩ := rm0 l s _ hw tables_1 i1 i2 j1 j2 i3 s.heap s.heap.size (Nat.le_refl _) cs du S_c hcs S_i E_du F_du_seconds F_du_nanos p e ha hc hk s m _ below hf ((Spec.applies_iff_loose hf).mp happ).1 ⟨rfl, State.Warmed39.refl s, rfl⟩ trivial
  refine ⟨n, _, h1, h2, h3, hpost _ _ _ _ _ _ ⟨Cond.after_iff.mpr rfl, Cond.after_iff.mpr (eq_i res_at (Term.int_eval (1)) rfl), trivial⟩ ⟨hq.1, hq.2.1, (hq.2.2.sift fun y hy => Or.inr (N y hy)).mono (by decide) (by decide)⟩⟩
theorem main_1_1 : Claimed_1_1 := comes_1 fun _ _ _ _ _ _ h hF => ⟨h.1, hF⟩
theorem main_1_2 : Claimed_1_2 := comes_1 fun _ _ _ _ _ _ h hF => ⟨h.2.1, hF⟩
end Jvm.Pilot.@@N@@
namespace Jvm.Pilot.@@N@@
open Jvm Jvm.ClassFile Sem Op Lib Jvm.Free Jvm.Stand Jvm.Pilot.@@N@@.Jvm.D
/-! MADE BY PROGRAM (witnessworld.py) out of the Statement's table words and the real class files: 20 classes; the members and pool entries that the words name. The judged class is class 1, her method 1. -/
namespace start1
open Jvm.ClassFile
def u (s : String) : CpInfo := .utf8 (stringToUtf16 s)
/-- a pool by its gaps: so many unusable entries, then the entry; so many at the end -/
def gap : Nat → List CpInfo → List CpInfo
  | 0, r => r
  | n + 1, r => .unusable :: gap n r
def poolList (es : List (Nat × CpInfo)) (last : Nat) : List CpInfo := es.foldr (fun e r => gap e.1 (e.2 :: r)) (gap last [])
def pool (es : List (Nat × CpInfo)) (last : Nat) : Array CpInfo := ⟨poolList es last⟩
def fileOf (pool : Array CpInfo) (this : Nat) (attrs : Array Attribute := #[]) (ms : Array MethodInfo := #[]) (fl : Nat := 33) (sup : Nat := 0) (ifs : Array Nat := #[]) (fds : Array FieldInfo := #[]) : ClassFile where
  minorVersion := 0
  majorVersion := 65
  constantPool := pool
  accessFlags := fl
  thisClass := this
  superClass := sup
  interfaces := ifs
  fields := fds
  methods := ms
  attributes := attrs
def plain (name : String) (sup : Option ClassId) : Class where
  name := name
  kind := .ordinary
  loader := none
  accessFlags := 33
  super := sup
  interfaces := #[]
  cf := none
  fields := #[]
  methods := #[]
  instanceTypes := #[]
  staticTypes := #[]
  resolved := #[]
  callSites := []
  init := .initialized
  statics := none
  mirror := none

def pool0 : Array CpInfo := pool [(5, u "<init>"), (0, u "()V"), (1, .class_ 10), (1, u "java/lang/Object")] 113

def k0c0 : Code := { maxStack := 0, maxLocals := 1, code := object_method_1_code, exceptionTable := #[], attributes := #[] }
def k0m0 : Method := { name := "<init>", desc := "()V", sig := { parameters := [], returnType := none }, accessFlags := 1, code := some k0c0 }
/-- java/lang/Object -/
def k0 : Class := { plain "java/lang/Object" none with
  accessFlags := 33
  interfaces := #[]
  cf := some (fileOf pool0 8 #[] #[{ accessFlags := 1, nameIndex := 5, descriptorIndex := 6, attributes := #[] }] 33 0 #[] #[])
  fields := #[]
  methods := #[k0m0]
  instanceTypes := #[]
  staticTypes := #[]
  resolved := Array.replicate 124 none
  statics := none }

def pool1 : Array CpInfo := pool [(2, .class_ 4), (0, .nameAndType 5 6), (0, u "java/lang/Object"), (0, u "<init>"), (0, u "()V"), (0, .methodref 8 9), (0, .class_ 10), (0, .nameAndType 11 12), (0, u "java/lang/String"), (0, u "valueOf"), (0, u "(C)Ljava/lang/String;"), (0, .class_ 14), (0, u "com/example/rafterwire/rafterwire/radio/FaultLines"), (0, .methodref 13 3), (0, .methodref 13 17), (0, .nameAndType 18 19), (0, u "isQuiet"), (0, u "()Z"), (0, .methodref 13 21), (0, .nameAndType 22 6), (0, u "reset"), (0, .methodref 13 24), (0, .nameAndType 25 26), (0, u "take"), (0, u "(Ljava/lang/String;J)Z"), (0, .class_ 28), (0, u "com/example/rafterwire/rafterwire/radio/FaultLinesIsQuietPinLaw"), (2, u "law"), (0, u "(IIJJI)Z")] 3

def k1m0 : Method := { name := "<init>", desc := "()V", sig := { parameters := [], returnType := none }, accessFlags := 1, code := none }
def k1c1 : Code := { maxStack := 4, maxLocals := 14, code := code, exceptionTable := #[], attributes := #[] }
def k1m1 : Method := { name := "law", desc := "(IIJJI)Z", sig := { parameters := [.int, .int, .long, .long, .int], returnType := some .boolean }, accessFlags := 9, code := some k1c1 }
/-- com/example/rafterwire/rafterwire/radio/FaultLinesIsQuietPinLaw -/
def k1 : Class := { plain "com/example/rafterwire/rafterwire/radio/FaultLinesIsQuietPinLaw" (some 0) with
  accessFlags := 49
  interfaces := #[]
  cf := some (fileOf pool1 27 #[] #[{ accessFlags := 1, nameIndex := 5, descriptorIndex := 6, attributes := #[] }, { accessFlags := 9, nameIndex := 31, descriptorIndex := 32, attributes := #[] }] 49 2 #[] #[])
  fields := #[]
  methods := #[k1m0, k1m1]
  instanceTypes := #[]
  staticTypes := #[]
  resolved := Array.replicate 36 none
  statics := none }

def pool2 : Array CpInfo := pool [(1, .class_ 2), (0, u "java/io/Serializable"), (0, .class_ 4), (0, u "java/lang/Object")] 2

/-- java/io/Serializable -/
def k2 : Class := { plain "java/io/Serializable" (some 0) with
  accessFlags := 1537
  interfaces := #[]
  cf := some (fileOf pool2 1 #[] #[] 1537 3 #[] #[])
  fields := #[]
  methods := #[]
  instanceTypes := #[]
  staticTypes := #[]
  resolved := Array.replicate 7 none
  statics := none }

def pool3 : Array CpInfo := pool [(1, .class_ 2), (0, u "java/lang/Comparable"), (0, .class_ 4), (0, u "java/lang/Object")] 7

/-- java/lang/Comparable -/
def k3 : Class := { plain "java/lang/Comparable" (some 0) with
  accessFlags := 1537
  interfaces := #[]
  cf := some (fileOf pool3 1 #[] #[] 1537 3 #[] #[])
  fields := #[]
  methods := #[]
  instanceTypes := #[]
  staticTypes := #[]
  resolved := Array.replicate 12 none
  statics := none }

def pool4 : Array CpInfo := pool [(2, .class_ 4), (1, u "java/lang/CharSequence"), (42, .class_ 48), (0, u "java/lang/CharSequence$1CodePointIterator"), (10, .class_ 60), (0, u "java/lang/CharSequence$1CharIterator"), (5, .class_ 67), (0, u "java/lang/Object")] 63

/-- java/lang/CharSequence -/
def k4 : Class := { plain "java/lang/CharSequence" (some 0) with
  accessFlags := 1537
  interfaces := #[]
  cf := some (fileOf pool4 2 #[.nestMembers #[47, 59]] #[] 1537 66 #[] #[])
  fields := #[]
  methods := #[]
  instanceTypes := #[]
  staticTypes := #[]
  resolved := Array.replicate 131 none
  statics := none }

def pool5 : Array CpInfo := pool [(1, .class_ 2), (0, u "java/lang/constant/Constable"), (0, .class_ 4), (0, u "java/lang/Object")] 6

/-- java/lang/constant/Constable -/
def k5 : Class := { plain "java/lang/constant/Constable" (some 0) with
  accessFlags := 1537
  interfaces := #[]
  cf := some (fileOf pool5 1 #[] #[] 1537 3 #[] #[])
  fields := #[]
  methods := #[]
  instanceTypes := #[]
  staticTypes := #[]
  resolved := Array.replicate 11 none
  statics := none }

def pool6 : Array CpInfo := pool [(1, .class_ 2), (0, u "java/lang/constant/ConstantDesc"), (0, .class_ 4), (0, u "java/lang/Object")] 32

/-- java/lang/constant/ConstantDesc -/
def k6 : Class := { plain "java/lang/constant/ConstantDesc" (some 0) with
  accessFlags := 1537
  interfaces := #[]
  cf := some (fileOf pool6 1 #[] #[] 1537 3 #[] #[])
  fields := #[]
  methods := #[]
  instanceTypes := #[]
  staticTypes := #[]
  resolved := Array.replicate 37 none
  statics := none }

def pool7 : Array CpInfo := pool [(1, .methodref 2 3), (0, .class_ 4), (0, .nameAndType 5 6), (0, u "java/lang/Object"), (0, u "<init>"), (0, u "()V"), (2, .fieldref 10 11), (0, .class_ 12), (0, .nameAndType 13 14), (0, u "java/lang/String"), (0, u "value"), (0, u "[B"), (0, .fieldref 10 16), (0, .nameAndType 17 18), (0, u "coder"), (0, u "B"), (2, u "hash"), (0, u "I"), (2, u "hashIsZero"), (0, u "Z"), (11, .fieldref 10 39), (0, .nameAndType 40 26), (0, u "COMPACT_STRINGS"), (12, u "toBytes"), (53, .class_ 109), (1, u "java/lang/StringLatin1"), (99, .methodref 10 210), (0, .nameAndType 5 211), (0, u "([BB)V"), (157, u "(C)Z"), (171, .methodref 107 542), (0, .nameAndType 543 544), (0, u "equals"), (0, u "([B[B)Z"), (28, u "(Ljava/lang/Object;)Z"), (1, .class_ 576), (0, u "java/lang/CharSequence"), (22, u "CASE_INSENSITIVE_ORDER"), (0, u "Ljava/util/Comparator;"), (181, u "valueOf"), (0, u "(C)Ljava/lang/String;"), (231, .methodref 107 1016), (0, .nameAndType 1017 369), (0, u "canEncode"), (0, .methodref 107 1019), (0, .nameAndType 53 1020), (0, u "(C)[B"), (80, u "serialPersistentFields"), (0, u "[Ljava/io/ObjectStreamField;"), (0, .class_ 1104), (0, u "java/lang/String$CaseInsensitiveComparator"), (1, .class_ 1107), (0, u "java/io/Serializable"), (0, .class_ 1109), (0, u "java/lang/Comparable"), (0, .class_ 1111), (0, u "java/lang/constant/Constable"), (0, .class_ 1113), (0, u "java/lang/constant/ConstantDesc"), (2, u "serialVersionUID"), (0, u "J"), (3, u "REPL"), (0, u "C"), (2, u "LATIN1"), (1, u "UTF16")] 323

def k7m0 : Method := { name := "<init>", desc := "()V", sig := { parameters := [], returnType := none }, accessFlags := 1, code := none }
def k7c1 : Code := { maxStack := 2, maxLocals := 3, code := jdk_42_method_66_code, exceptionTable := #[], attributes := #[] }
def k7m1 : Method := { name := "equals", desc := "(Ljava/lang/Object;)Z", sig := { parameters := [(.object "java/lang/Object")], returnType := some .boolean }, accessFlags := 1, code := some k7c1 }
def k7c2 : Code := { maxStack := 4, maxLocals := 1, code := jdk_42_method_139_code, exceptionTable := #[], attributes := #[] }
def k7m2 : Method := { name := "valueOf", desc := "(C)Ljava/lang/String;", sig := { parameters := [.char], returnType := some (.object "java/lang/String") }, accessFlags := 9, code := some k7c2 }
def k7c3 : Code := { maxStack := 2, maxLocals := 3, code := jdk_42_method_151_code, exceptionTable := #[], attributes := #[] }
def k7m3 : Method := { name := "<init>", desc := "([BB)V", sig := { parameters := [(.array .byte), .byte], returnType := none }, accessFlags := 0, code := some k7c3 }
/-- java/lang/String -/
def k7 : Class := { plain "java/lang/String" (some 0) with
  accessFlags := 49
  interfaces := #[2, 3, 4, 5, 6]
  cf := some (fileOf pool7 10 #[.nestMembers #[1103]] #[{ accessFlags := 1, nameIndex := 5, descriptorIndex := 6, attributes := #[] }, { accessFlags := 1, nameIndex := 543, descriptorIndex := 573, attributes := #[] }, { accessFlags := 9, nameIndex := 782, descriptorIndex := 783, attributes := #[] }, { accessFlags := 0, nameIndex := 5, descriptorIndex := 211, attributes := #[] }] 49 2 #[1106, 1108, 575, 1110, 1112] #[{ accessFlags := 18, nameIndex := 13, descriptorIndex := 14, attributes := #[] }, { accessFlags := 18, nameIndex := 17, descriptorIndex := 18, attributes := #[] }, { accessFlags := 2, nameIndex := 21, descriptorIndex := 22, attributes := #[] }, { accessFlags := 2, nameIndex := 25, descriptorIndex := 26, attributes := #[] }, { accessFlags := 26, nameIndex := 1116, descriptorIndex := 1117, attributes := #[] }, { accessFlags := 24, nameIndex := 40, descriptorIndex := 26, attributes := #[] }, { accessFlags := 26, nameIndex := 1101, descriptorIndex := 1102, attributes := #[] }, { accessFlags := 26, nameIndex := 1121, descriptorIndex := 1122, attributes := #[] }, { accessFlags := 25, nameIndex := 599, descriptorIndex := 600, attributes := #[] }, { accessFlags := 24, nameIndex := 1125, descriptorIndex := 18, attributes := #[] }, { accessFlags := 24, nameIndex := 1127, descriptorIndex := 18, attributes := #[] }])
  fields := #[{ name := "value", type := (.array .byte), accessFlags := 18, slot := 0, constantValue := 0 }, { name := "coder", type := .byte, accessFlags := 18, slot := 1, constantValue := 0 }, { name := "hash", type := .int, accessFlags := 2, slot := 2, constantValue := 0 }, { name := "hashIsZero", type := .boolean, accessFlags := 2, slot := 3, constantValue := 0 }, { name := "serialVersionUID", type := .long, accessFlags := 26, slot := 0, constantValue := 0 }, { name := "COMPACT_STRINGS", type := .boolean, accessFlags := 24, slot := 1, constantValue := 0 }, { name := "serialPersistentFields", type := (.array (.object "java/io/ObjectStreamField")), accessFlags := 26, slot := 2, constantValue := 0 }, { name := "REPL", type := .char, accessFlags := 26, slot := 3, constantValue := 0 }, { name := "CASE_INSENSITIVE_ORDER", type := (.object "java/util/Comparator"), accessFlags := 25, slot := 4, constantValue := 0 }, { name := "LATIN1", type := .byte, accessFlags := 24, slot := 5, constantValue := 0 }, { name := "UTF16", type := .byte, accessFlags := 24, slot := 6, constantValue := 0 }]
  methods := #[k7m0, k7m1, k7m2, k7m3]
  instanceTypes := #[(.array .byte), .byte, .int, .boolean]
  staticTypes := #[.long, .boolean, (.array (.object "java/io/ObjectStreamField")), .char, (.object "java/util/Comparator"), .byte, .byte]
  resolved := Array.replicate 1451 none
  statics := some 0 }

def pool8 : Array CpInfo := pool [(4, .class_ 6), (1, u "java/lang/Object"), (0, u "<init>"), (0, u "()V"), (5, .class_ 16), (1, u "java/lang/StringLatin1"), (73, u "canEncode"), (14, u "(C)Z"), (15, u "$assertionsDisabled"), (0, u "Z"), (98, .class_ 223), (1, u "java/lang/StringLatin1$LinesSpliterator"), (57, u "equals"), (0, u "([B[B)Z"), (97, u "toBytes"), (1, u "(C)[B"), (7, .class_ 391), (0, u "java/lang/StringLatin1$CharsSpliterator")] 3

def k8m0 : Method := { name := "<init>", desc := "()V", sig := { parameters := [], returnType := none }, accessFlags := 0, code := none }
def k8c1 : Code := { maxStack := 2, maxLocals := 1, code := jdk_43_method_3_code, exceptionTable := #[], attributes := #[] }
def k8m1 : Method := { name := "canEncode", desc := "(C)Z", sig := { parameters := [.char], returnType := some .boolean }, accessFlags := 9, code := some k8c1 }
def k8c2 : Code := { maxStack := 3, maxLocals := 3, code := jdk_43_method_13_code, exceptionTable := #[], attributes := #[] }
def k8m2 : Method := { name := "equals", desc := "([B[B)Z", sig := { parameters := [(.array .byte), (.array .byte)], returnType := some .boolean }, accessFlags := 9, code := some k8c2 }
def k8c3 : Code := { maxStack := 4, maxLocals := 1, code := jdk_43_method_46_code, exceptionTable := #[], attributes := #[] }
def k8m3 : Method := { name := "toBytes", desc := "(C)[B", sig := { parameters := [.char], returnType := some (.array .byte) }, accessFlags := 9, code := some k8c3 }
/-- java/lang/StringLatin1 -/
def k8 : Class := { plain "java/lang/StringLatin1" (some 0) with
  accessFlags := 48
  interfaces := #[]
  cf := some (fileOf pool8 14 #[.nestMembers #[390, 221]] #[{ accessFlags := 0, nameIndex := 7, descriptorIndex := 8, attributes := #[] }, { accessFlags := 9, nameIndex := 90, descriptorIndex := 105, attributes := #[] }, { accessFlags := 9, nameIndex := 281, descriptorIndex := 282, attributes := #[] }, { accessFlags := 9, nameIndex := 380, descriptorIndex := 382, attributes := #[] }] 48 4 #[] #[{ accessFlags := 4120, nameIndex := 121, descriptorIndex := 122, attributes := #[] }])
  fields := #[{ name := "$assertionsDisabled", type := .boolean, accessFlags := 4120, slot := 0, constantValue := 0 }]
  methods := #[k8m0, k8m1, k8m2, k8m3]
  instanceTypes := #[]
  staticTypes := #[.boolean]
  resolved := Array.replicate 395 none
  statics := none }

def pool9 : Array CpInfo := pool [(1, .methodref 2 3), (0, .class_ 4), (0, .nameAndType 5 6), (0, u "java/lang/Object"), (0, u "<init>"), (0, u "()V"), (0, .fieldref 8 9), (0, .class_ 10), (0, .nameAndType 11 12), (0, u "com/example/rafterwire/rafterwire/radio/FaultLines"), (0, u "logged"), (0, u "Ljava/lang/String;"), (0, .methodref 14 15), (0, .class_ 16), (0, .nameAndType 17 18), (0, u "java/lang/String"), (0, u "equals"), (0, u "(Ljava/lang/Object;)Z"), (0, .fieldref 8 20), (0, .nameAndType 21 22), (0, u "loggedAt"), (0, u "J"), (0, .fieldref 8 24), (0, .nameAndType 25 26), (0, u "INTERVAL"), (0, u "Ljava/time/Duration;"), (0, .methodref 28 29), (0, .class_ 30), (0, .nameAndType 31 32), (0, u "java/time/Duration"), (0, u "toNanos"), (0, u "()J"), (8, u "isQuiet"), (0, u "()Z"), (1, u "take"), (0, u "(Ljava/lang/String;J)Z"), (0, u "reset")] 3

def k9c0 : Code := { maxStack := 1, maxLocals := 1, code := prog_31_method_1_code, exceptionTable := #[], attributes := #[] }
def k9m0 : Method := { name := "<init>", desc := "()V", sig := { parameters := [], returnType := none }, accessFlags := 0, code := some k9c0 }
def k9c1 : Code := { maxStack := 1, maxLocals := 1, code := prog_31_method_2_code, exceptionTable := #[], attributes := #[] }
def k9m1 : Method := { name := "isQuiet", desc := "()Z", sig := { parameters := [], returnType := some .boolean }, accessFlags := 0, code := some k9c1 }
def k9c2 : Code := { maxStack := 4, maxLocals := 4, code := prog_31_method_3_code, exceptionTable := #[], attributes := #[] }
def k9m2 : Method := { name := "take", desc := "(Ljava/lang/String;J)Z", sig := { parameters := [(.object "java/lang/String"), .long], returnType := some .boolean }, accessFlags := 0, code := some k9c2 }
def k9c3 : Code := { maxStack := 2, maxLocals := 1, code := prog_31_method_4_code, exceptionTable := #[], attributes := #[] }
def k9m3 : Method := { name := "reset", desc := "()V", sig := { parameters := [], returnType := none }, accessFlags := 0, code := some k9c3 }
/-- com/example/rafterwire/rafterwire/radio/FaultLines -/
def k9 : Class := { plain "com/example/rafterwire/rafterwire/radio/FaultLines" (some 0) with
  accessFlags := 48
  interfaces := #[]
  cf := some (fileOf pool9 8 #[] #[{ accessFlags := 0, nameIndex := 5, descriptorIndex := 6, attributes := #[] }, { accessFlags := 0, nameIndex := 41, descriptorIndex := 42, attributes := #[] }, { accessFlags := 0, nameIndex := 44, descriptorIndex := 45, attributes := #[] }, { accessFlags := 0, nameIndex := 46, descriptorIndex := 6, attributes := #[] }] 48 2 #[] #[{ accessFlags := 24, nameIndex := 25, descriptorIndex := 26, attributes := #[] }, { accessFlags := 2, nameIndex := 11, descriptorIndex := 12, attributes := #[] }, { accessFlags := 2, nameIndex := 21, descriptorIndex := 22, attributes := #[] }])
  fields := #[{ name := "INTERVAL", type := (.object "java/time/Duration"), accessFlags := 24, slot := 0, constantValue := 0 }, { name := "logged", type := (.object "java/lang/String"), accessFlags := 2, slot := 0, constantValue := 0 }, { name := "loggedAt", type := .long, accessFlags := 2, slot := 1, constantValue := 0 }]
  methods := #[k9m0, k9m1, k9m2, k9m3]
  instanceTypes := #[(.object "java/lang/String"), .long]
  staticTypes := #[(.object "java/time/Duration")]
  resolved := Array.replicate 50 none
  statics := some 1 }

def pool10 : Array CpInfo := pool [(1, .class_ 2), (0, u "java/time/temporal/TemporalAmount"), (0, .class_ 4), (0, u "java/lang/Object")] 11

/-- java/time/temporal/TemporalAmount -/
def k10 : Class := { plain "java/time/temporal/TemporalAmount" (some 0) with
  accessFlags := 1537
  interfaces := #[]
  cf := some (fileOf pool10 1 #[] #[] 1537 3 #[] #[])
  fields := #[]
  methods := #[]
  instanceTypes := #[]
  staticTypes := #[]
  resolved := Array.replicate 16 none
  statics := none }

def pool11 : Array CpInfo := pool [(5, .class_ 7), (1, u "java/lang/Math"), (0, u "multiplyExact"), (2, .class_ 13), (1, u "java/time/Duration"), (2, .long 1000000000), (4, u "(JJ)J"), (0, .methodref 5 23), (0, .nameAndType 24 21), (0, u "addExact"), (9, u "ZERO"), (0, u "Ljava/time/Duration;"), (13, .class_ 51), (1, u "java/time/temporal/TemporalAmount"), (27, .class_ 81), (1, u "java/time/Duration$Lazy"), (35, u "seconds"), (101, .class_ 220), (0, u "java/lang/Object"), (0, .fieldref 11 222), (0, .nameAndType 117 223), (0, u "J"), (0, .fieldref 11 225), (0, .nameAndType 226 227), (0, u "nanos"), (0, u "I"), (11, .class_ 241), (1, u "java/time/Duration$DurationUnits"), (9, u "()J"), (17, .class_ 271), (1, u "java/time/Duration$1"), (17, .methodref 5 290), (0, .nameAndType 8 21), (72, u "BI_NANOS_PER_SECOND"), (0, u "Ljava/math/BigInteger;"), (46, u "toNanos"), (73, .class_ 486), (0, u "java/lang/Comparable"), (0, .class_ 488), (0, u "java/io/Serializable"), (0, u "serialVersionUID")] 166

def k11c0 : Code := { maxStack := 4, maxLocals := 7, code := jdk_2316_method_58_code, exceptionTable := #[], attributes := #[] }
def k11m0 : Method := { name := "toNanos", desc := "()J", sig := { parameters := [], returnType := some .long }, accessFlags := 1, code := some k11c0 }
/-- java/time/Duration -/
def k11 : Class := { plain "java/time/Duration" (some 0) with
  accessFlags := 49
  interfaces := #[10, 3, 2]
  cf := some (fileOf pool11 11 #[.nestMembers #[269, 239, 79]] #[{ accessFlags := 1, nameIndex := 411, descriptorIndex := 251, attributes := #[] }] 49 219 #[49, 485, 487] #[{ accessFlags := 25, nameIndex := 34, descriptorIndex := 35, attributes := #[] }, { accessFlags := 26, nameIndex := 489, descriptorIndex := 223, attributes := #[] }, { accessFlags := 26, nameIndex := 363, descriptorIndex := 364, attributes := #[] }, { accessFlags := 18, nameIndex := 117, descriptorIndex := 223, attributes := #[] }, { accessFlags := 18, nameIndex := 226, descriptorIndex := 227, attributes := #[] }])
  fields := #[{ name := "ZERO", type := (.object "java/time/Duration"), accessFlags := 25, slot := 0, constantValue := 0 }, { name := "serialVersionUID", type := .long, accessFlags := 26, slot := 1, constantValue := 0 }, { name := "BI_NANOS_PER_SECOND", type := (.object "java/math/BigInteger"), accessFlags := 26, slot := 2, constantValue := 0 }, { name := "seconds", type := .long, accessFlags := 18, slot := 0, constantValue := 0 }, { name := "nanos", type := .int, accessFlags := 18, slot := 1, constantValue := 0 }]
  methods := #[k11m0]
  instanceTypes := #[.long, .int]
  staticTypes := #[(.object "java/time/Duration"), .long, (.object "java/math/BigInteger")]
  resolved := Array.replicate 656 none
  statics := none }

def pool12 : Array CpInfo := pool [(1, .class_ 2), (0, u "java/lang/Math"), (1, .class_ 6), (1, u "java/lang/Object"), (0, u "<init>"), (0, u "()V"), (89, .class_ 100), (1, u "java/lang/Math$RandomNumberGeneratorHolder"), (19, u "multiplyExact"), (0, u "(JJ)J"), (0, .methodref 1 123), (0, .nameAndType 124 125), (0, u "abs"), (0, u "(J)J"), (46, u "negativeZeroFloatBits"), (0, u "J"), (2, u "negativeZeroDoubleBits"), (68, u "$assertionsDisabled"), (0, u "Z"), (91, u "twoToTheDoubleScaleDown"), (0, u "D"), (4, u "twoToTheDoubleScaleUp"), (9, u "E"), (3, u "PI"), (2, u "TAU"), (2, u "DEGREES_TO_RADIANS"), (0, u "RADIANS_TO_DEGREES"), (27, u "addExact")] 66

def k12m0 : Method := { name := "<init>", desc := "()V", sig := { parameters := [], returnType := none }, accessFlags := 2, code := none }
def k12c1 : Code := { maxStack := 6, maxLocals := 6, code := jdk_29_method_25_code, exceptionTable := #[], attributes := #[] }
def k12m1 : Method := { name := "addExact", desc := "(JJ)J", sig := { parameters := [.long, .long], returnType := some .long }, accessFlags := 9, code := some k12c1 }
def k12c2 : Code := { maxStack := 4, maxLocals := 10, code := jdk_29_method_30_code, exceptionTable := #[], attributes := #[] }
def k12m2 : Method := { name := "multiplyExact", desc := "(JJ)J", sig := { parameters := [.long, .long], returnType := some .long }, accessFlags := 9, code := some k12c2 }
def k12c3 : Code := { maxStack := 4, maxLocals := 2, code := jdk_29_method_61_code, exceptionTable := #[], attributes := #[] }
def k12m3 : Method := { name := "abs", desc := "(J)J", sig := { parameters := [.long], returnType := some .long }, accessFlags := 9, code := some k12c3 }
/-- java/lang/Math -/
def k12 : Class := { plain "java/lang/Math" (some 0) with
  accessFlags := 49
  interfaces := #[]
  cf := some (fileOf pool12 1 #[.nestMembers #[98]] #[{ accessFlags := 2, nameIndex := 7, descriptorIndex := 8, attributes := #[] }, { accessFlags := 9, nameIndex := 393, descriptorIndex := 121, attributes := #[] }, { accessFlags := 9, nameIndex := 120, descriptorIndex := 121, attributes := #[] }, { accessFlags := 9, nameIndex := 124, descriptorIndex := 125, attributes := #[] }] 49 4 #[] #[{ accessFlags := 25, nameIndex := 354, descriptorIndex := 339, attributes := #[] }, { accessFlags := 25, nameIndex := 358, descriptorIndex := 339, attributes := #[] }, { accessFlags := 25, nameIndex := 361, descriptorIndex := 339, attributes := #[] }, { accessFlags := 26, nameIndex := 364, descriptorIndex := 339, attributes := #[] }, { accessFlags := 26, nameIndex := 365, descriptorIndex := 339, attributes := #[] }, { accessFlags := 26, nameIndex := 172, descriptorIndex := 173, attributes := #[] }, { accessFlags := 26, nameIndex := 176, descriptorIndex := 173, attributes := #[] }, { accessFlags := 8, nameIndex := 344, descriptorIndex := 339, attributes := #[] }, { accessFlags := 8, nameIndex := 338, descriptorIndex := 339, attributes := #[] }, { accessFlags := 4120, nameIndex := 245, descriptorIndex := 246, attributes := #[] }])
  fields := #[{ name := "E", type := .double, accessFlags := 25, slot := 0, constantValue := 0 }, { name := "PI", type := .double, accessFlags := 25, slot := 1, constantValue := 0 }, { name := "TAU", type := .double, accessFlags := 25, slot := 2, constantValue := 0 }, { name := "DEGREES_TO_RADIANS", type := .double, accessFlags := 26, slot := 3, constantValue := 0 }, { name := "RADIANS_TO_DEGREES", type := .double, accessFlags := 26, slot := 4, constantValue := 0 }, { name := "negativeZeroFloatBits", type := .long, accessFlags := 26, slot := 5, constantValue := 0 }, { name := "negativeZeroDoubleBits", type := .long, accessFlags := 26, slot := 6, constantValue := 0 }, { name := "twoToTheDoubleScaleUp", type := .double, accessFlags := 8, slot := 7, constantValue := 0 }, { name := "twoToTheDoubleScaleDown", type := .double, accessFlags := 8, slot := 8, constantValue := 0 }, { name := "$assertionsDisabled", type := .boolean, accessFlags := 4120, slot := 9, constantValue := 0 }]
  methods := #[k12m0, k12m1, k12m2, k12m3]
  instanceTypes := #[]
  staticTypes := #[.double, .double, .double, .double, .double, .long, .long, .double, .double, .boolean]
  resolved := Array.replicate 460 none
  statics := none }

def pool13 : Array CpInfo := pool [(2, .class_ 4), (1, u "java/lang/Object"), (0, u "<init>"), (0, u "()V"), (17, .class_ 26), (1, u "jdk/internal/util/Preconditions"), (28, .class_ 56), (0, u "jdk/internal/util/Preconditions$4"), (57, .class_ 115), (0, u "jdk/internal/util/Preconditions$1"), (7, u "SIOOBE_FORMATTER"), (0, u "Ljava/util/function/BiFunction;"), (0, .class_ 126), (0, u "jdk/internal/util/Preconditions$2"), (3, u "AIOOBE_FORMATTER"), (0, .class_ 132), (0, u "jdk/internal/util/Preconditions$3"), (3, u "IOOBE_FORMATTER")] 57

def k13m0 : Method := { name := "<init>", desc := "()V", sig := { parameters := [], returnType := none }, accessFlags := 1, code := none }
/-- jdk/internal/util/Preconditions -/
def k13 : Class := { plain "jdk/internal/util/Preconditions" (some 0) with
  accessFlags := 33
  interfaces := #[]
  cf := some (fileOf pool13 24 #[.nestMembers #[55, 131, 125, 114]] #[{ accessFlags := 1, nameIndex := 5, descriptorIndex := 6, attributes := #[] }] 33 2 #[] #[{ accessFlags := 25, nameIndex := 123, descriptorIndex := 124, attributes := #[] }, { accessFlags := 25, nameIndex := 130, descriptorIndex := 124, attributes := #[] }, { accessFlags := 25, nameIndex := 136, descriptorIndex := 124, attributes := #[] }])
  fields := #[{ name := "SIOOBE_FORMATTER", type := (.object "java/util/function/BiFunction"), accessFlags := 25, slot := 0, constantValue := 0 }, { name := "AIOOBE_FORMATTER", type := (.object "java/util/function/BiFunction"), accessFlags := 25, slot := 1, constantValue := 0 }, { name := "IOOBE_FORMATTER", type := (.object "java/util/function/BiFunction"), accessFlags := 25, slot := 2, constantValue := 0 }]
  methods := #[k13m0]
  instanceTypes := #[]
  staticTypes := #[(.object "java/util/function/BiFunction"), (.object "java/util/function/BiFunction"), (.object "java/util/function/BiFunction")]
  resolved := Array.replicate 194 none
  statics := some 2 }

def pool14 : Array CpInfo := pool [(9, u "<init>"), (6, .class_ 18), (1, u "java/lang/Object"), (0, u "()V"), (1, .class_ 23), (1, u "jdk/internal/util/ArraysSupport"), (0, u "LOG2_ARRAY_LONG_INDEX_SCALE"), (0, u "I"), (2, u "U"), (0, u "Ljdk/internal/misc/Unsafe;"), (8, u "BIG_ENDIAN"), (0, u "Z"), (8, u "LOG2_BYTE_BIT_SIZE"), (4, u "LOG2_ARRAY_INT_INDEX_SCALE"), (54, u "JLA"), (0, u "Ljdk/internal/access/JavaLangAccess;"), (11, u "LOG2_ARRAY_BOOLEAN_INDEX_SCALE"), (9, u "LOG2_ARRAY_BYTE_INDEX_SCALE"), (5, u "LOG2_ARRAY_CHAR_INDEX_SCALE"), (5, u "LOG2_ARRAY_SHORT_INDEX_SCALE"), (18, u "LOG2_ARRAY_FLOAT_INDEX_SCALE"), (24, u "LOG2_ARRAY_DOUBLE_INDEX_SCALE"), (89, u "T_BOOLEAN"), (2, u "T_CHAR"), (1, u "T_FLOAT"), (1, u "T_DOUBLE"), (1, u "T_BYTE"), (1, u "T_SHORT"), (1, u "T_INT"), (1, u "T_LONG"), (1, u "SOFT_MAX_ARRAY_LENGTH")] 83

def k14m0 : Method := { name := "<init>", desc := "()V", sig := { parameters := [], returnType := none }, accessFlags := 2, code := none }
/-- jdk/internal/util/ArraysSupport -/
def k14 : Class := { plain "jdk/internal/util/ArraysSupport" (some 0) with
  accessFlags := 33
  interfaces := #[]
  cf := some (fileOf pool14 21 #[] #[{ accessFlags := 2, nameIndex := 9, descriptorIndex := 19, attributes := #[] }] 33 16 #[] #[{ accessFlags := 24, nameIndex := 28, descriptorIndex := 29, attributes := #[] }, { accessFlags := 26, nameIndex := 38, descriptorIndex := 39, attributes := #[] }, { accessFlags := 25, nameIndex := 121, descriptorIndex := 25, attributes := #[] }, { accessFlags := 25, nameIndex := 131, descriptorIndex := 25, attributes := #[] }, { accessFlags := 25, nameIndex := 137, descriptorIndex := 25, attributes := #[] }, { accessFlags := 25, nameIndex := 143, descriptorIndex := 25, attributes := #[] }, { accessFlags := 25, nameIndex := 53, descriptorIndex := 25, attributes := #[] }, { accessFlags := 25, nameIndex := 24, descriptorIndex := 25, attributes := #[] }, { accessFlags := 25, nameIndex := 162, descriptorIndex := 25, attributes := #[] }, { accessFlags := 25, nameIndex := 187, descriptorIndex := 25, attributes := #[] }, { accessFlags := 26, nameIndex := 48, descriptorIndex := 25, attributes := #[] }, { accessFlags := 25, nameIndex := 277, descriptorIndex := 25, attributes := #[] }, { accessFlags := 25, nameIndex := 280, descriptorIndex := 25, attributes := #[] }, { accessFlags := 25, nameIndex := 282, descriptorIndex := 25, attributes := #[] }, { accessFlags := 25, nameIndex := 284, descriptorIndex := 25, attributes := #[] }, { accessFlags := 25, nameIndex := 286, descriptorIndex := 25, attributes := #[] }, { accessFlags := 25, nameIndex := 288, descriptorIndex := 25, attributes := #[] }, { accessFlags := 25, nameIndex := 290, descriptorIndex := 25, attributes := #[] }, { accessFlags := 25, nameIndex := 292, descriptorIndex := 25, attributes := #[] }, { accessFlags := 26, nameIndex := 108, descriptorIndex := 109, attributes := #[] }, { accessFlags := 25, nameIndex := 294, descriptorIndex := 25, attributes := #[] }])
  fields := #[{ name := "U", type := (.object "jdk/internal/misc/Unsafe"), accessFlags := 24, slot := 0, constantValue := 0 }, { name := "BIG_ENDIAN", type := .boolean, accessFlags := 26, slot := 1, constantValue := 0 }, { name := "LOG2_ARRAY_BOOLEAN_INDEX_SCALE", type := .int, accessFlags := 25, slot := 2, constantValue := 0 }, { name := "LOG2_ARRAY_BYTE_INDEX_SCALE", type := .int, accessFlags := 25, slot := 3, constantValue := 0 }, { name := "LOG2_ARRAY_CHAR_INDEX_SCALE", type := .int, accessFlags := 25, slot := 4, constantValue := 0 }, { name := "LOG2_ARRAY_SHORT_INDEX_SCALE", type := .int, accessFlags := 25, slot := 5, constantValue := 0 }, { name := "LOG2_ARRAY_INT_INDEX_SCALE", type := .int, accessFlags := 25, slot := 6, constantValue := 0 }, { name := "LOG2_ARRAY_LONG_INDEX_SCALE", type := .int, accessFlags := 25, slot := 7, constantValue := 0 }, { name := "LOG2_ARRAY_FLOAT_INDEX_SCALE", type := .int, accessFlags := 25, slot := 8, constantValue := 0 }, { name := "LOG2_ARRAY_DOUBLE_INDEX_SCALE", type := .int, accessFlags := 25, slot := 9, constantValue := 0 }, { name := "LOG2_BYTE_BIT_SIZE", type := .int, accessFlags := 26, slot := 10, constantValue := 0 }, { name := "T_BOOLEAN", type := .int, accessFlags := 25, slot := 11, constantValue := 0 }, { name := "T_CHAR", type := .int, accessFlags := 25, slot := 12, constantValue := 0 }, { name := "T_FLOAT", type := .int, accessFlags := 25, slot := 13, constantValue := 0 }, { name := "T_DOUBLE", type := .int, accessFlags := 25, slot := 14, constantValue := 0 }, { name := "T_BYTE", type := .int, accessFlags := 25, slot := 15, constantValue := 0 }, { name := "T_SHORT", type := .int, accessFlags := 25, slot := 16, constantValue := 0 }, { name := "T_INT", type := .int, accessFlags := 25, slot := 17, constantValue := 0 }, { name := "T_LONG", type := .int, accessFlags := 25, slot := 18, constantValue := 0 }, { name := "JLA", type := (.object "jdk/internal/access/JavaLangAccess"), accessFlags := 26, slot := 19, constantValue := 0 }, { name := "SOFT_MAX_ARRAY_LENGTH", type := .int, accessFlags := 25, slot := 20, constantValue := 0 }]
  methods := #[k14m0]
  instanceTypes := #[]
  staticTypes := #[(.object "jdk/internal/misc/Unsafe"), .boolean, .int, .int, .int, .int, .int, .int, .int, .int, .int, .int, .int, .int, .int, .int, .int, .int, .int, (.object "jdk/internal/access/JavaLangAccess"), .int]
  resolved := Array.replicate 378 none
  statics := none }

def pool15 : Array CpInfo := pool [(1, u "java/lang/Cloneable"), (0, .class_ 1), (0, u "java/lang/Object"), (0, .class_ 3)] 3

/-- java/lang/Cloneable -/
def k15 : Class := { plain "java/lang/Cloneable" (some 0) with
  accessFlags := 1537
  interfaces := #[]
  cf := some (fileOf pool15 2 #[] #[] 1537 4 #[] #[])
  fields := #[]
  methods := #[]
  instanceTypes := #[]
  staticTypes := #[]
  resolved := Array.replicate 8 none
  statics := none }

/-- the primitive byte -/
def k16 : Class := { plain "byte" none with kind := .primitive 'B', accessFlags := 0x411 }
/-- [B -/
def k17 : Class := { plain "[B" (some 0) with kind := .array 16 .byte, interfaces := #[15, 2], accessFlags := 1041 }

/-- the primitive int -/
def k18 : Class := { plain "int" none with kind := .primitive 'I', accessFlags := 0x411 }
/-- [I -/
def k19 : Class := { plain "[I" (some 0) with kind := .array 18 .int, interfaces := #[15, 2], accessFlags := 1041 }

def heap : Heap := #[{ cls := 7, slots := #[.long 0, .int 1, .null, .int 0, .null, .int 0, .int 0], vm := .statics 7 },
  { cls := 9, slots := #[.ref 3], vm := .statics 9 },
  { cls := 13, slots := #[.null, .null, .null], vm := .statics 13 },
  { cls := 11, slots := #[.long 10, .int 0], vm := .none }]
def classes : Array Class := #[k0, k1, k2, k3, k4, k5, k6, k7, k8, k9, k10, k11, k12, k13, k14, k15, k16, k17, k18, k19]
def interned : List (Array UInt16 × Addr) := []
def slotsUsed : Nat := 13
def theMethod : MethodId := ⟨1, 1⟩
def args0 : Array Value := #[.int 5, .int 300, .long 7, .long 8, .int 3]
def aboutOver (below : List Frame) : State where
  vm := { classes := classes, interned := interned.toArray }
  heap := heap
  slotsUsed := slotsUsed
  threads := #[{ frames := .invoking theMethod args0 :: below }]
def below0 : List Frame := [.native { method := ⟨0, 0⟩, args := #[] }]
def about1 : State := aboutOver below0
def p0 : Program := .bare "" "" ""
def e0 : Env := launch0.env 0 0 0
theorem w_frames : about1.frames = Frame.invoking theMethod args0 :: below0 := rfl
set_option maxRecDepth 65536 in
theorem w_args : argsFit about1.vm theMethod args0 = true := by decide +kernel
set_option maxRecDepth 65536 in
theorem w_heap : heapFits about1 = true := by decide +kernel
set_option maxRecDepth 65536 in
theorem w_runnable : about1.curStatus? = some .runnable := by decide +kernel
set_option maxRecDepth 65536 in
theorem w_alone : about1.alone = true := by decide +kernel
set_option maxRecDepth 65536 in
theorem w_named : about1.methodNamed? x = some theMethod := by decide +kernel
set_option maxRecDepth 65536 in
theorem w_hears : about1.hears theMethod below0 = true := by decide +kernel
set_option maxRecDepth 65536 in
theorem w_ripe : about1.ripe theMethod args0 below0 = true := by decide +kernel
theorem w_running : about1.status = .running := rfl
set_option maxRecDepth 65536 in
theorem w_room : about1.hasRoom e0.platform room_1 = true :=
  launch0.hasRoom_least _ room_1 (by decide +kernel) (by decide +kernel) (by decide +kernel) (by decide +kernel) (by decide +kernel) (by decide +kernel)
theorem allAtoms_all (ts : List Jvm.Cond) (a : Array Jvm.Value) (st : Jvm.State) : (allAtoms ts).before a st = ts.all (fun c => c.before a st) := by
  induction ts with
  | nil => rfl
  | cons c t ih =>
    show (Jvm.Cond.and c (allAtoms t)).before a st = _
    rw [Jvm.Cond.before_and, ih, List.all_cons]
def words1 : List Jvm.Cond := Jvm.Cond.code x code maxLocals ret :: tables_1
/-- a 'code' word, met by the world's own term for the bytes: nothing is compared byte by byte -/
theorem code_word {y : MethodName} {bytes : ByteArray} {mx : Nat} {rt : Option FieldType} {a : Array Value} {s : State} {m : MethodId} {meth : Method} {c : Code} (h1 : s.methodNamed? y = some m) (h2 : s.vm.method? m = some meth) (h3 : meth.code = some c) (h4 : c.code = bytes)
    (h5 : (c.maxLocals == mx && c.exceptionTable.isEmpty && decide (c.maxStack ≤ mostOperands) && decide (meth.sig.returnType = rt) && !meth.locks && decide (parseMethodDescriptor y.desc = some meth.sig)) = true) : (Jvm.Cond.code y bytes mx rt).before a s = true := by
  simp only [Bool.and_eq_true, beq_iff_eq, Bool.not_eq_true', decide_eq_true_eq] at h5
  obtain ⟨⟨⟨⟨⟨g1, g2⟩, g3⟩, g4⟩, g5⟩, g6⟩ := h5
  simp [Cond.before, Cond.holds, Cond.value, h1, h2, h3, h4, g1, g2, g3, g4, g5, g6]
def isCode : Jvm.Cond → Bool
  | .code _ _ _ _ => true
  | _ => false
theorem all_split {L : List Jvm.Cond} {P : Jvm.Cond → Bool} (h1 : L.all (fun c => isCode c || P c) = true) (h2 : ∀ c ∈ L.filter isCode, P c = true) : L.all P = true := by
  refine List.all_eq_true.mpr fun c hc => ?_
  have h := List.all_eq_true.mp h1 c hc
  rcases Bool.eq_false_or_eq_true (isCode c) with hi | hi
  · exact h2 c (List.mem_filter.mpr ⟨hc, hi⟩)
  · simpa [hi] using h
set_option maxRecDepth 65536 in
theorem w_c0 : (Jvm.Cond.code x code maxLocals ret).before args0 about1 = true := code_word (m := ⟨1, 1⟩) (meth := k1m1) (c := k1c1) (by decide +kernel) rfl rfl rfl (by decide +kernel)
set_option maxRecDepth 65536 in
theorem w_c1 : (Jvm.Cond.code ({ cls := "java/lang/String", name := "valueOf", desc := "(C)Ljava/lang/String;" } : Jvm.MethodName) jdk_42_method_139_code (1 : Nat) (Option.some (Jvm.ClassFile.FieldType.object "java/lang/String"))).before args0 about1 = true := code_word (m := ⟨7, 2⟩) (meth := k7m2) (c := k7c2) (by decide +kernel) rfl rfl rfl (by decide +kernel)
set_option maxRecDepth 65536 in
theorem w_c2 : (Jvm.Cond.code ({ cls := "java/lang/StringLatin1", name := "canEncode", desc := "(C)Z" } : Jvm.MethodName) jdk_43_method_3_code (1 : Nat) (Option.some Jvm.ClassFile.FieldType.boolean)).before args0 about1 = true := code_word (m := ⟨8, 1⟩) (meth := k8m1) (c := k8c1) (by decide +kernel) rfl rfl rfl (by decide +kernel)
set_option maxRecDepth 65536 in
theorem w_c3 : (Jvm.Cond.code ({ cls := "java/lang/StringLatin1", name := "toBytes", desc := "(C)[B" } : Jvm.MethodName) jdk_43_method_46_code (1 : Nat) (Option.some (Jvm.ClassFile.FieldType.array Jvm.ClassFile.FieldType.byte))).before args0 about1 = true := code_word (m := ⟨8, 3⟩) (meth := k8m3) (c := k8c3) (by decide +kernel) rfl rfl rfl (by decide +kernel)
set_option maxRecDepth 65536 in
theorem w_c4 : (Jvm.Cond.code ({ cls := "java/lang/String", name := "<init>", desc := "([BB)V" } : Jvm.MethodName) jdk_42_method_151_code (3 : Nat) (Option.none : Option Jvm.ClassFile.FieldType)).before args0 about1 = true := code_word (m := ⟨7, 3⟩) (meth := k7m3) (c := k7c3) (by decide +kernel) rfl rfl rfl (by decide +kernel)
set_option maxRecDepth 65536 in
theorem w_c5 : (Jvm.Cond.code ({ cls := "java/lang/Object", name := "<init>", desc := "()V" } : Jvm.MethodName) object_method_1_code (1 : Nat) (Option.none : Option Jvm.ClassFile.FieldType)).before args0 about1 = true := code_word (m := ⟨0, 0⟩) (meth := k0m0) (c := k0c0) (by decide +kernel) rfl rfl rfl (by decide +kernel)
set_option maxRecDepth 65536 in
theorem w_c6 : (Jvm.Cond.code ({ cls := "com/example/rafterwire/rafterwire/radio/FaultLines", name := "<init>", desc := "()V" } : Jvm.MethodName) prog_31_method_1_code (1 : Nat) (Option.none : Option Jvm.ClassFile.FieldType)).before args0 about1 = true := code_word (m := ⟨9, 0⟩) (meth := k9m0) (c := k9c0) (by decide +kernel) rfl rfl rfl (by decide +kernel)
set_option maxRecDepth 65536 in
theorem w_c7 : (Jvm.Cond.code ({ cls := "com/example/rafterwire/rafterwire/radio/FaultLines", name := "isQuiet", desc := "()Z" } : Jvm.MethodName) prog_31_method_2_code (1 : Nat) (Option.some Jvm.ClassFile.FieldType.boolean)).before args0 about1 = true := code_word (m := ⟨9, 1⟩) (meth := k9m1) (c := k9c1) (by decide +kernel) rfl rfl rfl (by decide +kernel)
set_option maxRecDepth 65536 in
theorem w_c8 : (Jvm.Cond.code ({ cls := "com/example/rafterwire/rafterwire/radio/FaultLines", name := "take", desc := "(Ljava/lang/String;J)Z" } : Jvm.MethodName) prog_31_method_3_code (4 : Nat) (Option.some Jvm.ClassFile.FieldType.boolean)).before args0 about1 = true := code_word (m := ⟨9, 2⟩) (meth := k9m2) (c := k9c2) (by decide +kernel) rfl rfl rfl (by decide +kernel)
set_option maxRecDepth 65536 in
theorem w_c9 : (Jvm.Cond.code ({ cls := "com/example/rafterwire/rafterwire/radio/FaultLines", name := "reset", desc := "()V" } : Jvm.MethodName) prog_31_method_4_code (1 : Nat) (Option.none : Option Jvm.ClassFile.FieldType)).before args0 about1 = true := code_word (m := ⟨9, 3⟩) (meth := k9m3) (c := k9c3) (by decide +kernel) rfl rfl rfl (by decide +kernel)
set_option maxRecDepth 65536 in
theorem w_c10 : (Jvm.Cond.code ({ cls := "java/lang/String", name := "equals", desc := "(Ljava/lang/Object;)Z" } : Jvm.MethodName) jdk_42_method_66_code (3 : Nat) (Option.some Jvm.ClassFile.FieldType.boolean)).before args0 about1 = true := code_word (m := ⟨7, 1⟩) (meth := k7m1) (c := k7c1) (by decide +kernel) rfl rfl rfl (by decide +kernel)
set_option maxRecDepth 65536 in
theorem w_c11 : (Jvm.Cond.code ({ cls := "java/lang/StringLatin1", name := "equals", desc := "([B[B)Z" } : Jvm.MethodName) jdk_43_method_13_code (3 : Nat) (Option.some Jvm.ClassFile.FieldType.boolean)).before args0 about1 = true := code_word (m := ⟨8, 2⟩) (meth := k8m2) (c := k8c2) (by decide +kernel) rfl rfl rfl (by decide +kernel)
set_option maxRecDepth 65536 in
theorem w_c12 : (Jvm.Cond.code ({ cls := "java/time/Duration", name := "toNanos", desc := "()J" } : Jvm.MethodName) jdk_2316_method_58_code (7 : Nat) (Option.some Jvm.ClassFile.FieldType.long)).before args0 about1 = true := code_word (m := ⟨11, 0⟩) (meth := k11m0) (c := k11c0) (by decide +kernel) rfl rfl rfl (by decide +kernel)
set_option maxRecDepth 65536 in
theorem w_c13 : (Jvm.Cond.code ({ cls := "java/lang/Math", name := "multiplyExact", desc := "(JJ)J" } : Jvm.MethodName) jdk_29_method_30_code (10 : Nat) (Option.some Jvm.ClassFile.FieldType.long)).before args0 about1 = true := code_word (m := ⟨12, 2⟩) (meth := k12m2) (c := k12c2) (by decide +kernel) rfl rfl rfl (by decide +kernel)
set_option maxRecDepth 65536 in
theorem w_c14 : (Jvm.Cond.code ({ cls := "java/lang/Math", name := "abs", desc := "(J)J" } : Jvm.MethodName) jdk_29_method_61_code (2 : Nat) (Option.some Jvm.ClassFile.FieldType.long)).before args0 about1 = true := code_word (m := ⟨12, 3⟩) (meth := k12m3) (c := k12c3) (by decide +kernel) rfl rfl rfl (by decide +kernel)
set_option maxRecDepth 65536 in
theorem w_c15 : (Jvm.Cond.code ({ cls := "java/lang/Math", name := "addExact", desc := "(JJ)J" } : Jvm.MethodName) jdk_29_method_25_code (6 : Nat) (Option.some Jvm.ClassFile.FieldType.long)).before args0 about1 = true := code_word (m := ⟨12, 1⟩) (meth := k12m1) (c := k12c1) (by decide +kernel) rfl rfl rfl (by decide +kernel)
def codes1 : List Jvm.Cond := [Jvm.Cond.code x code maxLocals ret, Jvm.Cond.code ({ cls := "java/lang/String", name := "valueOf", desc := "(C)Ljava/lang/String;" } : Jvm.MethodName) jdk_42_method_139_code (1 : Nat) (Option.some (Jvm.ClassFile.FieldType.object "java/lang/String")), Jvm.Cond.code ({ cls := "java/lang/StringLatin1", name := "canEncode", desc := "(C)Z" } : Jvm.MethodName) jdk_43_method_3_code (1 : Nat) (Option.some Jvm.ClassFile.FieldType.boolean), Jvm.Cond.code ({ cls := "java/lang/StringLatin1", name := "toBytes", desc := "(C)[B" } : Jvm.MethodName) jdk_43_method_46_code (1 : Nat) (Option.some (Jvm.ClassFile.FieldType.array Jvm.ClassFile.FieldType.byte)), Jvm.Cond.code ({ cls := "java/lang/String", name := "<init>", desc := "([BB)V" } : Jvm.MethodName) jdk_42_method_151_code (3 : Nat) (Option.none : Option Jvm.ClassFile.FieldType), Jvm.Cond.code ({ cls := "java/lang/Object", name := "<init>", desc := "()V" } : Jvm.MethodName) object_method_1_code (1 : Nat) (Option.none : Option Jvm.ClassFile.FieldType), Jvm.Cond.code ({ cls := "com/example/rafterwire/rafterwire/radio/FaultLines", name := "<init>", desc := "()V" } : Jvm.MethodName) prog_31_method_1_code (1 : Nat) (Option.none : Option Jvm.ClassFile.FieldType), Jvm.Cond.code ({ cls := "com/example/rafterwire/rafterwire/radio/FaultLines", name := "isQuiet", desc := "()Z" } : Jvm.MethodName) prog_31_method_2_code (1 : Nat) (Option.some Jvm.ClassFile.FieldType.boolean), Jvm.Cond.code ({ cls := "com/example/rafterwire/rafterwire/radio/FaultLines", name := "take", desc := "(Ljava/lang/String;J)Z" } : Jvm.MethodName) prog_31_method_3_code (4 : Nat) (Option.some Jvm.ClassFile.FieldType.boolean), Jvm.Cond.code ({ cls := "com/example/rafterwire/rafterwire/radio/FaultLines", name := "reset", desc := "()V" } : Jvm.MethodName) prog_31_method_4_code (1 : Nat) (Option.none : Option Jvm.ClassFile.FieldType), Jvm.Cond.code ({ cls := "java/lang/String", name := "equals", desc := "(Ljava/lang/Object;)Z" } : Jvm.MethodName) jdk_42_method_66_code (3 : Nat) (Option.some Jvm.ClassFile.FieldType.boolean), Jvm.Cond.code ({ cls := "java/lang/StringLatin1", name := "equals", desc := "([B[B)Z" } : Jvm.MethodName) jdk_43_method_13_code (3 : Nat) (Option.some Jvm.ClassFile.FieldType.boolean), Jvm.Cond.code ({ cls := "java/time/Duration", name := "toNanos", desc := "()J" } : Jvm.MethodName) jdk_2316_method_58_code (7 : Nat) (Option.some Jvm.ClassFile.FieldType.long), Jvm.Cond.code ({ cls := "java/lang/Math", name := "multiplyExact", desc := "(JJ)J" } : Jvm.MethodName) jdk_29_method_30_code (10 : Nat) (Option.some Jvm.ClassFile.FieldType.long), Jvm.Cond.code ({ cls := "java/lang/Math", name := "abs", desc := "(J)J" } : Jvm.MethodName) jdk_29_method_61_code (2 : Nat) (Option.some Jvm.ClassFile.FieldType.long), Jvm.Cond.code ({ cls := "java/lang/Math", name := "addExact", desc := "(JJ)J" } : Jvm.MethodName) jdk_29_method_25_code (6 : Nat) (Option.some Jvm.ClassFile.FieldType.long)]
set_option maxRecDepth 65536 in
theorem codes_eq : words1.filter isCode = codes1 := rfl
theorem w_codes : ∀ c ∈ words1.filter isCode, c.before args0 about1 = true := by
  rw [codes_eq]
  intro c hc
  simp only [codes1, List.mem_cons, List.not_mem_nil, or_false] at hc
  rcases hc with rfl | rfl | rfl | rfl | rfl | rfl | rfl | rfl | rfl | rfl | rfl | rfl | rfl | rfl | rfl | rfl
  · exact w_c0
  · exact w_c1
  · exact w_c2
  · exact w_c3
  · exact w_c4
  · exact w_c5
  · exact w_c6
  · exact w_c7
  · exact w_c8
  · exact w_c9
  · exact w_c10
  · exact w_c11
  · exact w_c12
  · exact w_c13
  · exact w_c14
  · exact w_c15
set_option maxRecDepth 65536 in
theorem w_t1 : (words1.take 24).all (fun c => isCode c || c.before args0 about1) = true := by decide +kernel
set_option maxRecDepth 65536 in
theorem w_t2 : ((words1.drop 24).take 24).all (fun c => isCode c || c.before args0 about1) = true := by decide +kernel
set_option maxRecDepth 65536 in
theorem w_t3 : (((words1.drop 24).drop 24).take 24).all (fun c => isCode c || c.before args0 about1) = true := by decide +kernel
set_option maxRecDepth 65536 in
theorem w_t4 : (((words1.drop 24).drop 24).drop 24).all (fun c => isCode c || c.before args0 about1) = true := by decide +kernel
theorem w_tables : (allAtoms (Jvm.Cond.code x code maxLocals ret :: tables_1)).before args0 about1 = true := by
  rw [allAtoms_all]
  show words1.all (fun c => c.before args0 about1) = true
  refine all_split ?_ w_codes
  rw [← List.take_append_drop 24 words1, List.all_append, w_t1, ← List.take_append_drop 24 (words1.drop 24), List.all_append, w_t2, ← List.take_append_drop 24 ((words1.drop 24).drop 24), List.all_append, w_t3, w_t4]
  rfl
set_option maxRecDepth 65536 in
theorem w_rest : rest_1_c.before args0 about1 = true := by decide +kernel
set_option maxRecDepth 65536 in
theorem w_case : (Jvm.Cond.and given_1 narrow_1).before args0 about1 = true := by decide +kernel
theorem w_applies : (headSpec (Jvm.Cond.code x code maxLocals ret :: tables_1) room_1).applies x e0.platform about1 = true :=
  (Spec.applies_iff w_frames).mpr ⟨w_running, w_runnable, w_alone, w_named, w_hears, w_ripe, w_room, w_tables⟩
theorem atStart : AtStart classFile x code maxLocals ret World_1 tables_1 room_1 Calls_1 rest_1 Pre_1 launch0 p0 e0 about1 theMethod args0 below0 :=
  ⟨lists_1, trivial, launch0.admits_env _ _ _, launch0.least_env, fairChoices_fair.cas, fairChoices_fair.clock, w_frames, w_args, w_heap, w_applies, trivial, w_rest, w_case⟩
end start1
theorem witness_1 : WitnessClaimed_1 := ⟨start1.p0, start1.e0, start1.about1, start1.theMethod, start1.args0, start1.below0, start1.atStart⟩
end Jvm.Pilot.@@N@@
