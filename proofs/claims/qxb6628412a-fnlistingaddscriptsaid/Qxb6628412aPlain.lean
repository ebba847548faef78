import Derived.Test.Qxb6628412aAdd
namespace Go.Proofs.Qxb6628412a
open Go.RowKit Go.Deep
set_option linter.unusedVariables false

/-- The rules in the order of their first appearance among the first k. -/
def ordL (R : Nat → Int) : Nat → List Int
  | 0 => []
  | k + 1 => if R k ∈ ordL R k then ordL R k else ordL R k ++ [R k]
def cnt (R : Nat → Int) : Nat → Int → Nat
  | 0, _ => 0
  | k + 1, r => cnt R k r + (if R k = r then 1 else 0)
def ordAt (R : Nat → Int) (k j : Nat) : Int := (ordL R k).getD j 0
/-- The pointer of a rule index: nil for -1. -/
def rp (N : Nat) (r : Int) : Option Addr := if r < 0 then none else some ⟨N + r.toNat, 0, none⟩

theorem rp_inj {N : Nat} {r r' : Int} (h : -1 ≤ r) (h' : -1 ≤ r') (e : rp N r = rp N r') : r = r' := by
  unfold rp at e
  split at e <;> split at e
  · omega
  · cases e
  · cases e
  · simp at e
    omega

section
variable {R : Nat → Int}
theorem ordL_mem (k : Nat) (r : Int) : r ∈ ordL R k ↔ ∃ i, i < k ∧ R i = r := by
  induction k with
  | zero => simp [ordL]
  | succ k ih =>
    have : (∃ i, i < k + 1 ∧ R i = r) ↔ (∃ i, i < k ∧ R i = r) ∨ R k = r := by
      constructor
      · rintro ⟨i, hi, e⟩
        by_cases h : i = k
        · subst h; exact .inr e
        · exact .inl ⟨i, by omega, e⟩
      · rintro (⟨i, hi, e⟩ | e)
        · exact ⟨i, by omega, e⟩
        · exact ⟨k, by omega, e⟩
    rw [this, ← ih]
    show r ∈ (if R k ∈ ordL R k then ordL R k else ordL R k ++ [R k]) ↔ _
    split
    · rename_i h
      constructor
      · exact .inl
      · rintro (h' | rfl)
        · exact h'
        · exact h
    · simp [eq_comm]

theorem ordL_nodup (k : Nat) : (ordL R k).Nodup := by
  induction k with
  | zero => simp [ordL]
  | succ k ih =>
    unfold ordL
    split
    · exact ih
    · rename_i h
      rw [List.nodup_append]
      refine ⟨ih, by simp, fun a ha b hb => ?_⟩
      simp at hb
      subst hb
      rintro rfl
      exact h ha

theorem ordL_len (k : Nat) : (ordL R k).length ≤ k := by
  induction k with
  | zero => simp [ordL]
  | succ k ih =>
    unfold ordL
    split
    · omega
    · simp; omega

theorem cnt_zero (k : Nat) (r : Int) (h : r ∉ ordL R k) : cnt R k r = 0 := by
  induction k with
  | zero => rfl
  | succ k ih =>
    have h1 : r ∉ ordL R k := fun h' => h ((ordL_mem _ _).2 (by obtain ⟨i, hi, e⟩ := (ordL_mem _ _).1 h'; exact ⟨i, by omega, e⟩))
    have h2 : R k ≠ r := fun e => h ((ordL_mem _ _).2 ⟨k, by omega, e⟩)
    simp [cnt, ih h1, h2]

theorem cnt_mono {k n : Nat} (h : k ≤ n) (r : Int) : cnt R k r ≤ cnt R n r := by
  induction n with
  | zero => obtain rfl : k = 0 := by omega
            exact Nat.le_refl _
  | succ n ih =>
    by_cases e : k = n + 1
    · subst e; exact Nat.le_refl _
    · have := ih (by omega)
      simp only [cnt]
      omega

theorem ordAt_mem {k j : Nat} (h : j < (ordL R k).length) : ordAt R k j ∈ ordL R k := by
  unfold ordAt
  rw [List.getD_eq_getElem?_getD, List.getElem?_eq_getElem h]
  exact List.getElem_mem h

theorem ordAt_inj {k i j : Nat} (hi : i < (ordL R k).length) (hj : j < (ordL R k).length) (e : ordAt R k i = ordAt R k j) : i = j := by
  unfold ordAt at e
  rw [List.getD_eq_getElem?_getD, List.getElem?_eq_getElem hi, List.getD_eq_getElem?_getD, List.getElem?_eq_getElem hj] at e
  exact (List.getElem_inj (ordL_nodup k)).1 e

theorem ordL_old {k : Nat} (h : R k ∈ ordL R k) : ordL R (k + 1) = ordL R k := by rw [ordL, if_pos h]
theorem ordL_new {k : Nat} (h : R k ∉ ordL R k) : ordL R (k + 1) = ordL R k ++ [R k] := by rw [ordL, if_neg h]
theorem ordAt_new {k j : Nat} (h : R k ∉ ordL R k) (hj : j < (ordL R k).length + 1) : ordAt R (k + 1) j = if j = (ordL R k).length then R k else ordAt R k j := by
  unfold ordAt
  rw [ordL_new h]
  by_cases e : j = (ordL R k).length
  · subst e; simp
  · rw [if_neg e, List.getD_eq_getElem?_getD, List.getElem?_append_left (by omega), List.getD_eq_getElem?_getD]

structure Inv (R : Nat → Int) (N k m : Nat) (Q : Nat → Option Addr) (C : Nat → Int) : Prop where
  len : m = (ordL R k).length
  q : ∀ j, j < m → Q j = rp N (ordAt R k j)
  c : ∀ j, j < m → C j = cnt R k (ordAt R k j)

variable {N k m m' j : Nat} {Q Q' : Nat → Option Addr} {C C' : Nat → Int}

theorem Inv.lo (hR : ∀ i, i ≤ k → -1 ≤ R i) {j : Nat} (hj : j < (ordL R k).length) : -1 ≤ ordAt R k j := by
  obtain ⟨i, hi, e⟩ := (ordL_mem _ _).1 (ordAt_mem hj)
  have := hR i (by omega)
  omega

theorem Inv.found (h : Inv R N k m Q C) (hR : ∀ i, i ≤ k → -1 ≤ R i) {j : Nat} (hj : j < m) (e : Q j = rp N (R k)) : ordAt R k j = R k := by
  rw [h.q j hj] at e
  have := h.len
  exact rp_inj (Inv.lo hR (by omega)) (hR k (Nat.le_refl _)) e

theorem Inv.notmem (h : Inv R N k m Q C) (hne : ∀ i, i < m → Q i ≠ rp N (R k)) : R k ∉ ordL R k := fun hm => by
  obtain ⟨i, hi, e⟩ := List.getElem_of_mem hm
  have hl := h.len
  refine hne i (by omega) ?_
  rw [h.q i (by omega)]
  congr 1
  unfold ordAt
  rw [List.getD_eq_getElem?_getD, List.getElem?_eq_getElem hi]
  exact e

theorem Inv.pre (h : Inv R N k m Q C) (hR : ∀ i, i ≤ k → -1 ≤ R i) (hO : OfRel m Q C (rp N (R k)) m' Q' C' j) : C' j = cnt R k (R k) := by
  rcases hO with ⟨_, _, rfl, hj, e⟩ | ⟨_, rfl, _, rfl, hne⟩
  · rw [h.c j hj, h.found hR hj e]
  · rw [upd_same, cnt_zero _ _ (h.notmem hne)]
    rfl

theorem Inv.step (h : Inv R N k m Q C) (hR : ∀ i, i ≤ k → -1 ≤ R i) (hO : OfRel m Q C (rp N (R k)) m' Q' C' j) : Inv R N (k + 1) m' Q' (upd C' j (C' j + 1)) := by
  have hpre := h.pre hR hO
  have hl := h.len
  rcases hO with ⟨rfl, rfl, rfl, hj, e⟩ | ⟨rfl, rfl, rfl, rfl, hne⟩
  · have hf := h.found hR hj e
    have hm : R k ∈ ordL R k := by rw [← hf]; exact ordAt_mem (by omega)
    have ho : ∀ i, ordAt R (k + 1) i = ordAt R k i := fun i => by unfold ordAt; rw [ordL_old hm]
    refine ⟨by rw [ordL_old hm]; exact hl, fun i hi => by rw [ho]; exact h.q i hi, fun i hi => ?_⟩
    rw [ho]
    by_cases ei : i = j
    · subst ei
      rw [upd_same, hpre, hf]
      simp [cnt]
    · rw [upd_other _ _ _ _ ei, h.c i hi]
      have : R k ≠ ordAt R k i := fun e' => ei (ordAt_inj (R := R) (k := k) (by omega) (by omega) (by rw [← e', hf]))
      simp [cnt, this]
  · have hm := h.notmem hne
    refine ⟨by rw [ordL_new hm]; simp; omega, fun i hi => ?_, fun i hi => ?_⟩
    · rw [ordAt_new hm (by omega)]
      by_cases ei : i = j
      · subst ei
        rw [upd_same, if_pos hl]
      · rw [upd_other _ _ _ _ ei, if_neg (by omega)]
        exact h.q i (by omega)
    · rw [ordAt_new hm (by omega)]
      by_cases ei : i = j
      · subst ei
        rw [upd_same, if_pos hl, hpre]
        simp [cnt]
      · rw [upd_other _ _ _ _ ei, upd_other _ _ _ _ ei, if_neg (by omega), h.c i (by omega)]
        have : R k ≠ ordAt R k i := fun e' => hm (by rw [e']; exact ordAt_mem (by omega))
        simp [cnt, this]

theorem Inv.zero : Inv R N 0 0 Q C := ⟨rfl, fun j hj => absurd hj (Nat.not_lt_zero _), fun j hj => absurd hj (Nat.not_lt_zero _)⟩
end

end Go.Proofs.Qxb6628412a
