import Derived.Test.Qxb6628363aBase
namespace Go.Proofs.Qxb6628363a
open Go.RowKit Go.Deep

theorem cloneInts_nil (w : World) : Calls Try.prog 8 #[.slice none 0 0] w fun e w' => e = .returned (.slice none 0 0) ∧ w' = w := by
  have q := q22e
  go_enter Try.func8, Try.ntmps8
  go_wp2
  go_ret
  exact ⟨rfl, rfl⟩

structure Clo (w wr : World) (n k : Nat) (Z : Nat → Int) : Prop where
  below : Below w.heap.size w wr
  size : wr.heap.size = w.heap.size + 1
  row : wr.rowIs w.heap.size 2 n (fun j => if j < k then .int .i64 (Z j) else .int .i64 0)

theorem Clo.start (w : World) (n : Nat) (Z : Nat → Int) : Clo w (w.alloc (.cells (madeCells #[.int .i64 0] n) 2)) n 0 Z :=
  ⟨(Below.refl _ _).alloc (Nat.le_refl _) _, by simp, (World.rowIs_made w _ n 2).congr (fun j _ => by simp)⟩

theorem Clo.step {w wr : World} {n k : Nat} {Z : Nat → Int} (h : Clo w wr n k Z) : Clo w (wr.setCell ⟨w.heap.size, k, none⟩ (.int .i64 (Z k))) n (k + 1) Z := by
  refine ⟨h.below.setCell (Nat.le_refl _) _, by simp [h.size], (h.row.set k _).congr (fun j _ => ?_)⟩
  by_cases e : j = k
  · subst e; simp
  · rw [if_neg e]
    by_cases hlt : j < k
    · rw [if_pos hlt, if_pos (by omega)]
    · rw [if_neg hlt, if_neg (by omega)]

set_option maxHeartbeats 1000000 in
theorem cloneInts_some (w : World) (a : Addr) (n cap : Nat) (Z : Nat → Int) (h : IsInts w (some a) n Z) (hn : n ≤ 35184372088832) :
    Calls Try.prog 8 #[.slice (some a) n cap] w fun e w' => e = .returned (.slice (some ⟨w.heap.size, 0, none⟩) n n) ∧ Clo w w' n n Z := by
  have q := q22e
  have hmk := run_make_row' (P := Try.prog) 22 2 (.int .i64 0) 8 Try.underlying22 info2 rfl .i64 .i64 n (by omega) (by omega)
  have hs := Clo.start w n Z
  go_enter Try.func8, Try.ntmps8
  go_wp2
  clear q hmk
  go_loopg [4] n (fun g i wr => ∃ k : Nat, k ≤ n ∧ g = n - k ∧ i = .int .i64 k ∧ Clo w wr n k Z)
  case atStart => exact ⟨0, Nat.zero_le _, rfl, rfl, hs⟩
  case round =>
    clear hs
    obtain ⟨k, hk, rfl, rfl, hI⟩ := hrel
    by_cases hlt : k < n
    · obtain ⟨b, o, he, hc⟩ := h k hlt
      cases he
      have g1 := bcell hI.below hc
      have g2 : wr.cell? ⟨w.heap.size, k, none⟩ = some (.int .i64 0) := by simpa using hI.row.cell hlt
      have g3 := hI.row.frozen k
      clear h hc
      go_wp2
      go_roundg (n - (k + 1))
      case measure => omega
      case rel => exact ⟨k + 1, by omega, rfl, by go_num, hI.step⟩
    · have e : k = n := by omega
      subst e
      go_wp2
      go_ret
      exact ⟨rfl, hI⟩

/-! ### the chunks -/
def sv (g : Option Nat) (l c : Nat) : Value := match g with | .none => .slice .none 0 0 | .some x => .slice (.some ⟨x, 0, .none⟩) l c

theorem cloneRows_nil (w : World) : Calls Try.prog 9 #[.slice none 0 0] w fun e w' => e = .returned (.slice none 0 0) ∧ w' = w := by
  have q := q23e
  go_enter Try.func9, Try.ntmps9
  go_wp2
  go_ret
  exact ⟨rfl, rfl⟩

structure CloC (w wr : World) (n k : Nat) (A : Nat → Option Addr) (L : Nat → Nat) (Z : Nat → Nat → Int) (G : Nat → Option Nat) : Prop where
  below : Below w.heap.size w wr
  lt : w.heap.size < wr.heap.size
  top : wr.rowIs w.heap.size 22 n (fun j => if j < k then sv (G j) (L j) (L j) else .slice .none 0 0)
  nil : ∀ j, j < k → (G j = .none ↔ A j = .none)
  row : ∀ j x, j < k → G j = some x → w.heap.size < x ∧ x < wr.heap.size ∧ wr.rowIs x 2 (L j) (fun i => .int .i64 (Z j i))
  inj : ∀ i j x, i < k → j < k → G i = some x → G j = some x → i = j

theorem CloC.start (w : World) (n : Nat) (A : Nat → Option Addr) (L : Nat → Nat) (Z : Nat → Nat → Int) : CloC w (w.alloc (.cells (madeCells #[.slice none 0 0] n) 22)) n 0 A L Z (fun _ => none) :=
  ⟨(Below.refl _ _).alloc (Nat.le_refl _) _, by simp, (World.rowIs_made w _ n 22).congr (fun j _ => by simp), fun j hj => absurd hj (Nat.not_lt_zero _), fun j x hj => absurd hj (Nat.not_lt_zero _), fun i j x hi => absurd hi (Nat.not_lt_zero _)⟩

theorem CloC.step_nil {w wr : World} {n k : Nat} {A : Nat → Option Addr} {L : Nat → Nat} {Z : Nat → Nat → Int} {G : Nat → Option Nat} (h : CloC w wr n k A L Z G) (hA : A k = none) :
    CloC w (wr.setCell ⟨w.heap.size, k, none⟩ (.slice none 0 0)) n (k + 1) A L Z (fun j => if j = k then none else G j) := by
  refine ⟨h.below.setCell (Nat.le_refl _) _, by simpa using h.lt, (h.top.set k _).congr (fun j _ => ?_), fun j hj => ?_, fun j x hj hx => ?_, fun i j x hi hj hx hy => ?_⟩
  · by_cases e : j = k
    · subst e; simp [sv]
    · simp only [if_neg e]
      by_cases hlt : j < k
      · rw [if_pos hlt, if_pos (by omega)]
      · rw [if_neg hlt, if_neg (by omega)]
  · by_cases e : j = k
    · subst e; simp [hA]
    · simp only [if_neg e]; exact h.nil j (by omega)
  · by_cases e : j = k
    · subst e; simp at hx
    · simp only [if_neg e] at hx
      obtain ⟨h1, h2, h3⟩ := h.row j x (by omega) hx
      exact ⟨h1, by simpa using h2, h3.setOther (by show x ≠ w.heap.size; omega) _⟩
  · by_cases e : i = k
    · subst e; simp at hx
    · by_cases e' : j = k
      · subst e'; simp at hy
      · simp only [if_neg e] at hx; simp only [if_neg e'] at hy; exact h.inj i j x (by omega) (by omega) hx hy

theorem CloC.step_some {w wr w1 : World} {n k : Nat} {A : Nat → Option Addr} {L : Nat → Nat} {Z : Nat → Nat → Int} {G : Nat → Option Nat} (h : CloC w wr n k A L Z G) {a : Addr} (hA : A k = some a) (hC : Clo wr w1 (L k) (L k) (Z k)) :
    CloC w (w1.setCell ⟨w.heap.size, k, none⟩ (.slice (some ⟨wr.heap.size, 0, none⟩) (L k) (L k))) n (k + 1) A L Z (fun j => if j = k then some wr.heap.size else G j) := by
  have hlt := h.lt
  have hsz := hC.size
  refine ⟨(h.below.trans (hC.below.mono (by omega))).setCell (Nat.le_refl _) _, by simp; omega, ((rowIs_below h.top hC.below hlt).set k _).congr (fun j _ => ?_), fun j hj => ?_, fun j x hj hx => ?_, fun i j x hi hj hx hy => ?_⟩
  · by_cases e : j = k
    · subst e; simp [sv]
    · simp only [if_neg e]
      by_cases hlt : j < k
      · rw [if_pos hlt, if_pos (by omega)]
      · rw [if_neg hlt, if_neg (by omega)]
  · by_cases e : j = k
    · subst e; simp [hA]
    · simp only [if_neg e]; exact h.nil j (by omega)
  · by_cases e : j = k
    · subst e
      simp at hx
      subst hx
      exact ⟨hlt, by simp; omega, (hC.row.setOther (by show wr.heap.size ≠ w.heap.size; omega) _).congr (fun i hi => by simp [hi])⟩
    · simp only [if_neg e] at hx
      obtain ⟨h1, h2, h3⟩ := h.row j x (by omega) hx
      exact ⟨h1, by simp; omega, (rowIs_below h3 hC.below h2).setOther (by show x ≠ w.heap.size; omega) _⟩
  · by_cases e : i = k
    · by_cases e' : j = k
      · omega
      · subst e; simp at hx; subst hx; simp only [if_neg e'] at hy
        have := (h.row j _ (by omega) hy).2.1; omega
    · by_cases e' : j = k
      · subst e'; simp at hy; subst hy; simp only [if_neg e] at hx
        have := (h.row i _ (by omega) hx).2.1; omega
      · simp only [if_neg e] at hx; simp only [if_neg e'] at hy; exact h.inj i j x (by omega) (by omega) hx hy

set_option maxHeartbeats 1000000 in
theorem cloneRows_some (w : World) (a : Addr) (n cap : Nat) (A : Nat → Option Addr) (L C : Nat → Nat) (Z : Nat → Nat → Int) (h : IsRows w (some a) n A L C Z) (hn : n ≤ 1048576) (hL : ∀ r, r < n → L r ≤ 35184372088832) :
    Calls Try.prog 9 #[.slice (some a) n cap] w fun e w' => e = .returned (.slice (some ⟨w.heap.size, 0, none⟩) n n) ∧ ∃ G, CloC w w' n n A L Z G := by
  have q := q23e
  have hmk := run_make_row' (P := Try.prog) 23 22 (.slice none 0 0) 24 Try.underlying23 info22 rfl .i64 .i64 n (by omega) (by omega)
  have hs := CloC.start w n A L Z
  go_enter Try.func9, Try.ntmps9
  go_wp2
  clear q hmk
  go_loopg [4] n (fun g i wr => ∃ k : Nat, k ≤ n ∧ g = n - k ∧ i = .int .i64 k ∧ ∃ G, CloC w wr n k A L Z G)
  case atStart => exact ⟨0, Nat.zero_le _, rfl, rfl, _, hs⟩
  case round =>
    clear hs
    obtain ⟨k, hk, rfl, rfl, G, hI⟩ := hrel
    by_cases hlt : k < n
    · obtain ⟨b, o, he, hc⟩ := h.top k hlt
      cases he
      have g1 := bcell hI.below hc
      have g2 : wr.cell? ⟨w.heap.size, k, none⟩ = some (.slice none 0 0) := by simpa using hI.top.cell hlt
      have g3 := hI.top.frozen k
      have hrow := (h.row k hlt).later hI.below
      have hnil := h.nil k hlt
      have hLk := hL k hlt
      have hll := hI.lt
      clear h hc hL
      cases hA : A k with
      | none =>
        obtain ⟨hL0, hC0⟩ := hnil hA
        rw [hA, hL0, hC0] at g1
        have HA : Hid (A k = none) := hA
        clear hA hL0 hC0 hnil hrow
        go_wp2_with (go_at_call 8; refine (cloneInts_nil _).mono ?_; rintro e w' ⟨rfl, rfl⟩)
        go_roundg (n - (k + 1))
        case measure => omega
        case rel => exact ⟨k + 1, by omega, rfl, by go_num, _, hI.step_nil HA.out⟩
      | some ak =>
        rw [hA] at g1 hrow
        have HA : Hid (A k = some ak) := hA
        clear hA hnil
        go_wp2_with fail
        refine (cloneInts_some wr ak (L k) (C k) (Z k) hrow hLk).mono ?_
        rintro e w1 ⟨rfl, hC⟩
        have f2 : w1.cell? ⟨w.heap.size, k, none⟩ = some (.slice none 0 0) := bcell hC.below g2
        have f3 : w1.frozen? ⟨w.heap.size, k, none⟩ = false := (hC.below.frozen (p := ⟨w.heap.size, k, none⟩) hll).trans g3
        clear g2 g3 hrow g1
        go_wp2
        go_roundg (n - (k + 1))
        case measure => omega
        case rel => exact ⟨k + 1, by omega, rfl, by go_num, _, hI.step_some HA.out hC⟩
    · have e : k = n := by omega
      subst e
      go_wp2
      go_ret
      exact ⟨rfl, G, hI⟩

end Go.Proofs.Qxb6628363a
