import Derived.Test.Qxb6628363aUse
namespace Go.Proofs.Qxb6628363a
open Go.RowKit Go.Deep
set_option linter.unusedVariables false

theorem cloneInts_use (w : World) (a : Option Addr) (n cap : Nat) (Z : Nat → Int) (h : IsInts w a n Z) (hn : n ≤ 1048576) (ha : a = none → n = 0 ∧ cap = 0) :
    Calls Try.prog 8 #[.slice a n cap] w fun e w' => ∃ a', e = .returned (.slice a' n n) ∧ Below w.heap.size w w' ∧ (0 < n → a' = some ⟨w.heap.size, 0, none⟩ ∧ Clo w w' n n Z) := by
  cases a with
  | none =>
    obtain ⟨rfl, rfl⟩ := ha rfl
    refine (cloneInts_nil w).mono ?_
    rintro e w' ⟨rfl, rfl⟩
    exact ⟨none, rfl, Below.refl _ _, fun h => absurd h (Nat.not_lt_zero _)⟩
  | some a =>
    refine (cloneInts_some w a n cap Z h (by omega)).mono ?_
    rintro e w' ⟨rfl, hC⟩
    exact ⟨_, rfl, hC.below, fun _ => ⟨rfl, hC⟩⟩

theorem cloneRows_use (w : World) (a : Option Addr) (n cap : Nat) (A : Nat → Option Addr) (L C : Nat → Nat) (Z : Nat → Nat → Int) (h : IsRows w a n A L C Z) (hn : n ≤ 1048576) (hL : ∀ r, r < n → L r ≤ 1048576) (ha : a = none → n = 0 ∧ cap = 0) :
    Calls Try.prog 9 #[.slice a n cap] w fun e w' => ∃ a' G, e = .returned (.slice a' n n) ∧ Below w.heap.size w w' ∧ (0 < n → a' = some ⟨w.heap.size, 0, none⟩ ∧ CloC w w' n n A L Z G) := by
  cases a with
  | none =>
    obtain ⟨rfl, rfl⟩ := ha rfl
    refine (cloneRows_nil w).mono ?_
    rintro e w' ⟨rfl, rfl⟩
    exact ⟨none, fun _ => none, rfl, Below.refl _ _, fun h => absurd h (Nat.not_lt_zero _)⟩
  | some a =>
    refine (cloneRows_some w a n cap A L C Z h hn (fun r hr => by have := hL r hr; omega)).mono ?_
    rintro e w' ⟨rfl, G, hC⟩
    exact ⟨_, G, rfl, hC.below, fun _ => ⟨rfl, hC⟩⟩

theorem Clo.ints {w w' : World} {n : Nat} {Z : Nat → Int} {a' : Option Addr} (h : 0 < n → a' = some ⟨w.heap.size, 0, none⟩ ∧ Clo w w' n n Z) : IsInts w' a' n Z := by
  intro j hj
  obtain ⟨h1, h2⟩ := h (by omega)
  exact ⟨w.heap.size, 0, h1, by rw [Nat.zero_add]; simpa [hj] using h2.row.cell hj⟩

def ga (G : Nat → Option Nat) (i : Nat) : Option Addr := (G i).map fun x => ⟨x, 0, none⟩
def gl (G : Nat → Option Nat) (l : Nat → Nat) (i : Nat) : Nat := if (G i).isSome then l i else 0
theorem ga_none {G : Nat → Option Nat} {i : Nat} : ga G i = none ↔ G i = none := by simp [ga]
theorem sv_eq (G : Nat → Option Nat) (l c : Nat → Nat) (i : Nat) : sv (G i) (l i) (c i) = .slice (ga G i) (gl G l i) (gl G c i) := by
  cases h : G i <;> simp [sv, ga, gl, h]

theorem CloC.rows {w w' : World} {n : Nat} {A : Nat → Option Addr} {L : Nat → Nat} {Z : Nat → Nat → Int} {G : Nat → Option Nat} {a' : Option Addr} (h : 0 < n → a' = some ⟨w.heap.size, 0, none⟩ ∧ CloC w w' n n A L Z G) (hL : ∀ i, i < n → L i ≤ 1048576) :
    IsRows w' a' n (ga G) (gl G L) (gl G L) Z := by
  refine ⟨fun r hr => ⟨w.heap.size, 0, (h (by omega)).1, ?_⟩, fun r hr => ?_, fun r hr hn => ?_, fun r hr j hj => ?_⟩
  · have := (h (by omega)).2.top.cell hr
    rw [if_pos hr, sv_eq] at this
    rw [Nat.zero_add]
    exact this
  · unfold gl; have := hL r hr; split <;> omega
  · rw [ga_none] at hn; simp [gl, hn]
  · cases hg : G r with
    | none => simp [gl, hg] at hj
    | some x =>
      simp [gl, hg] at hj
      exact ⟨x, 0, by simp [ga, hg], by rw [Nat.zero_add]; exact ((h (by omega)).2.row r x hr hg).2.2.cell hj⟩

/-- The ledger that the law builds out of the three clones. -/
theorem led_made {w1 w2 w3 w4 : World} {a1 a3 : Option Addr} {gn n : Nat} {v : Value} {G D : Nat → Int} {A : Nat → Option Addr} {L : Nat → Nat} {Z : Nat → Nat → Int} {GG : Nat → Option Nat} {wa : World}
    (hrows : ∀ i, i < n → A i = none → L i = 0)
    (B1 : Below wa.heap.size wa w1) (C1 : 0 < gn → a1 = some ⟨wa.heap.size, 0, none⟩ ∧ Clo wa w1 gn gn G)
    (B2 : Below w1.heap.size w1 w2) (B3 : Below w2.heap.size w2 w3) (C3 : 0 < n → a3 = some ⟨w2.heap.size, 0, none⟩ ∧ CloC w2 w3 n n A L Z GG) (hL : ∀ i, i < n → L i = gn) (hgn : gn ≤ 1048576)
    (hN : NI w3 w4 (.slice a1 gn gn) v n D (ga GG) (gl GG L) (gl GG L)) : ∃ lo lc, Led w4 w3.heap.size a1 gn gn lo n lc G D (ga GG) (gl GG L) Z := by
  have hl : ∀ i, i < n → gl GG L i = gn := fun i hi => by
    cases e : GG i with
    | some x => simp [gl, e]; exact hL i hi
    | none =>
      have hA := ((C3 (by omega)).2.nil i hi).1 e
      have h0 := hrows i hi hA
      have := hL i hi
      simp [gl, e]
      omega
  refine led_of hN hl (((Clo.ints C1).later B2).later B3) (fun h => ?_) (fun i hi => ?_)
  · by_cases h0 : 0 < gn
    · rw [(C1 h0).1] at h; cases h
    · omega
  · have := (CloC.rows C3 (fun i hi => by rw [hL i hi]; exact hgn)).row i hi
    rw [hl i hi] at this
    exact this

end Go.Proofs.Qxb6628363a
