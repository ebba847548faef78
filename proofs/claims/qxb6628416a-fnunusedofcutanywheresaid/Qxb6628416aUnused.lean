import Derived.Test.Qxb6628416aBase
namespace Go.Proofs.Qxb6628416a
open Go.RowKit Go.Deep
set_option linter.unusedVariables false

/-- Where the run that ends at t begins. -/
def runOf (S : Nat → Nat → Int) : Nat → Nat
  | 0 => 0
  | t + 1 => if S t 2 = S (t + 1) 0 then runOf S t else t + 1

theorem runOf_le (S : Nat → Nat → Int) (t : Nat) : runOf S t ≤ t := by
  induction t with
  | zero => exact Nat.le_refl _
  | succ t ih => unfold runOf; split <;> omega

/-- What unusedOf answers. -/
def UnOut (e : Ending) (name : ByteArray) (n : Nat) (S : Nat → Nat → Int) : Prop :=
  ∃ t b, e = .returned (.agg #[.string name, .int .i64 t, .int .i64 b, .int .i64 0]) ∧ t = wrap64 (S (n - 1) 2 - 1) ∧ b = wrap64 (S (runOf S (n - 1)) 1 - 1)

theorem runOf_stop {S : Nat → Nat → Int} {t : Nat} (h : S t 2 ≠ S (t + 1) 0) : runOf S (t + 1) = t + 1 := by unfold runOf; rw [if_neg h]
theorem runOf_go {S : Nat → Nat → Int} {t : Nat} (h : S t 2 = S (t + 1) 0) : runOf S (t + 1) = runOf S t := by rw [runOf, if_pos h]

set_option maxHeartbeats 4000000 in
theorem unusedOf_any (w : World) (name : ByteArray) (g n : Nat) (S : Nat → Nat → Int) (h : Row w g 31 n S) (hn : 0 < n) (hn' : n ≤ 1048577) :
    Calls Try.prog 8 #[.string name, .slice (some ⟨g, 0, none⟩) n n] w fun e w' => UnOut e name n S ∧ Below w.heap.size w w' := by
  obtain ⟨t, rfl⟩ : ∃ t, n = t + 1 := ⟨n - 1, by omega⟩
  have H := hid_of h
  have hgl := h.lt
  clear h
  go_enter Try.func8, Try.ntmps8
  go_wp2
  go_loopg [6] t (fun gg r wr => ∃ (j m : Nat), j ≤ t ∧ gg = j ∧ r = .int .i64 j ∧ runOf S j = runOf S t ∧ wr = (w.alloc (.cells #[.string { data := #[] }, .int .i64 0, .int .i64 0, .int .i64 0] 26)).drewN m)
  case atStart => exact ⟨t, 0, Nat.le_refl _, rfl, rfl, rfl, rfl⟩
  case round =>
    obtain ⟨j, m, hj, rfl, rfl, hr, hw⟩ := hrel
    have hbw : Below w.heap.size w wr := by rw [hw]; exact below_drewN ((Below.refl _ _).alloc (Nat.le_refl _) _) _
    have hrow := H.out.later hbw
    have e2 : wr.cell? ⟨g, t * 3 + 2, none⟩ = some (.int .i64 (S t 2)) := hrow.cell (by omega) (by omega)
    have e1 : wr.cell? ⟨g, gk * 3 + 1, none⟩ = some (.int .i64 (S gk 1)) := hrow.cell (by omega) (by omega)
    obtain ⟨x2, hx2⟩ : ∃ x, x = S t 2 := ⟨_, rfl⟩
    obtain ⟨x1, hx1⟩ : ∃ x, x = S gk 1 := ⟨_, rfl⟩
    rw [← hx2] at e2
    rw [← hx1] at e1
    cases gk with
    | zero =>
      have HI := hid_of (And.intro hr (And.intro hx1 hx2))
      have e1 : wr.cell? ⟨g, 1, none⟩ = some (.int .i64 x1) := by simpa using e1
      have HW := hid_of hw
      clear hr hx1 hx2 hbw hrow hw
      go_wp2
      go_quiet (fail)
      go_wp2
      have q2 : (wr.drewN nq).cell? ⟨g, t * 3 + 2, none⟩ = some (.int .i64 x2) := e2
      have q1 : (wr.drewN nq).cell? ⟨g, 1, none⟩ = some (.int .i64 x1) := e1
      have z : (wr.drewN nq).heap[w.heap.size]? = some (.cells #[.string { data := #[] }, .int .i64 0, .int .i64 0, .int .i64 0] 26) := by rw [HW.out]; exact blk_alloc_new w _
      have HB : Hid (Below w.heap.size w (wr.drewN nq)) := by rw [HW.out]; exact below_drewN (below_drewN ((Below.refl _ _).alloc (Nat.le_refl _) _) _) _
      generalize hwq : wr.drewN nq = wq at q2 q1 z HB ⊢
      clear hwq e1 e2
      have z0 : wq.cell? ⟨w.heap.size, 0, none⟩ = some (.string { data := #[] }) := by simp [World.cell?, z]
      have z1 : wq.cell? ⟨w.heap.size, 1, none⟩ = some (.int .i64 0) := by simp [World.cell?, z]
      have z2 : wq.cell? ⟨w.heap.size, 2, none⟩ = some (.int .i64 0) := by simp [World.cell?, z]
      have z3 : wq.cell? ⟨w.heap.size, 3, none⟩ = some (.int .i64 0) := by simp [World.cell?, z]
      have fz : ∀ o, wq.frozen? ⟨w.heap.size, o, none⟩ = false := fun o => by simp [World.frozen?, z]
      have hgne : g ≠ w.heap.size := by omega
      clear z
      go_region
      all_goals go_wp2
      refine bodyPost_ret (v := .agg #[.string name, .int .i64 (wrap64 (x2 - 1)), .int .i64 (wrap64 (x1 - 1)), .int .i64 0]) (by simp [results, Try.results8, go_sem, z0, z1, z2, z3]) rfl ⟨⟨_, _, rfl, ?_, ?_⟩, ?_⟩
      · rw [HI.out.2.2]; rfl
      · rw [HI.out.2.1, show t + 1 - 1 = t from rfl, ← HI.out.1]; rfl
      · exact ((((HB.out.setCell (Nat.le_refl _) _).setCell (Nat.le_refl _) _).setCell (Nat.le_refl _) _).setCell (Nat.le_refl _) _).drew
    | succ j =>
      have f2 : wr.cell? ⟨g, j * 3 + 2, none⟩ = some (.int .i64 (S j 2)) := hrow.cell (by omega) (by omega)
      have f0 : wr.cell? ⟨g, (j + 1) * 3, none⟩ = some (.int .i64 (S (j + 1) 0)) := hrow.cell (j := j + 1) (c := 0) (by omega) (by omega)
      obtain ⟨y2, hy2⟩ : ∃ x, x = S j 2 := ⟨_, rfl⟩
      obtain ⟨y0, hy0⟩ : ∃ x, x = S (j + 1) 0 := ⟨_, rfl⟩
      rw [← hy2] at f2
      rw [← hy0] at f0
      have HW := hid_of hw
      by_cases hyy : y2 = y0
      · have hS : S j 2 = S (j + 1) 0 := by rw [← hy2, ← hy0]; exact hyy
        have HI := hid_of (And.intro hr hS)
        have htest : (y2 == y0) = true := by simp [hyy]
        clear hr hx1 hx2 hbw hrow hw hyy hy2 hy0 e1 e2 hS
        go_wp2
        go_quiet (fail)
        go_wp2
        go_roundg j
        case measure => omega
        case rel => exact ⟨j, _, by omega, rfl, by go_num, by rw [← HI.out.1, runOf_go HI.out.2], by rw [HW.out, World.drewN_drewN]⟩
      · have hS : S j 2 ≠ S (j + 1) 0 := by rw [← hy2, ← hy0]; exact hyy
        have HI := hid_of (And.intro hr (And.intro hx1 (And.intro hx2 hS)))
        have htest : (y2 == y0) = false := by simp [hyy]
        clear hr hx1 hx2 hbw hrow hyy hy2 hy0 hS hw
        go_wp2
        go_quiet (fail)
        go_wp2
        have q2 : (wr.drewN nq).cell? ⟨g, t * 3 + 2, none⟩ = some (.int .i64 x2) := e2
        have q1 : (wr.drewN nq).cell? ⟨g, (j + 1) * 3 + 1, none⟩ = some (.int .i64 x1) := e1
        have z : (wr.drewN nq).heap[w.heap.size]? = some (.cells #[.string { data := #[] }, .int .i64 0, .int .i64 0, .int .i64 0] 26) := by rw [HW.out]; exact blk_alloc_new w _
        have HB : Hid (Below w.heap.size w (wr.drewN nq)) := by rw [HW.out]; exact below_drewN (below_drewN ((Below.refl _ _).alloc (Nat.le_refl _) _) _) _
        generalize hwq : wr.drewN nq = wq at q2 q1 z HB ⊢
        clear hwq e1 e2
        have z0 : wq.cell? ⟨w.heap.size, 0, none⟩ = some (.string { data := #[] }) := by simp [World.cell?, z]
        have z1 : wq.cell? ⟨w.heap.size, 1, none⟩ = some (.int .i64 0) := by simp [World.cell?, z]
        have z2 : wq.cell? ⟨w.heap.size, 2, none⟩ = some (.int .i64 0) := by simp [World.cell?, z]
        have z3 : wq.cell? ⟨w.heap.size, 3, none⟩ = some (.int .i64 0) := by simp [World.cell?, z]
        have fz : ∀ o, wq.frozen? ⟨w.heap.size, o, none⟩ = false := fun o => by simp [World.frozen?, z]
        have hgne : g ≠ w.heap.size := by omega
        clear z
        go_region
        all_goals go_wp2
        refine bodyPost_ret (v := .agg #[.string name, .int .i64 (wrap64 (x2 - 1)), .int .i64 (wrap64 (x1 - 1)), .int .i64 0]) (by simp [results, Try.results8, go_sem, z0, z1, z2, z3]) rfl ⟨⟨_, _, rfl, ?_, ?_⟩, ?_⟩
        · rw [HI.out.2.2.1]; rfl
        · rw [HI.out.2.1, show t + 1 - 1 = t from rfl, ← HI.out.1, runOf_stop HI.out.2.2.2]
        · exact ((((HB.out.setCell (Nat.le_refl _) _).setCell (Nat.le_refl _) _).setCell (Nat.le_refl _) _).setCell (Nat.le_refl _) _).drew

end Go.Proofs.Qxb6628416a
