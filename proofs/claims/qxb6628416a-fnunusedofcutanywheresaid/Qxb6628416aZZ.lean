import Derived.Test.Qxb6628416aUnused
namespace Go.Proofs.Qxb6628416a
open Go.RowKit Go.Deep
set_option linter.unusedVariables false

/-- While the segments are laid. -/
structure ZS (w wr : World) (n k : Nat) (S : Nat → Nat → Int) : Prop where
  bel : Below w.heap.size w wr
  row : Row wr (w.heap.size + 1) 31 n (fun j c => if j < k then S j c else 0)
  res : wr.heap[w.heap.size]? = some (.cells #[.string { data := #[] }, .int .i64 0, .int .i64 0, .int .i64 0] 26)

theorem ZS.start (w : World) (n : Nat) (S : Nat → Nat → Int) :
    ZS w ((w.alloc (.cells #[.string { data := #[] }, .int .i64 0, .int .i64 0, .int .i64 0] 26)).alloc (.cells (madeCells #[.int .i64 0, .int .i64 0, .int .i64 0] (n * 3)) 31)) n 0 S := by
  refine ⟨((Below.refl _ _).alloc (Nat.le_refl _) _).alloc (by simp) _, ?_, (blk_alloc_lt _ _ _ (by simp)).trans (blk_alloc_new w _)⟩
  have := Row.made (w.alloc (.cells #[.string { data := #[] }, .int .i64 0, .int .i64 0, .int .i64 0] 26)) 31 n
  rw [show (w.alloc (.cells #[.string { data := #[] }, .int .i64 0, .int .i64 0, .int .i64 0] 26)).heap.size = w.heap.size + 1 by simp] at this
  exact this.congr fun j c _ _ => by simp

theorem ZS.step {w wr : World} {n k : Nat} {S : Nat → Nat → Int} (h : ZS w wr n k S) :
    ZS w (((wr.setCell ⟨w.heap.size + 1, k * 3, none⟩ (.int .i64 (S k 0))).setCell ⟨w.heap.size + 1, k * 3 + 1, none⟩ (.int .i64 (S k 1))).setCell ⟨w.heap.size + 1, k * 3 + 2, none⟩ (.int .i64 (S k 2))).drew n (k + 1) S := by
  refine ⟨(((h.bel.setCell (by show _ ≤ _ + 1; omega) _).setCell (by show _ ≤ _ + 1; omega) _).setCell (by show _ ≤ _ + 1; omega) _).drew, (h.row.set3 k (S k 0) (S k 1) (S k 2)).congr fun j c hj hc => ?_, ?_⟩
  · by_cases e : j = k
    · subst e
      match c, hc with
      | 0, _ => simp
      | 1, _ => simp
      | 2, _ => simp
    · by_cases e' : j < k
      · simp [e, e', show j < k + 1 by omega]
      · simp [e, e', show ¬ j < k + 1 by omega]
  · show (((wr.setCell _ _).setCell _ _).setCell _ _).heap[w.heap.size]? = _
    rw [blk_setCell_other _ _ _ _ (show w.heap.size ≠ w.heap.size + 1 by omega), blk_setCell_other _ _ _ _ (show w.heap.size ≠ w.heap.size + 1 by omega), blk_setCell_other _ _ _ _ (show w.heap.size ≠ w.heap.size + 1 by omega)]
    exact h.res

set_option maxHeartbeats 4000000 in
theorem zz_any (w : World) (name : ByteArray) (a : Option Addr) (n c : Nat) (S : Nat → Nat → Int) (h : IsSegs w a n S) (hn : 0 < n) (hn' : n ≤ 1048577) :
    Calls Try.prog 6 #[.string name, .slice a n c] w fun e w' => UnOut e name n S ∧ Below w.heap.size w w' := by
  have H := hid_of h
  clear h
  have hmk := run_make3 29 31 Try.underlying29 info31 n hn'
  have h0 := hid_of (ZS.start w n S)
  go_enter Try.func6, Try.ntmps6
  go_wp2
  clear hmk
  go_loopg [6] n (fun g i wr => ∃ k : Nat, k ≤ n ∧ g = n - k ∧ i = .int .i64 k ∧ ZS w wr n k S)
  case atStart => exact ⟨0, Nat.zero_le _, rfl, rfl, h0.out⟩
  case round =>
    obtain ⟨k, hk, rfl, rfl, hZ⟩ := hrel
    have HZ := hid_of hZ
    clear hZ h0
    by_cases hlt : k < n
    · obtain ⟨b, o, rfl, c0, c1, c2⟩ := H.out k hlt
      have hbl : b < w.heap.size := World.block_lt_of_cell? _ _ c0
      have hbne : b ≠ w.heap.size + 1 := by omega
      have g0 := bcell HZ.out.bel c0
      have g1 := bcell HZ.out.bel c1
      have g2 := bcell HZ.out.bel c2
      have d0 : wr.cell? ⟨w.heap.size + 1, k * 3, none⟩ = some (.int .i64 0) := by simpa using HZ.out.row.cell hlt (c := 0) (by omega)
      have d1 : wr.cell? ⟨w.heap.size + 1, k * 3 + 1, none⟩ = some (.int .i64 0) := by simpa using HZ.out.row.cell hlt (c := 1) (by omega)
      have d2 : wr.cell? ⟨w.heap.size + 1, k * 3 + 2, none⟩ = some (.int .i64 0) := by simpa using HZ.out.row.cell hlt (c := 2) (by omega)
      have fz := fun o => HZ.out.row.frozen o
      have Hst := hid_of HZ.out.step
      obtain ⟨x0, hx0⟩ : ∃ x, x = S k 0 := ⟨_, rfl⟩
      obtain ⟨x1, hx1⟩ : ∃ x, x = S k 1 := ⟨_, rfl⟩
      obtain ⟨x2, hx2⟩ : ∃ x, x = S k 2 := ⟨_, rfl⟩
      rw [← hx0] at g0 Hst
      rw [← hx1] at g1 Hst
      rw [← hx2] at g2 Hst
      clear c0 c1 c2 hx0 hx1 hx2 hbl
      go_wp2
      go_region
      all_goals go_wp2
      all_goals go_roundg (n - (k + 1))
      all_goals first | omega | exact ⟨k + 1, by omega, rfl, by go_num, Hst.out⟩
    · obtain rfl : k = n := by omega
      have hun := unusedOf_any wr name (w.heap.size + 1) k S (HZ.out.row.congr fun j c hj _ => by rw [if_pos hj]) hn hn'
      clear hlt
      go_wp2_with fail
      refine hun.mono ?_
      clear hun
      rintro e wq ⟨⟨t, bk, rfl, ht, hbk⟩, hbq⟩
      have z : wq.heap[w.heap.size]? = some (.cells #[.string { data := #[] }, .int .i64 0, .int .i64 0, .int .i64 0] 26) := (hbq.block _ (by have := HZ.out.row.lt; omega)).trans HZ.out.res
      have HB : Hid (Below w.heap.size w wq) := HZ.out.bel.trans (hbq.mono HZ.out.bel.size)
      have HT := hid_of (And.intro ht hbk)
      have z0 : wq.cell? ⟨w.heap.size, 0, none⟩ = some (.string { data := #[] }) := by simp [World.cell?, z]
      have z1 : wq.cell? ⟨w.heap.size, 1, none⟩ = some (.int .i64 0) := by simp [World.cell?, z]
      have z2 : wq.cell? ⟨w.heap.size, 2, none⟩ = some (.int .i64 0) := by simp [World.cell?, z]
      have z3 : wq.cell? ⟨w.heap.size, 3, none⟩ = some (.int .i64 0) := by simp [World.cell?, z]
      have fz : ∀ o, wq.frozen? ⟨w.heap.size, o, none⟩ = false := fun o => by simp [World.frozen?, z]
      clear z hbq ht hbk
      go_wp2
      refine bodyPost_ret (v := .agg #[.string name, .int .i64 t, .int .i64 bk, .int .i64 0]) (by simp [results, Try.results6, go_sem, z0, z1, z2, z3]) rfl ⟨⟨_, _, rfl, HT.out.1, HT.out.2⟩, ?_⟩
      exact ((((HB.out.setCell (Nat.le_refl _) _).setCell (Nat.le_refl _) _).setCell (Nat.le_refl _) _).setCell (Nat.le_refl _) _)

theorem zzBytes5_any (w : World) (name : ByteArray) (a : Option Addr) (n c : Nat) (x y z : Int) (hn : n ≤ 9223372036854775807) :
    Calls Try.prog 5 #[.string name, .slice a n c, .agg #[.int .i64 x, .int .i64 y, .int .i64 z]] w fun e w' => (∃ b, e = .returned (.bool b)) ∧ Below w.heap.size w w' := by
  go_enter Try.func5, Try.ntmps5
  go_wp2
  all_goals (go_ret; exact ⟨⟨_, rfl⟩, (Below.refl _ _).alloc (Nat.le_refl _) _⟩)

theorem zzBytes7_any (w : World) (name : ByteArray) (a : Option Addr) (n c : Nat) (k : Int) (hn : n ≤ 9223372036854775807) :
    Calls Try.prog 7 #[.string name, .slice a n c, .int .i64 k] w fun e w' => (∃ b, e = .returned (.bool b)) ∧ w' = w := by
  go_enter Try.func7, Try.ntmps7
  go_wp2
  all_goals (go_ret; exact ⟨⟨_, rfl⟩, rfl⟩)

end Go.Proofs.Qxb6628416a
