import Derived.Test.Qxb6628416aLawA
namespace Go.Proofs.Qxb6628416a
open Go.RowKit Go.Deep
set_option linter.unusedVariables false

set_option maxRecDepth 100000 in
set_option maxHeartbeats 8000000 in
theorem lawA_some (w : World) (name : ByteArray) (ad : Addr) (n c : Nat) (S : Nat → Nat → Int) (x y z : Int) (h : IsSegs w (some ad) n S) (hn : n ≤ 9223372036854775807) :
    Calls Try.prog 3 #[.string name, .slice (some ad) n c, .agg #[.int .i64 x, .int .i64 y, .int .i64 z]] w fun e w' => e = .returned (.bool true) ∧ Below w.heap.size w w' := by
  have H := hid_of h
  clear h
  have q := q22n
  have hzz := zzBytes5_any (w.alloc (.cells #[.int .i64 x, .int .i64 y, .int .i64 z] 23)) name (some ad) n c x y z hn
  go_enter Try.func3, Try.ntmps3
  go_wp2_with fail
  refine hzz.mono ?_
  clear hzz
  rintro e w1 ⟨⟨b, rfl⟩, hB⟩
  have hB1 : Below w.heap.size w w1 := ((Below.refl _ _).alloc (Nat.le_refl _) _).trans (hB.mono (by simp))
  have hbx : w1.heap[w.heap.size]? = some (.cells #[.int .i64 x, .int .i64 y, .int .i64 z] 23) := (hB.block _ (by simp)).trans (blk_alloc_new w _)
  have HB1 := hid_of hB1
  have HX := hid_of hbx
  clear hB hB1 hbx
  cases b
  · go_wp2
    go_ret
    exact ⟨rfl, HB1.out⟩
  · by_cases hn14 : n ≤ 16384
    · have hmk := run_make3 22 23 Try.underlying22 info23 n (by omega)
      have hcp := copied w1 ad n c S (H.out.later HB1.out)
      have hcp1 := hcp.1
      have hcp2 := hid_of hcp.2
      clear hcp
      by_cases hnm : name.size ≤ 524288
      · go_upto_region 11 with fail
        generalize hw2 : (w1.alloc (.cells (madeCells #[.int .i64 0, .int .i64 0, .int .i64 0] (n * 3)) 23)).setRow w1.heap.size (flat3 S n).toArray = w2 at hcp2 ⊢
        clear hw2 hcp1 hmk q
        have hbx : w2.heap[w.heap.size]? = some (.cells #[.int .i64 x, .int .i64 y, .int .i64 z] 23) := (hcp2.out.1.block _ (by obtain ⟨h, _⟩ := Array.getElem?_eq_some_iff.1 HX.out; exact h)).trans HX.out
        have HX2 := hid_of hbx
        have HB2 : Hid (Below w.heap.size w w2) := HB1.out.trans (hcp2.out.1.mono HB1.out.size)
        have HR := hid_of hcp2.out.2
        clear hbx HX HB1 hcp2
        have hmk := run_make3 22 23 Try.underlying22 info23 (n + 1) (by omega)
        rw [show ((n + 1 : Nat) : Int) = (n : Int) + 1 by omega] at hmk
        have h0 := hid_of (GS.start w2 n S)
        go_wp2
        clear hmk
        go_loopg [9] n (fun g i wr => ∃ k : Nat, k ≤ n ∧ g = n - k ∧ i = .int .i64 k ∧ GS w2 wr n k S)
        case atStart => exact ⟨0, Nat.zero_le _, rfl, rfl, h0.out⟩
        case round =>
          obtain ⟨k, hk, rfl, rfl, hG⟩ := hrel
          have HG := hid_of hG
          clear hG h0
          by_cases hlt : k < n
          · have hrow := HR.out.later HG.out.bel
            have g0 : wr.cell? ⟨w1.heap.size, k * 3, none⟩ = some (.int .i64 (S k 0)) := hrow.cell hlt (c := 0) (by omega)
            have g1 : wr.cell? ⟨w1.heap.size, k * 3 + 1, none⟩ = some (.int .i64 (S k 1)) := hrow.cell hlt (c := 1) (by omega)
            have g2 : wr.cell? ⟨w1.heap.size, k * 3 + 2, none⟩ = some (.int .i64 (S k 2)) := hrow.cell hlt (c := 2) (by omega)
            have d0 : wr.cell? ⟨w2.heap.size, k * 3, none⟩ = some (.int .i64 0) := by simpa using HG.out.row.cell (j := k) (by omega) (c := 0) (by omega)
            have d1 : wr.cell? ⟨w2.heap.size, k * 3 + 1, none⟩ = some (.int .i64 0) := by simpa using HG.out.row.cell (j := k) (by omega) (c := 1) (by omega)
            have d2 : wr.cell? ⟨w2.heap.size, k * 3 + 2, none⟩ = some (.int .i64 0) := by simpa using HG.out.row.cell (j := k) (by omega) (c := 2) (by omega)
            have fz := fun o => HG.out.row.frozen o
            have hgl := HR.out.lt
            have hbne : w1.heap.size ≠ w2.heap.size := by omega
            have Hst := hid_of HG.out.step
            clear hrow
            go_wp2
            go_roundg (n - (k + 1))
            case measure => omega
            case rel => exact ⟨k + 1, by omega, rfl, by go_num, Hst.out⟩
          · obtain rfl : k = n := by omega
            clear hlt
            have hbx : wr.heap[w.heap.size]? = some (.cells #[.int .i64 x, .int .i64 y, .int .i64 z] 23) := (HG.out.bel.block _ (by obtain ⟨h, _⟩ := Array.getElem?_eq_some_iff.1 HX2.out; exact h)).trans HX2.out
            have hbl : w.heap.size < w2.heap.size := by obtain ⟨h, _⟩ := Array.getElem?_eq_some_iff.1 HX2.out; exact h
            have p0 : wr.cell? ⟨w.heap.size, 0, none⟩ = some (.int .i64 x) := by simp [World.cell?, hbx]
            have p1 : wr.cell? ⟨w.heap.size, 1, none⟩ = some (.int .i64 y) := by simp [World.cell?, hbx]
            have p2 : wr.cell? ⟨w.heap.size, 2, none⟩ = some (.int .i64 z) := by simp [World.cell?, hbx]
            have d0 : wr.cell? ⟨w2.heap.size, k * 3, none⟩ = some (.int .i64 0) := by simpa using HG.out.row.cell (j := k) (by omega) (c := 0) (by omega)
            have d1 : wr.cell? ⟨w2.heap.size, k * 3 + 1, none⟩ = some (.int .i64 0) := by simpa using HG.out.row.cell (j := k) (by omega) (c := 1) (by omega)
            have d2 : wr.cell? ⟨w2.heap.size, k * 3 + 2, none⟩ = some (.int .i64 0) := by simpa using HG.out.row.cell (j := k) (by omega) (c := 2) (by omega)
            have fz := fun o => HG.out.row.frozen o
            have HD := hid_of (HG.out.done x y z)
            have hcall := zz_any _ name (some ⟨w2.heap.size, 0, none⟩) (k + 1) (k + 1) (top3 S k x y z) HD.out.2.segs (by omega) (by omega)
            clear hbx
            go_wp2_with fail
            refine hcall.mono ?_
            clear hcall
            rintro e wq ⟨⟨t1, b1, rfl, ht1, hb1⟩, hbq⟩
            rw [top_end] at ht1
            have HBq : Hid (Below w2.heap.size w2 wq) := HD.out.1.trans (hbq.mono HD.out.1.size)
            have hbx : wq.heap[w.heap.size]? = some (.cells #[.int .i64 x, .int .i64 y, .int .i64 z] 23) := (HBq.out.block _ hbl).trans HX2.out
            have p0 : ∀ o, (wq.alloc o).cell? ⟨w.heap.size, 0, none⟩ = some (.int .i64 x) := fun o => bcell ((Below.refl _ _).alloc (Nat.le_refl _) _) (by simp [World.cell?, hbx])
            have p1 : ∀ o, (wq.alloc o).cell? ⟨w.heap.size, 1, none⟩ = some (.int .i64 y) := fun o => bcell ((Below.refl _ _).alloc (Nat.le_refl _) _) (by simp [World.cell?, hbx])
            have p2 : ∀ o, (wq.alloc o).cell? ⟨w.heap.size, 2, none⟩ = some (.int .i64 z) := fun o => bcell ((Below.refl _ _).alloc (Nat.le_refl _) _) (by simp [World.cell?, hbx])
            subst ht1
            have HR3 := hid_of (HR.out.later HBq.out)
            have hbw : Below w.heap.size w wq := HB2.out.trans (HBq.out.mono HB2.out.size)
            have HBw := hid_of hbw
            clear hbx hbq HD HG fz d0 d1 d2 hbw
            rw [show k + 1 - 1 = k from rfl] at hb1
            rcases Nat.eq_zero_or_pos k with hk0 | hk0
            · rw [back_gap S k x y z (.inl hk0)] at hb1
              subst hb1
              subst hk0
              go_wp2
              go_quiet (fail)
              go_wp2
              go_ret
              exact ⟨by simp, below_drewN (HBw.out.alloc HBw.out.size _) _⟩
            · obtain ⟨m, rfl⟩ : ∃ m, k = m + 1 := ⟨k - 1, by omega⟩
              have g2 : ∀ o, (wq.alloc o).cell? ⟨w1.heap.size, m * 3 + 2, none⟩ = some (.int .i64 (S m 2)) := fun o => bcell ((Below.refl _ _).alloc (Nat.le_refl _) _) (HR3.out.cell (by omega) (by omega))
              have t0 : (((m : Int) + 1) == 0) = false := by simp; omega
              have t0' : ((((m + 1 : Nat) : Int)) == 0) = false := by simp; omega
              by_cases hj : S m 2 = x
              · rw [back_join S m x y z hj] at hb1
                subst hb1
                have HJ := hid_of hj
                rw [hj] at g2
                clear hj
                go_wp2
                go_quiet (fail)
                go_wp2_with fail
                refine (zz_any _ name _ (m + 1) (m + 1) S ((HR3.out.later (below_drewN ((Below.refl _ _).alloc (Nat.le_refl _) _) _)).segs) (by omega) (by omega)).mono ?_
                rintro e wz ⟨⟨t2, b2, rfl, ht2, hb2⟩, hbz⟩
                rw [show m + 1 - 1 = m from rfl] at ht2 hb2
                rw [HJ.out] at ht2
                have hz : wz.heap[wq.heap.size]? = some (.cells #[.string name, .int .i64 (wrap64 (z - 1)), .int .i64 (wrap64 (S (runOf S m) 1 - 1)), .int .i64 0] 26) := (hbz.block _ (by simp)).trans (blk_alloc_new wq _)
                have HBz : Hid (Below w.heap.size w wz) := (below_drewN (HBw.out.alloc HBw.out.size _) _).trans (hbz.mono (Nat.le_trans HBw.out.size (by simp)))
                have r2 : ∀ o, (wz.alloc o).cell? ⟨w1.heap.size, m * 3 + 2, none⟩ = some (.int .i64 x) := fun o => bcell (hbz.alloc hbz.size o) (g2 _)
                have a2 : ∀ o, (wz.alloc o).cell? ⟨wq.heap.size, 2, none⟩ = some (.int .i64 (wrap64 (S (runOf S m) 1 - 1))) := fun o => bcell ((Below.refl _ _).alloc (Nat.le_refl _) _) (by simp [World.cell?, hz])
                subst ht2
                subst hb2
                generalize S (runOf S m) 1 = sb at hz a2 ⊢
                clear hbz hz g2
                go_wp2
                go_quiet (fail)
                go_wp2
                go_ret
                exact ⟨by simp, below_drewN (HBz.out.alloc HBz.out.size _) _⟩
              · rw [back_gap S (m + 1) x y z (.inr hj)] at hb1
                subst hb1
                obtain ⟨v, hv⟩ : ∃ v, v = S m 2 := ⟨_, rfl⟩
                rw [← hv] at g2 hj
                have htest : (v != x) = true := by simp [hj]
                clear hv hj
                go_wp2
                go_quiet (fail)
                go_wp2
                go_ret
                exact ⟨by simp, below_drewN (HBw.out.alloc HBw.out.size _) _⟩
      · go_wp2
        all_goals (go_ret; exact ⟨rfl, HB1.out⟩)
    · go_wp2
      all_goals (go_ret; exact ⟨rfl, HB1.out⟩)

end Go.Proofs.Qxb6628416a
