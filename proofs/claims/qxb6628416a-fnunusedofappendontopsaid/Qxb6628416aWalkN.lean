import Derived.Test.Qxb6628416aLawA
namespace Go.Proofs.Qxb6628416a
open Go.RowKit Go.Deep
set_option linter.unusedVariables false

set_option maxRecDepth 100000 in
set_option maxHeartbeats 8000000 in
theorem lawA_nil (w : World) (name : ByteArray) (x y z : Int) :
    Calls Try.prog 3 #[.string name, .slice none 0 0, .agg #[.int .i64 x, .int .i64 y, .int .i64 z]] w fun e w' => e = .returned (.bool true) ∧ Below w.heap.size w w' := by
  have q := q22n
  have hzz := zzBytes5_any (w.alloc (.cells #[.int .i64 x, .int .i64 y, .int .i64 z] 23)) name none 0 0 x y z (by omega)
  go_enter Try.func3, Try.ntmps3
  go_wp2_with fail
  refine hzz.mono ?_
  clear hzz
  rintro e w2 ⟨⟨b, rfl⟩, hB⟩
  have hB1 : Below w.heap.size w w2 := ((Below.refl _ _).alloc (Nat.le_refl _) _).trans (hB.mono (by simp))
  have hbx : w2.heap[w.heap.size]? = some (.cells #[.int .i64 x, .int .i64 y, .int .i64 z] 23) := (hB.block _ (by simp)).trans (blk_alloc_new w _)
  have HB2 := hid_of hB1
  have HX2 := hid_of hbx
  clear hB hB1 hbx
  cases b
  · go_wp2
    go_ret
    exact ⟨rfl, HB2.out⟩
  · by_cases hnm : name.size ≤ 524288
    · have hmk : ∀ w : World, (Instr.makeSlice 22 (.int .i64 1) (.int .i64 1)).run Try.prog w = .ok (.slice (some ⟨w.heap.size, 0, none⟩) 1 1) (w.alloc (.cells (madeCells #[.int .i64 0, .int .i64 0, .int .i64 0] 3) 23)) := fun w => run_make3 22 23 Try.underlying22 info23 1 (by omega) w
      have h0 := hid_of (GS.start w2 0 (fun _ _ => 0))
      go_wp2
      clear hmk
      go_loopg [9] 0 (fun g i wr => i = .int .i64 0 ∧ GS w2 wr 0 0 (fun _ _ => 0))
      case atStart => exact ⟨rfl, h0.out⟩
      case round =>
        obtain ⟨rfl, hG⟩ := hrel
        have HG := hid_of hG
        clear hG h0
        have hbx : wr.heap[w.heap.size]? = some (.cells #[.int .i64 x, .int .i64 y, .int .i64 z] 23) := (HG.out.bel.block _ (by obtain ⟨h, _⟩ := Array.getElem?_eq_some_iff.1 HX2.out; exact h)).trans HX2.out
        have hbl : w.heap.size < w2.heap.size := by obtain ⟨h, _⟩ := Array.getElem?_eq_some_iff.1 HX2.out; exact h
        have p0 : wr.cell? ⟨w.heap.size, 0, none⟩ = some (.int .i64 x) := by simp [World.cell?, hbx]
        have p1 : wr.cell? ⟨w.heap.size, 1, none⟩ = some (.int .i64 y) := by simp [World.cell?, hbx]
        have p2 : wr.cell? ⟨w.heap.size, 2, none⟩ = some (.int .i64 z) := by simp [World.cell?, hbx]
        have d0 : wr.cell? ⟨w2.heap.size, 0, none⟩ = some (.int .i64 0) := by simpa using HG.out.row.cell (j := 0) (by omega) (c := 0) (by omega)
        have d1 : wr.cell? ⟨w2.heap.size, 1, none⟩ = some (.int .i64 0) := by simpa using HG.out.row.cell (j := 0) (by omega) (c := 1) (by omega)
        have d2 : wr.cell? ⟨w2.heap.size, 2, none⟩ = some (.int .i64 0) := by simpa using HG.out.row.cell (j := 0) (by omega) (c := 2) (by omega)
        have fz := fun o => HG.out.row.frozen o
        have HD := hid_of (HG.out.done x y z)
        have hcall : Calls Try.prog 6 #[.string name, .slice (some ⟨w2.heap.size, 0, none⟩) 1 1] (((wr.setCell ⟨w2.heap.size, 0, none⟩ (.int .i64 x)).setCell ⟨w2.heap.size, 1, none⟩ (.int .i64 y)).setCell ⟨w2.heap.size, 2, none⟩ (.int .i64 z))
            fun e w' => UnOut e name 1 (top3 (fun _ _ => 0) 0 x y z) ∧ Below (((wr.setCell ⟨w2.heap.size, 0, none⟩ (.int .i64 x)).setCell ⟨w2.heap.size, 1, none⟩ (.int .i64 y)).setCell ⟨w2.heap.size, 2, none⟩ (.int .i64 z)).heap.size (((wr.setCell ⟨w2.heap.size, 0, none⟩ (.int .i64 x)).setCell ⟨w2.heap.size, 1, none⟩ (.int .i64 y)).setCell ⟨w2.heap.size, 2, none⟩ (.int .i64 z)) w' :=
          zz_any _ name (some ⟨w2.heap.size, 0, none⟩) 1 1 (top3 (fun _ _ => 0) 0 x y z) HD.out.2.segs (by omega) (by omega)
        clear hbx
        go_wp2_with fail
        refine hcall.mono ?_
        clear hcall
        rintro e wq ⟨⟨t1, b1, rfl, ht1, hb1⟩, hbq⟩
        have hd1 : Below w2.heap.size w2 (((wr.setCell ⟨w2.heap.size, 0, none⟩ (.int .i64 x)).setCell ⟨w2.heap.size, 1, none⟩ (.int .i64 y)).setCell ⟨w2.heap.size, 2, none⟩ (.int .i64 z)) := HD.out.1
        have HBq : Hid (Below w2.heap.size w2 wq) := hd1.trans (hbq.mono hd1.size)
        have hbx : wq.heap[w.heap.size]? = some (.cells #[.int .i64 x, .int .i64 y, .int .i64 z] 23) := (HBq.out.block _ hbl).trans HX2.out
        have p0 : ∀ o, (wq.alloc o).cell? ⟨w.heap.size, 0, none⟩ = some (.int .i64 x) := fun o => bcell ((Below.refl _ _).alloc (Nat.le_refl _) _) (by simp [World.cell?, hbx])
        have p1 : ∀ o, (wq.alloc o).cell? ⟨w.heap.size, 1, none⟩ = some (.int .i64 y) := fun o => bcell ((Below.refl _ _).alloc (Nat.le_refl _) _) (by simp [World.cell?, hbx])
        have p2 : ∀ o, (wq.alloc o).cell? ⟨w.heap.size, 2, none⟩ = some (.int .i64 z) := fun o => bcell ((Below.refl _ _).alloc (Nat.le_refl _) _) (by simp [World.cell?, hbx])
        have ht1 : t1 = wrap64 (z - 1) := ht1
        have hb1 : b1 = wrap64 (y - 1) := hb1
        subst ht1
        subst hb1
        have HBw : Hid (Below w.heap.size w wq) := HB2.out.trans (HBq.out.mono HB2.out.size)
        clear hbx hbq HD HG fz d0 d1 d2 hd1
        go_wp2
        go_quiet (fail)
        go_wp2
        go_ret
        exact ⟨by simp, below_drewN (HBw.out.alloc HBw.out.size _) _⟩
    · go_wp2
      all_goals (go_ret; exact ⟨rfl, HB2.out⟩)

end Go.Proofs.Qxb6628416a
