import Derived.Test.Qxb6628416aLawA
namespace Go.Proofs.Qxb6628416a
open Go.RowKit Go.Deep
set_option linter.unusedVariables false

/-- The part from p + 1 on. -/
def upS (S : Nat → Nat → Int) (p : Nat) : Nat → Nat → Int := fun j c => S (p + 1 + j) c

theorem run_gap (S : Nat → Nat → Int) (p r : Nat) (h : ∃ q, p ≤ q ∧ q ≤ p + r ∧ S q 2 ≠ S (q + 1) 0) : runOf S (p + 1 + r) = p + 1 + runOf (upS S p) r := by
  induction r with
  | zero =>
    obtain ⟨q, h1, h2, h3⟩ := h
    obtain rfl : q = p := by omega
    exact runOf_stop h3
  | succ r ih =>
    by_cases e : S (p + 1 + r) 2 = S (p + 1 + r + 1) 0
    · obtain ⟨q, h1, h2, h3⟩ := h
      have hq : q ≠ p + (r + 1) := fun e' => h3 (by rw [e', show p + (r + 1) = p + 1 + r by omega]; exact e)
      rw [show p + 1 + (r + 1) = p + 1 + r + 1 by omega, runOf_go e, ih ⟨q, h1, by omega, h3⟩, runOf_go (S := upS S p) (by show S (p + 1 + r) 2 = S (p + 1 + (r + 1)) 0; exact e)]
    · rw [show p + 1 + (r + 1) = p + 1 + r + 1 by omega, runOf_stop e, runOf_stop (S := upS S p) (by show S (p + 1 + r) 2 ≠ S (p + 1 + (r + 1)) 0; exact e)]
      omega

theorem run_join (S : Nat → Nat → Int) (p r : Nat) (h : ∀ q, p ≤ q → q ≤ p + r → S q 2 = S (q + 1) 0) : runOf S (p + 1 + r) = runOf S p ∧ runOf (upS S p) r = 0 := by
  induction r with
  | zero => exact ⟨runOf_go (h p (Nat.le_refl _) (by omega)), rfl⟩
  | succ r ih =>
    have e : S (p + 1 + r) 2 = S (p + 1 + r + 1) 0 := h (p + 1 + r) (by omega) (by omega)
    obtain ⟨i1, i2⟩ := ih (fun q h1 h2 => h q h1 (by omega))
    refine ⟨by rw [show p + 1 + (r + 1) = p + 1 + r + 1 by omega, runOf_go e]; exact i1, ?_⟩
    rw [runOf_go (S := upS S p) (by show S (p + 1 + r) 2 = S (p + 1 + (r + 1)) 0; exact e)]
    exact i2

theorem IsSegs.up {w : World} {g n : Nat} {S : Nat → Nat → Int} (h : IsSegs w (some ⟨g, 0, none⟩) n S) (p r : Nat) (hr : p + 1 + r ≤ n) : IsSegs w (some ⟨g, (p + 1) * 3, none⟩) r (upS S p) := by
  intro j hj
  obtain ⟨b, o, e, c0, c1, c2⟩ := h (p + 1 + j) (by omega)
  cases e
  refine ⟨g, (p + 1) * 3, rfl, ?_, ?_, ?_⟩
  · rw [show (p + 1) * 3 + j * 3 = 0 + (p + 1 + j) * 3 by omega]; exact c0
  · rw [show (p + 1) * 3 + j * 3 = 0 + (p + 1 + j) * 3 by omega]; exact c1
  · rw [show (p + 1) * 3 + j * 3 = 0 + (p + 1 + j) * 3 by omega]; exact c2
theorem IsSegs.low {w : World} {a : Option Addr} {n m : Nat} {S : Nat → Nat → Int} (h : IsSegs w a n S) (hm : m ≤ n) : IsSegs w a m S := fun j hj => h j (by omega)

set_option maxRecDepth 100000 in
set_option maxHeartbeats 8000000 in
theorem lawB_out (w : World) (name : ByteArray) (a : Option Addr) (n c : Nat) (k : Int) (hn : n ≤ 9223372036854775807) (hk : k < 1 ∨ n ≤ k) :
    Calls Try.prog 4 #[.string name, .slice a n c, .int .i64 k] w fun e w' => e = .returned (.bool true) ∧ Below w.heap.size w w' := by
  have hzz := zzBytes7_any w name a n c k hn
  go_enter Try.func4, Try.ntmps4
  go_wp2_with fail
  refine hzz.mono ?_
  clear hzz
  rintro e w' ⟨⟨b, rfl⟩, hw'⟩
  obtain rfl : w = w' := hw'.symm
  clear hw'
  cases b
  · clear hk
    go_wp2
    go_ret
    exact ⟨rfl, Below.refl _ _⟩
  · by_cases hk1 : k < 1
    · clear hk
      go_wp2
      all_goals (go_ret; exact ⟨rfl, Below.refl _ _⟩)
    · have hk2 : (n : Int) ≤ k := by omega
      clear hk
      go_wp2
      all_goals (go_ret; exact ⟨rfl, Below.refl _ _⟩)

set_option maxRecDepth 100000 in
set_option maxHeartbeats 8000000 in
theorem lawB_in (w : World) (name : ByteArray) (ad : Addr) (p r c : Nat) (S : Nat → Nat → Int) (h : IsSegs w (some ad) (p + 1 + (r + 1)) S) (hn : p + 1 + (r + 1) ≤ 9223372036854775807) :
    Calls Try.prog 4 #[.string name, .slice (some ad) (p + 1 + (r + 1)) c, .int .i64 ((p + 1 : Nat) : Int)] w fun e w' => e = .returned (.bool true) ∧ Below w.heap.size w w' := by
  have H := hid_of h
  clear h
  have q := q22n
  have hzz := zzBytes7_any w name (some ad) (p + 1 + (r + 1)) c ((p + 1 : Nat) : Int) hn
  obtain ⟨n, hnn⟩ : ∃ n, n = p + 1 + (r + 1) := ⟨_, rfl⟩
  obtain ⟨k, hkk⟩ : ∃ k, k = p + 1 := ⟨_, rfl⟩
  rw [← hnn] at H hzz hn ⊢
  rw [← hkk] at hzz ⊢
  have HN := hid_of (And.intro hnn hkk)
  have hk1 : (1 : Int) ≤ k := by omega
  have hk2 : (k : Int) < n := by omega
  have hk3 : k < n := by omega
  clear hnn hkk
  go_enter Try.func4, Try.ntmps4
  go_wp2_with fail
  refine hzz.mono ?_
  clear hzz
  rintro e w' ⟨⟨b, rfl⟩, hw'⟩
  obtain rfl : w = w' := hw'.symm
  clear hw'
  cases b
  · go_wp2
    go_ret
    exact ⟨rfl, Below.refl _ _⟩
  · by_cases hn14 : n ≤ 16384
    · have hmk := run_make3 22 23 Try.underlying22 info23 n (by omega)
      have hcp := copied w ad n c S H.out
      have hcp1 := hcp.1
      have hcp2 := hid_of hcp.2
      clear hcp
      by_cases hnm : name.size ≤ 524288
      · go_upto_region 13 with fail
        generalize hw2 : (w.alloc (.cells (madeCells #[.int .i64 0, .int .i64 0, .int .i64 0] (n * 3)) 23)).setRow w.heap.size (flat3 S n).toArray = w2 at hcp2 ⊢
        clear hw2 hcp1 hmk q
        have hcall := zz_any w2 name (some ⟨w.heap.size, 0, none⟩) n n S hcp2.out.2.segs (by omega) (by omega)
        go_wp2_with fail
        refine hcall.mono ?_
        clear hcall
        rintro e wA ⟨⟨tW, bW, rfl, htW, hbW⟩, hbA⟩
        have HA := hid_of (And.intro htW (And.intro hbW hbA))
        clear htW hbW hbA
        have hnk : n - k = r + 1 := by have := HN.out; omega
        have hke : k = p + 1 := HN.out.2
        have hne : n - 1 = p + 1 + r := by have := HN.out; omega
        have HR := hid_of (hcp2.out.2.later HA.out.2.2)
        have hup : ∀ o, IsSegs (wA.alloc o) (some ⟨w.heap.size, k * 3, none⟩) (n - k) (upS S p) := fun o => by
          have := (((HR.out.later ((Below.refl _ _).alloc (Nat.le_refl _) o)).segs).up p (r + 1) (by have := HN.out; omega))
          rw [hnk, hke]
          exact this
        have HE := hid_of (And.intro hnk (And.intro hke hne))
        clear hnk hke hne
        go_wp2_with fail
        refine (zz_any _ name _ (n - k) (n - k) (upS S p) (hup _) (by omega) (by omega)).mono ?_
        clear hup
        rintro e wB ⟨⟨tU, bU, rfl, htU, hbU⟩, hbB⟩
        obtain ⟨v, hv⟩ : ∃ v, v = S (n - 1) 2 := ⟨_, rfl⟩
        have htW : tW = wrap64 (v - 1) := by rw [hv]; exact HA.out.1
        have htU' : tU = wrap64 (v - 1) := by
          rw [htU, hv, HE.out.1, HE.out.2.2]
          rfl
        subst htW
        subst htU'
        have hblkA : wB.heap[wA.heap.size]? = some (.cells #[.string name, .int .i64 (wrap64 (v - 1)), .int .i64 bW, .int .i64 0] 26) := (hbB.block _ (by simp)).trans (blk_alloc_new wA _)
        have HRB := hid_of (HR.out.later (((Below.refl _ _).alloc (Nat.le_refl _) _).trans (hbB.mono (by simp))))
        have hbw : Below w.heap.size w wB := (hcp2.out.1.trans (HA.out.2.2.mono hcp2.out.1.size)).trans ((((Below.refl _ _).alloc (Nat.le_refl _) _).trans (hbB.mono (by simp))).mono (Nat.le_trans hcp2.out.1.size HA.out.2.2.size))
        have HBw := hid_of hbw
        have hbW := HA.out.2.1
        have Hb := hid_of (And.intro hbW hbU)
        have a0 : ∀ o, (wB.alloc o).cell? ⟨wA.heap.size, 0, none⟩ = some (.string name) := fun o => bcell ((Below.refl _ _).alloc (Nat.le_refl _) _) (by simp [World.cell?, hblkA])
        have a1 : ∀ o, (wB.alloc o).cell? ⟨wA.heap.size, 1, none⟩ = some (.int .i64 (wrap64 (v - 1))) := fun o => bcell ((Below.refl _ _).alloc (Nat.le_refl _) _) (by simp [World.cell?, hblkA])
        have a2 : ∀ o, (wB.alloc o).cell? ⟨wA.heap.size, 2, none⟩ = some (.int .i64 bW) := fun o => bcell ((Below.refl _ _).alloc (Nat.le_refl _) _) (by simp [World.cell?, hblkA])
        have a3 : ∀ o, (wB.alloc o).cell? ⟨wA.heap.size, 3, none⟩ = some (.int .i64 0) := fun o => bcell ((Below.refl _ _).alloc (Nat.le_refl _) _) (by simp [World.cell?, hblkA])
        have g2 : ∀ o, (wB.alloc o).cell? ⟨w.heap.size, (n - 1) * 3 + 2, none⟩ = some (.int .i64 v) := fun o => bcell ((Below.refl _ _).alloc (Nat.le_refl _) _) (by rw [hv]; exact HRB.out.cell (by omega) (by omega))
        clear hblkA hbw hbW hbU htU hbB HA HR hcp2 hv
        go_wp2
        go_quiet (fail)
        go_wp2
        go_loopg [11, 12] (n - k) (fun g j i wr => ∃ q m : Nat, k ≤ q ∧ q ≤ n ∧ g = n - q ∧ i = .int .i64 q ∧ j = .bool true ∧ wr = (wB.alloc (.cells #[.string name, .int .i64 (wrap64 (v - 1)), .int .i64 bU, .int .i64 0] 26)).drewN m ∧ ∀ i, p ≤ i → i + 1 < q → S i 2 = S (i + 1) 0)
        case atStart => exact ⟨k, _, Nat.le_refl _, by omega, rfl, rfl, rfl, rfl, fun i h1 h2 => by have := HE.out.2.1; omega⟩
        case round =>
          obtain ⟨q, m, hq1, hq2, rfl, rfl, rfl, hw, hJ⟩ := hrel
          have HW := hid_of hw
          have HJ := hid_of hJ
          have b2 : wr.cell? ⟨wA.heap.size, 2, none⟩ = some (.int .i64 bW) := by rw [hw]; exact a2 _
          have hblk : wr.heap[wB.heap.size]? = some (.cells #[.string name, .int .i64 (wrap64 (v - 1)), .int .i64 bU, .int .i64 0] 26) := by rw [hw]; exact blk_alloc_new wB _
          have c2 : wr.cell? ⟨wB.heap.size, 2, none⟩ = some (.int .i64 bU) := by simp [World.cell?, hblk]
          have hbBr : Below wB.heap.size wB wr := by rw [hw]; exact below_drewN ((Below.refl _ _).alloc (Nat.le_refl _) _) _
          have HRr := hid_of (HRB.out.later hbBr)
          have HBr := hid_of (HBw.out.trans (hbBr.mono HBw.out.size))
          clear hw hJ hblk hbBr a0 a1 a2 a3 g2
          by_cases hlt : q < n
          · obtain ⟨q', rfl⟩ : ∃ q', q = q' + 1 := ⟨q - 1, by omega⟩
            have f2 : wr.cell? ⟨w.heap.size, q' * 3 + 2, none⟩ = some (.int .i64 (S q' 2)) := HRr.out.cell (by omega) (by omega)
            have f0 : wr.cell? ⟨w.heap.size, (q' + 1) * 3, none⟩ = some (.int .i64 (S (q' + 1) 0)) := HRr.out.cell (j := q' + 1) (c := 0) (by omega) (by omega)
            obtain ⟨y2, hy2⟩ : ∃ x, x = S q' 2 := ⟨_, rfl⟩
            obtain ⟨y0, hy0⟩ : ∃ x, x = S (q' + 1) 0 := ⟨_, rfl⟩
            rw [← hy2] at f2
            rw [← hy0] at f0
            by_cases hyy : y2 = y0
            · have hS : S q' 2 = S (q' + 1) 0 := by rw [← hy2, ← hy0]; exact hyy
              have HS := hid_of hS
              have htest : (y2 != y0) = false := by simp [hyy]
              clear hyy hS hy2 hy0
              go_wp2
              go_quiet (fail)
              go_wp2
              go_roundg (n - (q' + 1 + 1))
              case measure => omega
              case rel =>
                refine ⟨q' + 1 + 1, _, by omega, by omega, rfl, by go_num, rfl, by rw [HW.out, World.drewN_drewN], fun i h1 h2 => ?_⟩
                by_cases e : i = q'
                · subst e; exact HS.out
                · exact HJ.out i h1 (by omega)
            · have hS : S q' 2 ≠ S (q' + 1) 0 := by rw [← hy2, ← hy0]; exact hyy
              have htest : (y2 != y0) = true := by simp [hyy]
              have hbb : bU = bW := by
                rw [Hb.out.1, Hb.out.2, HE.out.2.2, run_gap S p r ⟨q', by have := HE.out.2.1; omega, by have := HE.out; omega, hS⟩, HE.out.1]
                rfl
              subst hbb
              clear hyy hS hy2 hy0
              go_wp2
              go_quiet (fail)
              go_wp2
              go_ret
              exact ⟨by simp, below_drewN HBr.out _⟩
          · obtain rfl : q = n := by omega
            clear hlt
            have hjn := run_join S p r (fun i h1 h2 => HJ.out i h1 (by have := HE.out; omega))
            have k1 : wr.cell? ⟨w.heap.size, k * 3 + 1, none⟩ = some (.int .i64 (S k 1)) := HRr.out.cell (by omega) (by omega)
            obtain ⟨u, hu⟩ : ∃ u, u = S k 1 := ⟨_, rfl⟩
            rw [← hu] at k1
            have hbU : bU = wrap64 (u - 1) := by
              rw [Hb.out.2, HE.out.1, hu, HE.out.2.1, show r + 1 - 1 = r from rfl, hjn.2]
              rfl
            have HbW : Hid (bW = wrap64 (S (runOf S p) 1 - 1)) := by
              show bW = _
              rw [Hb.out.1, HE.out.2.2, hjn.1]
            subst hbU
            clear hjn hu Hb
            go_wp2
            go_quiet (fail)
            go_wp2_with fail
            refine (zz_any _ name _ k q S (((HRr.out.later (below_drewN (Below.refl _ _) _)).segs).low (by omega)) (by omega) (by omega)).mono ?_
            rintro e wC ⟨⟨tL, bL, rfl, htL, hbL⟩, hbC⟩
            have e2 : ∀ o, (wC.alloc o).cell? ⟨wA.heap.size, 2, none⟩ = some (.int .i64 bW) := fun o => bcell (hbC.alloc hbC.size o) b2
            have HBC := hid_of ((below_drewN HBr.out nq).trans (hbC.mono HBr.out.size))
            have hbb : bL = bW := by rw [hbL, HbW.out, HE.out.2.1, show p + 1 - 1 = p from rfl]
            subst hbb
            clear htL hbL hbC
            go_wp2
            go_ret
            exact ⟨by simp, HBC.out.alloc HBC.out.size _⟩
      · go_wp2
        all_goals (go_ret; exact ⟨rfl, Below.refl _ _⟩)
    · go_wp2
      all_goals (go_ret; exact ⟨rfl, Below.refl _ _⟩)

end Go.Proofs.Qxb6628416a
