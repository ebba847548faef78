import Derived.Test.Qxb6628363aNew
namespace Go.Proofs.Qxb6628363a
open Go.RowKit Go.Deep
set_option linter.unusedVariables false

theorem cell_new (w : World) (cs : Array Value) (t : TypeId) (j : Nat) : (w.alloc (.cells cs t)).cell? ⟨w.heap.size, j, none⟩ = cs[j]? := by
  unfold World.cell?
  simp only [blk_alloc_new]
  rfl

/-- What the first m losses leave of tranche j. -/
def onv (G : Nat → Int) (Z : Nat → Nat → Int) : Nat → Nat → Int
  | 0, j => G j
  | m + 1, j => wrap64 (onv G Z m j - Z m j)

/-- The ledger as On reads it. -/
structure Led (w : World) (xb : Nat) (ag : Option Addr) (gn gc : Nat) (lo : Option Addr) (n lc : Nat) (G : Nat → Int) (D : Nat → Int) (A : Nat → Option Addr) (C : Nat → Nat) (Z : Nat → Nat → Int) : Prop where
  c3 : w.cell? ⟨xb, 3, none⟩ = some (.slice ag gn gc)
  c4 : w.cell? ⟨xb, 4, none⟩ = some (.slice lo n lc)
  g : IsInts w ag gn G
  gnil : ag = none → gn = 0 ∧ gc = 0
  loss : ∀ i, i < n → ∃ lb, lo = some ⟨lb, 0, none⟩ ∧ w.cell? ⟨lb, i * 4, none⟩ = some (.int .u64 (D i % 1000000000)) ∧ w.cell? ⟨lb, i * 4 + 1, none⟩ = some (.int .i64 (D i / 1000000000)) ∧ w.cell? ⟨lb, i * 4 + 2, none⟩ = some (.pointer none) ∧ w.cell? ⟨lb, i * 4 + 3, none⟩ = some (.slice (A i) gn (C i))
  row : ∀ i, i < n → IsInts w (A i) gn (Z i)

structure OnI (w wr : World) (g gn k : Nat) (G : Nat → Int) (Z : Nat → Nat → Int) : Prop where
  below : Below w.heap.size w wr
  row : 0 < gn → w.heap.size ≤ g ∧ rowHas wr g 2 gn (fun j => .int .i64 (onv G Z k j))

/-- in the midst of a loss: i of the tranches are done -/
structure OnJ (w wr : World) (g gn k i : Nat) (G : Nat → Int) (Z : Nat → Nat → Int) : Prop where
  below : Below w.heap.size w wr
  row : 0 < gn → w.heap.size ≤ g ∧ rowHas wr g 2 gn (fun j => .int .i64 (if j < i then onv G Z (k + 1) j else onv G Z k j))

theorem OnI.later {w wr w2 : World} {g gn k : Nat} {G : Nat → Int} {Z : Nat → Nat → Int} (h : OnI w wr g gn k G Z) (hb : Below wr.heap.size wr w2) : OnI w w2 g gn k G Z := by
  have hz := h.below.size
  exact ⟨h.below.trans (hb.mono (by omega)), fun hg => ⟨(h.row hg).1, (h.row hg).2.below hb (h.row hg).2.lt⟩⟩

theorem OnI.start {w wr : World} {g gn k : Nat} {G : Nat → Int} {Z : Nat → Nat → Int} (h : OnI w wr g gn k G Z) : OnJ w wr g gn k 0 G Z :=
  ⟨h.below, fun hg => ⟨(h.row hg).1, (h.row hg).2.congr (fun j _ => by simp)⟩⟩

theorem OnJ.step {w wr : World} {g gn k i : Nat} {G : Nat → Int} {Z : Nat → Nat → Int} (h : OnJ w wr g gn k i G Z) (hi : i < gn) : OnJ w (wr.setCell ⟨g, i, none⟩ (.int .i64 (wrap64 (onv G Z k i - Z k i)))) g gn k (i + 1) G Z := by
  obtain ⟨h1, h2⟩ := h.row (by omega)
  refine ⟨h.below.setCell h1 _, fun _ => ⟨h1, (h2.set i _).congr (fun j hj => ?_)⟩⟩
  by_cases e : j = i
  · subst e; simp [onv]
  · rw [if_neg e]
    by_cases hlt : j < i
    · rw [if_pos hlt, if_pos (by omega)]
    · rw [if_neg hlt, if_neg (by omega)]

theorem OnJ.done {w wr : World} {g gn k : Nat} {G : Nat → Int} {Z : Nat → Nat → Int} (h : OnJ w wr g gn k gn G Z) : OnI w wr g gn (k + 1) G Z :=
  ⟨h.below, fun hg => ⟨(h.row hg).1, (h.row hg).2.congr (fun j hj => by rw [if_pos hj])⟩⟩

theorem Led.later {w w2 : World} {xb : Nat} {ag : Option Addr} {gn gc : Nat} {lo : Option Addr} {n lc : Nat} {G : Nat → Int} {D : Nat → Int} {A : Nat → Option Addr} {C : Nat → Nat} {Z : Nat → Nat → Int} (h : Led w xb ag gn gc lo n lc G D A C Z) (hb : Below w.heap.size w w2) : Led w2 xb ag gn gc lo n lc G D A C Z :=
  ⟨bcell hb h.c3, bcell hb h.c4, h.g.later hb, h.gnil, fun i hi => by
    obtain ⟨lb, h0, h1, h2, h3, h4⟩ := h.loss i hi
    exact ⟨lb, h0, bcell hb h1, bcell hb h2, bcell hb h3, bcell hb h4⟩, fun i hi => (h.row i hi).later hb⟩

theorem OnI.base {w wb wr : World} {g gn k : Nat} {G : Nat → Int} {Z : Nat → Nat → Int} (h : OnI wb wr g gn k G Z) (hb : Below w.heap.size w wb) : OnI w wr g gn k G Z := by
  have hz := hb.size
  exact ⟨hb.trans (h.below.mono (by omega)), fun hg => ⟨by have := (h.row hg).1; omega, (h.row hg).2⟩⟩

set_option maxRecDepth 100000 in
set_option maxHeartbeats 2000000 in
theorem on_any (w : World) (xb : Nat) (ag : Option Addr) (gn gc : Nat) (lo : Option Addr) (n lc : Nat) (G : Nat → Int) (D : Nat → Int) (A : Nat → Option Addr) (C : Nat → Nat) (Z : Nat → Nat → Int) (day : Int)
    (hL : Led w xb ag gn gc lo n lc G D A C Z) (hgn : gn ≤ 1048576) (hn : n ≤ 1048576) :
    Calls Try.prog 14 #[.pointer (some ⟨xb, 0, none⟩), .agg #[.int .u64 (day % 1000000000), .int .i64 (day / 1000000000), .pointer none]] w fun e w' =>
      ∃ a' c' g m, e = .returned (.slice a' gn c') ∧ (0 < gn → a' = some ⟨g, 0, none⟩) ∧ OnI w w' g gn m G Z ∧ m ≤ n ∧ (∀ i, i < m → D i ≤ day) ∧ (m < n → day < D m) := by
  have k3 := hL.c3
  have k4 := hL.c4
  have lxb : xb < w.heap.size := World.block_lt_of_cell? _ _ k3
  obtain ⟨wb, hwb⟩ : ∃ wb, wb = w.alloc (Obj.cells #[Value.int IntKind.u64 (day % 1000000000), Value.int IntKind.i64 (day / 1000000000), Value.pointer none] 36) := ⟨_, rfl⟩
  have hbb : Below w.heap.size w wb := by rw [hwb]; exact (Below.refl _ _).alloc (Nat.le_refl _) _
  have hblk : wb.heap[w.heap.size]? = some (.cells #[Value.int IntKind.u64 (day % 1000000000), Value.int IntKind.i64 (day / 1000000000), Value.pointer none] 36 (0, 0)) := by rw [hwb]; exact blk_alloc_new _ _
  have e0 : wb.cell? ⟨w.heap.size, 0, none⟩ = some (.int .u64 (day % 1000000000)) := by simp [World.cell?, hblk]
  have e1 : wb.cell? ⟨w.heap.size, 1, none⟩ = some (.int .i64 (day / 1000000000)) := by simp [World.cell?, hblk]
  have e2 : wb.cell? ⟨w.heap.size, 2, none⟩ = some (.pointer none) := by simp [World.cell?, hblk]
  have HE : Hid (wb.cell? ⟨w.heap.size, 0, none⟩ = some (.int .u64 (day % 1000000000)) ∧ wb.cell? ⟨w.heap.size, 1, none⟩ = some (.int .i64 (day / 1000000000)) ∧ wb.cell? ⟨w.heap.size, 2, none⟩ = some (.pointer none)) := ⟨e0, e1, e2⟩
  have HL : Hid (Led wb xb ag gn gc lo n lc G D A C Z) := hL.later hbb
  have HB : Hid (Below w.heap.size w wb ∧ wb = w.alloc (Obj.cells #[Value.int IntKind.u64 (day % 1000000000), Value.int IntKind.i64 (day / 1000000000), Value.pointer none] 36)) := ⟨hbb, hwb⟩
  clear hL e0 e1 e2 hblk hbb hwb
  go_enter Try.func14, Try.ntmps14
  go_wp2_with fail
  rw [← HB.out.2]
  refine (sclone_use wb ag gn gc G HL.out.g hgn HL.out.gnil).mono ?_
  rintro e w1 ⟨a', c', rfl, hB1, hrow⟩
  obtain ⟨g, hg⟩ : ∃ g, (0 < gn → a' = some ⟨g, 0, none⟩) ∧ OnI wb w1 g gn 0 G Z := by
    by_cases h0 : 0 < gn
    · obtain ⟨g, h1, h2, h3⟩ := hrow h0
      exact ⟨g, fun _ => h1, hB1, fun _ => ⟨h2, h3⟩⟩
    · exact ⟨0, fun h => absurd h h0, hB1, fun h => absurd h h0⟩
  obtain ⟨hga, hOn⟩ := hg
  have f4 := (HL.out.later hB1).c4
  have HA : Hid (0 < gn → a' = some ⟨g, 0, none⟩) := hga
  have HO : Hid (OnI wb w1 g gn 0 G Z) := hOn
  clear hB1 hrow hga hOn k3 k4
  go_wp2
  clear f4
  go_loopg [20] n (fun gh i wr => ∃ k : Nat, k ≤ n ∧ gh = n - k ∧ i = .int .i64 k ∧ OnI wb wr g gn k G Z ∧ ∀ i, i < k → D i ≤ day)
  case atStart => exact ⟨0, Nat.zero_le _, rfl, rfl, HO.out, fun i hi => absurd hi (Nat.not_lt_zero _)⟩
  case round =>
    clear HO
    obtain ⟨k, hk, rfl, rfl, hI, hle⟩ := hrel
    have HI : Hid (OnI wb wr g gn k G Z ∧ ∀ i, i < k → D i ≤ day) := ⟨hI, hle⟩
    clear hI hle
    by_cases hlt : k < n
    · obtain ⟨lb, rfl, l0, l1, l2, l3⟩ := HL.out.loss k hlt
      have hbel := HI.out.1.below
      have m0 := bcell hbel l0
      have m1 := bcell hbel l1
      have m2 := bcell hbel l2
      have m3 := bcell hbel l3
      obtain ⟨ak, hak⟩ : ∃ ak, ak = A k := ⟨_, rfl⟩
      rw [← hak] at m3
      have HAK : Hid (ak = A k) := hak
      have n0 := bcell hbel HE.out.1
      have n1 := bcell hbel HE.out.2.1
      have n2 := bcell hbel HE.out.2.2
      have hzb : wb.heap.size ≤ wr.heap.size := hbel.size
      have hzw : w.heap.size < wb.heap.size := World.block_lt_of_cell? _ _ HE.out.1
      have hwr : w.heap.size < wr.heap.size := by omega
      clear l0 l1 l2 l3 hbel hak
      have hkn : (k : Int) < n := by omega
      go_wp2_with fail
      refine (after_any (D k) day _).mono ?_
      rintro e w2 ⟨rfl, hB2⟩
      have hal : Below wr.heap.size wr (wr.alloc (Obj.cells #[Value.int IntKind.u64 (D k % 1000000000), Value.int IntKind.i64 (D k / 1000000000), Value.pointer none, Value.slice ak gn (C k)] 43)) := (Below.refl _ _).alloc (Nat.le_refl _) _
      have p3' := cell_new wr #[Value.int IntKind.u64 (D k % 1000000000), Value.int IntKind.i64 (D k / 1000000000), Value.pointer none, Value.slice ak gn (C k)] 43 3
      have p3 : w2.cell? ⟨wr.heap.size, 3, none⟩ = some (.slice ak gn (C k)) := bcell hB2 p3'
      have hBw : Below wr.heap.size wr w2 := hal.trans (hB2.mono (by simp))
      have HO2 : Hid (OnI wb w2 g gn k G Z) := HI.out.1.later hBw
      clear m0 m1 m2 m3 n0 n1 n2 hal p3' hB2 hBw
      by_cases hday : day < D k
      · have hdd : decide (day < D k) = true := by simpa using hday
        go_wp2
        go_ret
        exact ⟨a', c', g, k, rfl, HA.out, HO2.out.base HB.out.1, by omega, HI.out.2, fun _ => hday⟩
      · have hdd : decide (day < D k) = false := by simpa using hday
        go_wp2
        go_loopg [31] gn (fun gh i wx => ∃ j : Nat, j ≤ gn ∧ gh = gn - j ∧ i = .int .i64 j ∧ OnJ wb wx g gn k j G Z)
        case atStart => exact ⟨0, Nat.zero_le _, rfl, rfl, HO2.out.start⟩
        case round =>
          clear HO2 p3
          obtain ⟨j, hj, rfl, rfl, hJ⟩ := hrel
          by_cases hjl : j < gn
          · have hgp : 0 < gn := by omega
            obtain rfl := HA.out hgp
            obtain ⟨b, o, hAk, hc⟩ := HL.out.row k hlt j hjl
            have r1 := bcell hJ.below hc
            have hak2 := HAK.out.trans hAk
            subst hak2
            obtain ⟨hg1, hg2⟩ := hJ.row hgp
            have r2 : wr.cell? ⟨g, j, none⟩ = some (.int .i64 (onv G Z k j)) := by simpa using hg2.cell hjl
            have r3 := hg2.frozen j
            have HJ : Hid (OnJ wb wr g gn k j G Z) := hJ
            clear hJ hg1 hg2 hc hAk HAK hdd hday
            go_wp2
            go_roundg (gn - (j + 1))
            case measure => omega
            case rel => exact ⟨j + 1, by omega, rfl, by go_num, HJ.out.step hjl⟩
          · have e : j = gn := by omega
            have HJ : Hid (OnJ wb wr g gn k j G Z ∧ j = gn) := ⟨hJ, e⟩
            clear hJ e
            go_wp2
            go_roundg (n - (k + 1))
            case measure => omega
            case rel =>
              obtain ⟨hJ, e⟩ := HJ.out
              subst e
              exact ⟨k + 1, by omega, rfl, by go_num, hJ.done, fun i hi => by
                by_cases e : i = k
                · subst e; omega
                · exact HI.out.2 i (by omega)⟩
    · have e : k = n := by omega
      subst e
      go_wp2
      go_ret
      exact ⟨a', c', g, k, rfl, HA.out, HI.out.1.base HB.out.1, Nat.le_refl _, HI.out.2, fun h => absurd h (Nat.lt_irrefl _)⟩

end Go.Proofs.Qxb6628363a
