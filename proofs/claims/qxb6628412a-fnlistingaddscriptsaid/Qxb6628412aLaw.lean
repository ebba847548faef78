import Derived.Test.Qxb6628412aPlain
import Derived.Test.Qxb6628412aBytes
import Derived.Deep.RegionWith
import Derived.Lib.JoinLaws
namespace Go.Proofs.Qxb6628412a
open Go.RowKit Go.Deep
set_option linter.unusedVariables false

def Rl (X : Nat → AddR) : Nat → Int := fun i => (X i).rule

/-- While the counts are reckoned. -/
structure S3 (w wr : World) (B rn k : Nat) (R : Nat → Int) : Prop where
  bel : Below w.heap.size w wr
  row : wr.rowIs B 3 (rn + 1) (fun s => .int .i64 (cnt R k ((s : Int) - 1)))
  size : wr.heap.size = B + 1
  ge : w.heap.size ≤ B
  rng : ∀ i, i < k → -1 ≤ R i ∧ R i < rn
  top : ∀ r, cnt R k r ≤ 1000

theorem S3.start (w : World) (m rn : Nat) (R : Nat → Int) : S3 w ((w.drewN m).alloc (.cells (madeCells #[.int .i64 0] (rn + 1)) 3)) w.heap.size rn 0 R :=
  ⟨(below_drewN (Below.refl _ _) m).alloc (Nat.le_refl _) _, (World.rowIs_made (w.drewN m) (.int .i64 0) (rn + 1) 3).congr (fun i hi => rfl), by simp, Nat.le_refl _, fun i hi => absurd hi (Nat.not_lt_zero _), fun r => by simp [cnt]⟩

theorem S3.step {w wr : World} {B rn k : Nat} {R : Nat → Int} (h : S3 w wr B rn k R) (hr : -1 ≤ R k ∧ R k < rn) (hc : cnt R k (R k) + 1 ≤ 1000) :
    S3 w (wr.setCell ⟨B, (R k + 1).toNat, none⟩ (.int .i64 (cnt R k (R k) + 1))) B rn (k + 1) R := by
  refine ⟨h.bel.setCell h.ge _, (h.row.set _ _).congr fun s hs => ?_, by simp [World.setCell, h.size], h.ge, fun i hi => ?_, fun r => ?_⟩
  · by_cases e : s = (R k + 1).toNat
    · have : (s : Int) - 1 = R k := by omega
      rw [if_pos e, this]
      simp [cnt]
    · have : R k ≠ (s : Int) - 1 := by omega
      rw [if_neg e]
      simp [cnt, this]
  · by_cases e : i = k
    · subst e; exact hr
    · exact h.rng i (by omega)
  · have := h.top r
    by_cases e : R k = r
    · subst e; simp [cnt]; omega
    · simp [cnt, e]; omega

theorem S3.cell {w wr : World} {B rn k : Nat} {R : Nat → Int} (h : S3 w wr B rn k R) {r : Int} (hr : -1 ≤ r ∧ r < rn) : wr.cell? ⟨B, (r + 1).toNat, none⟩ = some (.int .i64 (cnt R k r)) := by
  rw [h.row.cell (i := (r + 1).toNat) (by omega)]
  have : (((r + 1).toNat : Nat) : Int) - 1 = r := by omega
  rw [this]

/-- While the rules are made. -/
structure S4 (w3 wr : World) (rn k : Nat) : Prop where
  bel : Below w3.heap.size w3 wr
  row : wr.rowIs w3.heap.size 29 rn (fun i => .pointer (if i < k then some ⟨w3.heap.size + 1 + i, 0, none⟩ else none))
  size : wr.heap.size = w3.heap.size + 1 + k
  live : ∀ i, i < k → ∃ c t, wr.heap[w3.heap.size + 1 + i]? = some (.cells c t (0, 0))

theorem S4.start (w3 : World) (rn : Nat) : S4 w3 (w3.alloc (.cells (madeCells #[.pointer none] rn) 29)) rn 0 :=
  ⟨(Below.refl _ _).alloc (Nat.le_refl _) _, (World.rowIs_made w3 (.pointer none) rn 29).congr (fun i hi => by simp), by simp, fun i hi => absurd hi (Nat.not_lt_zero _)⟩

theorem S4.step {w3 wr : World} {rn k : Nat} (h : S4 w3 wr rn k) (cs : Array Value) (t : TypeId) :
    S4 w3 ((wr.alloc (.cells cs t)).setCell ⟨w3.heap.size, k, none⟩ (.pointer (some ⟨wr.heap.size, 0, none⟩))) rn (k + 1) := by
  have hs := h.size
  refine ⟨(h.bel.alloc (by omega) _).setCell (Nat.le_refl _) _, ((h.row.alloc _).set _ _).congr fun i hi => ?_, by simp [World.setCell]; omega, fun i hi => ?_⟩
  · show (if i = k then Value.pointer (some ⟨wr.heap.size, 0, none⟩) else .pointer (if i < k then some ⟨w3.heap.size + 1 + i, 0, none⟩ else none)) = .pointer (if i < k + 1 then some ⟨w3.heap.size + 1 + i, 0, none⟩ else none)
    by_cases e : i = k
    · subst e
      rw [if_pos rfl, if_pos (by omega), hs]
    · rw [if_neg e]
      by_cases e' : i < k
      · rw [if_pos e', if_pos (by omega)]
      · rw [if_neg e', if_neg (by omega)]
  · rw [blk_setCell_other _ _ _ _ (show w3.heap.size + 1 + i ≠ w3.heap.size by omega)]
    by_cases e : i = k
    · subst e
      rw [← hs]
      exact ⟨cs, t, blk_alloc_new wr _⟩
    · obtain ⟨c, t', hc⟩ := h.live i (by omega)
      exact ⟨c, t', (blk_alloc_lt _ _ _ (by omega)).trans hc⟩

theorem S4.rule {w3 w4 wr : World} {rn : Nat} (h : S4 w3 w4 rn rn) (hb : Below w4.heap.size w4 wr) {r : Int} (hr : -1 ≤ r ∧ r < rn) :
    (r < 0 ∧ rp (w3.heap.size + 1) r = none) ∨ ∃ k : Nat, r = k ∧ k < rn ∧ wr.cell? ⟨w3.heap.size, k, none⟩ = some (.pointer (rp (w3.heap.size + 1) r)) := by
  by_cases h0 : r < 0
  · exact .inl ⟨h0, by unfold rp; rw [if_pos h0]⟩
  · refine .inr ⟨r.toNat, by omega, by omega, ?_⟩
    have := h.row.cell (i := r.toNat) (by omega)
    rw [if_pos (by omega)] at this
    rw [bcell hb this]
    unfold rp
    rw [if_neg h0]

theorem S4.good {w3 w4 wr : World} {rn : Nat} (h : S4 w3 w4 rn rn) (hb : Below w4.heap.size w4 wr) {r : Int} (hr : -1 ≤ r ∧ r < rn) : Good wr w4.heap.size (rp (w3.heap.size + 1) r) := by
  by_cases h0 : r < 0
  · exact .inl (by unfold rp; rw [if_pos h0])
  · obtain ⟨c, t, hc⟩ := h.live r.toNat (by omega)
    have hs := h.size
    refine .inr ⟨w3.heap.size + 1 + r.toNat, c, t, by unfold rp; rw [if_neg h0], by omega, (hb.block _ (by omega)).trans hc⟩

def FFx (X : Nat → AddR) (N : Nat) : Nat → Nat → Value := fun j => fCell (rp N (X j).rule) (X j).level (X j).file (X j).line (X j).kind (X j).name (X j).msg

/-- While the findings are added. -/
def S5 (w4 wr : World) (N k : Nat) (X : Nat → AddR) : Prop :=
  Below w4.heap.size w4 wr ∧ ∃ m fv rv Q C, LS wr w4.heap.size k m fv rv (FFx X N) Q C ∧ Inv (Rl X) N k m Q C

theorem S5.start (w4 : World) (N : Nat) (X : Nat → AddR) : S5 w4 (w4.alloc (.cells #[.slice none 0 0, .slice none 0 0] 38)) N 0 X := by
  refine ⟨(Below.refl _ _).alloc (Nat.le_refl _) _, 0, .slice none 0 0, .slice none 0 0, fun _ => none, fun _ => 0, ⟨?_, .inl ⟨rfl, rfl⟩, .inl ⟨rfl, rfl⟩, fun g hg => by simp [Value.ownBlock] at hg⟩, Inv.zero⟩
  refine World.rowIs_alloc w4 #[.slice none 0 0, .slice none 0 0] 38 _ fun i hi => ?_
  match i, hi with
  | 0, _ => rfl
  | 1, _ => rfl

theorem upd_self {α : Type} (f : Nat → α) (i : Nat) : upd f i (f i) = f := by
  funext j
  unfold upd
  split
  · rename_i h; rw [h]
  · rfl

/-- While the order is reckoned. -/
structure S7 (w6 wr : World) (rn k n : Nat) (R : Nat → Int) (ov : Value) : Prop where
  bel : Below w6.heap.size w6 wr
  seen : wr.rowIs w6.heap.size 4 (rn + 1) (fun s => .bool (decide ((s : Int) - 1 ∈ ordL R k)))
  len : n = (ordL R k).length
  own : Own wr (w6.heap.size + 1) 3 1 ov n (fun j _ => .int .i64 (ordAt R k j))

theorem S7.start (w6 : World) (rn : Nat) (R : Nat → Int) (hrn : rn ≤ 1048576) :
    S7 w6 ((w6.alloc (.cells (madeCells #[.bool false] (rn + 1)) 4)).alloc (.cells (madeCells #[.int .i64 0] (rn + 1)) 3)) rn 0 0 R (.slice (some ⟨w6.heap.size + 1, 0, none⟩) 0 (rn + 1)) := by
  refine ⟨((Below.refl _ _).alloc (Nat.le_refl _) _).alloc (by simp) _, ((World.rowIs_made w6 (.bool false) (rn + 1) 4).alloc _).congr (fun i hi => by simp [ordL]), rfl, .inr ⟨w6.heap.size + 1, rn + 1, madeCells #[.int .i64 0] (rn + 1), rfl, Nat.le_refl _, ?_, Nat.zero_le _, by unfold maxLen; omega, by simp [madeCells], fun j c hj => absurd hj (Nat.not_lt_zero _)⟩⟩
  have := blk_alloc_new (w6.alloc (.cells (madeCells #[.bool false] (rn + 1)) 4)) (.cells (madeCells #[.int .i64 0] (rn + 1)) 3)
  rw [show (w6.alloc (.cells (madeCells #[.bool false] (rn + 1)) 4)).heap.size = w6.heap.size + 1 by simp] at this
  exact this

theorem S7.cell {w6 wr : World} {rn k n : Nat} {R : Nat → Int} {ov : Value} (h : S7 w6 wr rn k n R ov) {r : Int} (hr : -1 ≤ r ∧ r < rn) : wr.cell? ⟨w6.heap.size, (r + 1).toNat, none⟩ = some (.bool (decide (r ∈ ordL R k))) := by
  rw [h.seen.cell (i := (r + 1).toNat) (by omega)]
  have : (((r + 1).toNat : Nat) : Int) - 1 = r := by omega
  rw [this]

theorem S7.old {w6 wr : World} {rn k n : Nat} {R : Nat → Int} {ov : Value} (h : S7 w6 wr rn k n R ov) (hm : R k ∈ ordL R k) : S7 w6 wr rn (k + 1) n R ov := by
  have ho : ∀ i, ordAt R (k + 1) i = ordAt R k i := fun i => by unfold ordAt; rw [ordL_old hm]
  exact ⟨h.bel, h.seen.congr fun i hi => by rw [ordL_old hm], by rw [ordL_old hm]; exact h.len, h.own.congr fun j c _ _ => by rw [ho]⟩

theorem S7.step {w6 wr w2 w3 : World} {rn k n : Nat} {R : Nat → Int} {ov : Value} (h : S7 w6 wr rn k n R ov) (hr : -1 ≤ R k ∧ R k < rn) (hm : R k ∉ ordL R k)
    (hb : Below wr.heap.size (wr.setCell ⟨w6.heap.size, (R k + 1).toNat, none⟩ (.bool true)) w2) {g cap : Nat}
    (hown : w3.ownsRow (w6.heap.size + 1) 3 1 (.slice (some ⟨g, 0, none⟩) (n + 1) cap) (n + 1) (flat (fun j _ => .int .i64 (ordAt R k j)) 1 n ++ [.int .i64 (R k)]))
    (hg : w2.grownBy w3 ov.ownBlock) : S7 w6 w3 rn (k + 1) (n + 1) R (.slice (some ⟨g, 0, none⟩) (n + 1) cap) := by
  have hlt := h.seen.lt
  have hsz : wr.heap.size ≤ w2.heap.size := by have := hb.size; simp [World.setCell] at this; omega
  have hl := h.len
  have hne : ∀ b, b ≤ w6.heap.size → ov.ownBlock ≠ some b := fun b hb' e => by have := (h.own.lt e).2; omega
  have blk : ∀ b, b ≤ w6.heap.size → w3.heap[b]? = (wr.setCell ⟨w6.heap.size, (R k + 1).toNat, none⟩ (.bool true)).heap[b]? := fun b hb' =>
    (hg.block b (by omega) (fun e => hne b hb' e.symm)).trans (hb.block b (by omega))
  refine ⟨⟨?_, ?_, ?_, ?_, fun b hb' => ?_⟩, ((h.seen.set _ _).of_block (blk _ (Nat.le_refl _))).congr fun s hs => ?_, by rw [ordL_new hm]; simp; omega, Own.of_owns ?_ (by decide)⟩
  · exact (hg.os.trans hb.os).trans h.bel.os
  · exact (hg.tape.trans hb.tape).trans h.bel.tape
  · exact (hg.output.trans hb.output).trans h.bel.output
  · have := hg.size
    have := h.bel.size
    omega
  · rw [blk b (by omega), blk_setCell_other _ _ _ _ (show b ≠ w6.heap.size by omega)]
    exact h.bel.block b hb'
  · rw [ordL_new hm]
    by_cases e : s = (R k + 1).toNat
    · have : (s : Int) - 1 = R k := by omega
      rw [if_pos e, this]
      simp
    · have : (s : Int) - 1 ≠ R k := by omega
      rw [if_neg e]
      simp [this]
  · rw [flat_succ _ _ _ (by decide)]
    have e1 : flat (fun j _ => Value.int .i64 (ordAt R (k + 1) j)) 1 n = flat (fun j _ => Value.int .i64 (ordAt R k j)) 1 n := flat_congr (by decide) fun j c hj _ => by
      show Value.int .i64 (ordAt R (k + 1) j) = _
      rw [ordAt_new hm (by omega), if_neg (by omega)]
    have e2 : (List.range 1).map (fun _ => Value.int .i64 (ordAt R (k + 1) n)) = [.int .i64 (R k)] := by
      rw [ordAt_new hm (by omega), if_pos hl]
      rfl
    rw [e1]
    show w3.ownsRow _ _ _ _ _ (_ ++ (List.range 1).map (fun _ => Value.int .i64 (ordAt R (k + 1) n)))
    rw [e2]
    exact hown

theorem o_news (w : World) (x : Int) : ∀ j u, ([Value.int .i64 x] : List Value)[j]? = some u → (w.alloc (.cells #[.int .i64 x] 3)).cell? ((⟨w.heap.size, 0, none⟩ : Addr).add j) = some u := World.news_of_block (blk_alloc_new w _)
theorem one_o (x : Int) : ∀ u ∈ ([Value.int .i64 x] : List Value), u.oneCell' = true := by simp [Value.oneCell']

set_option maxRecDepth 100000 in
set_option maxHeartbeats 8000000 in
theorem law_walk (w : World) (ar aa : Option Addr) (rn rc an ac : Nat) (S : Nat → ByteArray) (X : Nat → AddR) (hs : IsStrs w ar rn S) (hx : IsAdds w aa an X)
    (hrn : rn ≤ 9223372036854775807) (han : an ≤ 9223372036854775807) (hb : ∀ i, i < an → -9223372036854775808 ≤ (X i).rule ∧ (X i).rule ≤ 9223372036854775807) :
    Calls Try.prog 3 #[.slice ar rn rc, .slice aa an ac] w fun e w' => e = .returned (.bool true) ∧ Below w.heap.size w w' := by
  have HS : Hid (IsStrs w ar rn S) := hs
  have HX : Hid (IsAdds w aa an X) := hx
  have hzz := zzBytes_any w ar aa rn rc an ac S X hs hx hrn han
  clear hs hx
  have HB : Hid (∀ i, i < an → -9223372036854775808 ≤ (X i).rule ∧ (X i).rule ≤ 9223372036854775807) := hb
  clear hb
  go_enter Try.func3, Try.ntmps3
  go_wp2_with fail
  refine hzz.mono ?_
  clear hzz
  rintro e w' ⟨⟨b, rfl⟩, hw'⟩
  obtain rfl : w = w' := hw'.symm
  clear hw'
  cases b
  · go_wp2
    go_ret
    exact ⟨rfl, Below.refl _ _⟩
  · go_wp2
    all_goals first | (go_ret; exact ⟨rfl, Below.refl _ _⟩) | skip
    go_loopg [5, 6] rn (fun g t i wr => ∃ m, wr = w.drewN m ∧ ∃ (k : Nat) (t' : Int), k ≤ rn ∧ g = rn - k ∧ i = .int .i64 k ∧ t = .int .i64 t')
    case atStart => exact ⟨0, rfl, 0, _, Nat.zero_le _, rfl, rfl, rfl⟩
    case round =>
      obtain ⟨m, hw, k, t, hk, rfl, rfl, rfl⟩ := hrel
      by_cases hlt : k < rn
      · obtain ⟨b, o, rfl, hc⟩ := HS.out k hlt
        obtain ⟨s, hsz⟩ : ∃ s, s = S k := ⟨_, rfl⟩
        rw [← hsz] at hc
        have g1 : wr.cell? ⟨b, o + k, none⟩ = some (.string s) := by rw [hw]; exact hc
        have HW : Hid (wr = w.drewN m) := hw
        clear hsz hw hc
        go_wp2
        · go_ret
          exact ⟨rfl, by rw [HW.out]; exact below_drewN (Below.refl _ _) _⟩
        · go_roundg (rn - (k + 1))
          case measure => omega
          case rel => exact ⟨m, HW.out, k + 1, _, by omega, rfl, by go_num, rfl⟩
      · have HW : Hid (wr = w.drewN m) := hw
        obtain rfl : k = rn := by omega
        clear hw hlt
        obtain ⟨wo, hwo⟩ : ∃ x, x = wr := ⟨_, rfl⟩
        subst hwo
        go_wp2
        go_loopg [5, 7] an (fun g t i wr => ∃ m, wr = w.drewN m ∧ ∃ (k : Nat) (t' : Int), k ≤ an ∧ g = an - k ∧ i = .int .i64 k ∧ t = .int .i64 t')
        case atStart => exact ⟨m, HW.out, 0, _, Nat.zero_le _, rfl, rfl, rfl⟩
        case round =>
          obtain ⟨m2, hw, k2, t2, hk2, rfl, rfl, rfl⟩ := hrel
          by_cases hlt2 : k2 < an
          · obtain ⟨b, o, rfl, hc⟩ := HX.out k2 hlt2
            obtain ⟨x, hxx⟩ : ∃ x, x = X k2 := ⟨_, rfl⟩
            rw [← hxx] at hc
            have c1 : wr.cell? ⟨b, o + k2 * 7 + 1, none⟩ = some (.string x.level) := by rw [hw]; exact hc.c1
            have c2 : wr.cell? ⟨b, o + k2 * 7 + 2, none⟩ = some (.string x.file) := by rw [hw]; exact hc.c2
            have c4 : wr.cell? ⟨b, o + k2 * 7 + 4, none⟩ = some (.string x.kind) := by rw [hw]; exact hc.c4
            have c5 : wr.cell? ⟨b, o + k2 * 7 + 5, none⟩ = some (.string x.name) := by rw [hw]; exact hc.c5
            have c6 : wr.cell? ⟨b, o + k2 * 7 + 6, none⟩ = some (.string x.msg) := by rw [hw]; exact hc.c6
            have HW2 : Hid (wr = w.drewN m2) := hw
            clear hc hxx hw
            go_wp2
            go_quiet (fail)
            go_wp2
            · go_ret
              exact ⟨rfl, by rw [HW2.out]; exact below_drewN (below_drewN (Below.refl _ _) _) _⟩
            · go_roundg (an - (k2 + 1))
              case measure => omega
              case rel => exact ⟨_, by rw [HW2.out, World.drewN_drewN], k2 + 1, _, by omega, rfl, by go_num, rfl⟩
          · obtain rfl : k2 = an := by omega
            clear hlt2
            have HW2 : Hid (wr = w.drewN m2) := hw
            clear hw HW
            obtain rfl : wr = w.drewN m2 := HW2.out
            have hmk := run_make_row' (P := Try.prog) 27 3 (.int .i64 0) 8 Try.underlying27 info3 rfl .i64 .i64 (k + 1) (by omega) (by omega)
            rw [show ((k + 1 : Nat) : Int) = (k : Int) + 1 by omega] at hmk
            have h3 := hid_of (S3.start w m2 k (Rl X))
            go_wp2
            go_loopg [9] k2 (fun g i wr => ∃ j : Nat, j ≤ k2 ∧ g = k2 - j ∧ i = .int .i64 j ∧ S3 w wr w.heap.size k j (Rl X))
            case atStart => exact ⟨0, Nat.zero_le _, rfl, rfl, h3.out⟩
            case round =>
              obtain ⟨k3, hk3, rfl, rfl, hS⟩ := hrel
              have H3 := hid_of hS
              clear hS h3 hmk
              by_cases hlt3 : k3 < k2
              · obtain ⟨b, o, rfl, hc⟩ := HX.out k3 hlt3
                have hbd := HB.out k3 hlt3
                obtain ⟨x, hxx⟩ : ∃ x, x = (X k3).rule := ⟨_, rfl⟩
                have c0 : wr.cell? ⟨b, o + k3 * 7, none⟩ = some (.int .i64 x) := by rw [hxx]; exact bcell H3.out.bel hc.c0
                rw [← hxx] at hbd
                have hb1 := hbd.1
                have hb2 := hbd.2
                have Hxx := hid_of hxx
                clear hc hxx hbd
                by_cases hx1 : x < -1
                · go_wp2
                  all_goals (go_ret; exact ⟨rfl, H3.out.bel⟩)
                · by_cases hx2 : (k : Int) ≤ x
                  · go_wp2
                    all_goals (go_ret; exact ⟨rfl, H3.out.bel⟩)
                  · have cc := H3.out.cell (r := x) (by omega)
                    obtain ⟨c, hcc⟩ : ∃ c, c = cnt (Rl X) k3 x := ⟨_, rfl⟩
                    have fz := H3.out.row.frozen (x + 1).toNat
                    have hcb := H3.out.top x
                    rw [← hcc] at cc hcb
                    have Hcc := hid_of hcc
                    clear hcc
                    go_wp2
                    · go_ret
                      exact ⟨rfl, H3.out.bel.setCell (Nat.le_refl _) _⟩
                    · go_roundg (k2 - (k3 + 1))
                      case measure => omega
                      case rel =>
                        refine ⟨k3 + 1, by omega, rfl, by go_num, ?_⟩
                        have e1 : Rl X k3 = x := Hxx.out.symm
                        have e2 : cnt (Rl X) k3 (Rl X k3) = c := by rw [e1]; exact Hcc.out.symm
                        have := H3.out.step (by rw [e1]; omega) (by rw [e2]; omega)
                        rw [e2, e1] at this
                        exact this
              · obtain rfl : k3 = k2 := by omega
                clear hlt3
                obtain ⟨w3, hw3⟩ : ∃ x, x = wr := ⟨_, rfl⟩
                subst hw3
                have hmk := run_make_row' (P := Try.prog) 28 29 (.pointer none) 8 Try.underlying28 info29 rfl .i64 .i64 k (by omega) (by omega)
                have h4 := hid_of (S4.start w3 k)
                go_wp2
                clear hmk
                go_loopg [12] k (fun g i wr => ∃ j : Nat, j ≤ k ∧ g = k - j ∧ i = .int .i64 j ∧ S4 w3 wr k j)
                case atStart => exact ⟨0, Nat.zero_le _, rfl, rfl, h4.out⟩
                case round =>
                  obtain ⟨k4, hk4, rfl, rfl, hS⟩ := hrel
                  have H4 := hid_of hS
                  clear hS h4
                  by_cases hlt4 : k4 < k
                  · obtain ⟨b, o, rfl, hc⟩ := HS.out k4 hlt4
                    obtain ⟨s, hsz⟩ : ∃ s, s = S k4 := ⟨_, rfl⟩
                    rw [← hsz] at hc
                    have g1 : wr.cell? ⟨b, o + k4, none⟩ = some (.string s) := bcell (H3.out.bel.trans (H4.out.bel.mono H3.out.bel.size)) hc
                    have g2 : ∀ o, (wr.alloc o).cell? ⟨w3.heap.size, k4, none⟩ = some (.pointer none) := fun o => by rw [(H4.out.row.alloc o).cell hlt4]; simp
                    have g3 : ∀ o, (wr.alloc o).frozen? ⟨w3.heap.size, k4, none⟩ = false := fun o => (H4.out.row.alloc o).frozen _
                    clear hc hsz
                    go_wp2
                    go_roundg (k - (k4 + 1))
                    case measure => omega
                    case rel => exact ⟨k4 + 1, by omega, rfl, by go_num, H4.out.step _ _⟩
                  · obtain rfl : k4 = k := by omega
                    clear hlt4
                    obtain ⟨w4, hw4⟩ : ∃ x, x = wr := ⟨_, rfl⟩
                    subst hw4
                    have h5 := hid_of (S5.start w4 (w3.heap.size + 1) X)
                    have Hbw := hid_of (H3.out.bel.trans (H4.out.bel.mono H3.out.bel.size))
                    go_wp2
                    go_loopg [14] k3 (fun g i wr => ∃ j : Nat, j ≤ k3 ∧ g = k3 - j ∧ i = .int .i64 j ∧ S5 w4 wr (w3.heap.size + 1) j X)
                    case atStart => exact ⟨0, Nat.zero_le _, rfl, rfl, h5.out⟩
                    case round =>
                      obtain ⟨k5, hk5, rfl, rfl, hS⟩ := hrel
                      obtain ⟨hb5, m5, fv, rv, Q, C, hLS, hI⟩ := hS
                      have H5 := hid_of (And.intro hb5 (And.intro hLS hI))
                      have Hb := hid_of (Hbw.out.trans (hb5.mono Hbw.out.size))
                      clear hb5 hLS hI h5
                      by_cases hlt5 : k5 < k3
                      · obtain ⟨b, o, rfl, hc⟩ := HX.out k5 hlt5
                        have hrng := H3.out.rng k5 hlt5
                        obtain ⟨x, hxx⟩ : ∃ x, x = X k5 := ⟨_, rfl⟩
                        have hrl : Rl X k5 = x.rule := by rw [hxx]; rfl
                        rw [hrl] at hrng
                        have hc' := hc.later Hb.out
                        rw [← hxx] at hc'
                        obtain ⟨c0, c1, c2, c3, c4, c5, c6⟩ := hc'
                        obtain ⟨p, hp⟩ : ∃ p, p = rp (w3.heap.size + 1) x.rule := ⟨_, rfl⟩
                        have hru := H4.out.rule H5.out.1 hrng
                        have hgd := H4.out.good H5.out.1 hrng
                        rw [← hp] at hru hgd
                        have hmf := makeFinding_any wr w3.heap.size k4 p x.rule x.line x.level x.file x.kind x.name x.msg hru
                        have Hgd := hid_of hgd
                        have Hp := hid_of (And.intro hp (And.intro hxx hrl))
                        clear hc hru hgd hp hxx hrng hrl
                        go_wp2_with fail
                        refine hmf.mono ?_
                        clear hmf c0 c1 c2 c3 c4 c5 c6
                        rintro e wm ⟨rfl, hBm⟩
                        have hls := H5.out.2.1
                        have hin := H5.out.2.2
                        have hml : m5 ≤ k5 := by rw [hin.len]; exact ordL_len _
                        have hlo : ∀ i, i ≤ k5 → -1 ≤ Rl X i := fun i hi => (H3.out.rng i (by omega)).1
                        have hlbs : w4.heap.size ≤ wr.heap.size := H5.out.1.size
                        have hpe : p = rp (w3.heap.size + 1) (Rl X k5) := by rw [Hp.out.2.2]; exact Hp.out.1
                        have hadd := add_any wm w4.heap.size k5 m5 fv rv (FFx X (w3.heap.size + 1)) Q C p x.level x.file x.line x.kind x.name x.msg (hls.later hBm) (by omega) (by omega)
                          (fun i hi => by
                            rw [hin.q i hi]
                            have hmem := ordAt_mem (R := Rl X) (k := k5) (j := i) (by rw [← hin.len]; exact hi)
                            obtain ⟨i', hi', e⟩ := (ordL_mem _ _).1 hmem
                            rw [← e]
                            exact (H4.out.good H5.out.1 (H3.out.rng i' (by omega))).later (hBm.mono hlbs))
                          (Hgd.out.later (hBm.mono hlbs))
                          (fun m' Q' C' j hO => by
                            rw [hpe] at hO
                            rw [hin.pre hlo hO]
                            have t1 := H3.out.top (Rl X k5)
                            have t2 := cnt_mono (R := Rl X) (k := k5 + 1) (n := k3) (by omega) (Rl X k5)
                            simp only [cnt, if_pos] at t2
                            omega)
                        clear hls hin hml hlo hlbs hpe
                        have HBm := hid_of hBm
                        clear hBm
                        go_wp2_with fail
                        refine hadd.mono ?_
                        clear hadd
                        rintro e wn ⟨rfl, m', j, fv', rv', Q', C', hO, hL, hBn⟩
                        have HN := hid_of (And.intro hO (And.intro hL hBn))
                        clear hO hL hBn
                        go_wp2
                        go_roundg (k3 - (k5 + 1))
                        case measure => omega
                        case rel =>
                          refine ⟨k5 + 1, by omega, rfl, by go_num, ?_⟩
                          obtain ⟨hO, hL, hBn⟩ := HN.out
                          have hlbs : w4.heap.size ≤ wr.heap.size := H5.out.1.size
                          have hlo : ∀ i, i ≤ k5 → -1 ≤ Rl X i := fun i hi => (H3.out.rng i (by omega)).1
                          have hpe : p = rp (w3.heap.size + 1) (Rl X k5) := by rw [Hp.out.2.2]; exact Hp.out.1
                          have hff : fCell p x.level x.file x.line x.kind x.name x.msg = FFx X (w3.heap.size + 1) k5 := by
                            rw [Hp.out.1, Hp.out.2.1]; rfl
                          rw [hff, upd_self] at hL
                          rw [hpe] at hO
                          exact ⟨(H5.out.1.trans (HBm.out.mono hlbs)).trans hBn, m', fv', rv', Q', _, hL, H5.out.2.2.step hlo hO⟩
                      · obtain rfl : k5 = k3 := by omega
                        clear hlt5
                        obtain ⟨w5, hw5⟩ : ∃ x, x = wr := ⟨_, rfl⟩
                        subst hw5
                        obtain ⟨fa, fcap, hfv⟩ := H5.out.2.1.fo.form
                        subst hfv
                        have hzf := findings_any w5 w4.heap.size _ fa k5 fcap rfl H5.out.2.1.c0
                        go_wp2_with fail
                        refine hzf.mono ?_
                        clear hzf
                        rintro e w' ⟨rfl, hw'⟩
                        obtain rfl : w5 = w' := hw'.symm
                        clear hw'
                        go_wp2
                        go_loopg [16] k5 (fun g i wr => ∃ j : Nat, j ≤ k5 ∧ g = k5 - j ∧ i = .int .i64 j ∧ Below w5.heap.size w5 wr)
                        case atStart => exact ⟨0, Nat.zero_le _, rfl, rfl, Below.refl _ _⟩
                        case round =>
                          obtain ⟨k6, hk6, rfl, rfl, hb6⟩ := hrel
                          have H6 := hid_of hb6
                          clear hb6
                          by_cases hlt6 : k6 < k5
                          · obtain ⟨fg, fc, hfe⟩ := H5.out.2.1.fo.form' (by omega)
                            simp at hfe
                            obtain ⟨rfl, rfl⟩ := hfe
                            obtain ⟨b, o, rfl, hc⟩ := HX.out k6 hlt6
                            have hrng := H3.out.rng k6 hlt6
                            obtain ⟨x, hxx⟩ : ∃ x, x = X k6 := ⟨_, rfl⟩
                            have hrl : Rl X k6 = x.rule := by rw [hxx]; rfl
                            rw [hrl] at hrng
                            have hc' := (hc.later Hb.out).later H6.out
                            rw [← hxx] at hc'
                            obtain ⟨c0, c1, c2, c3, c4, c5, c6⟩ := hc'
                            obtain ⟨p, hp⟩ : ∃ p, p = rp (w3.heap.size + 1) x.rule := ⟨_, rfl⟩
                            have hcell := fun c (hc : c < 7) => bcell H6.out (H5.out.2.1.fo.cell hlt6 hc)
                            have hff : FFx X (w3.heap.size + 1) k6 = fCell p x.level x.file x.line x.kind x.name x.msg := by
                              rw [hp, hxx]; rfl
                            rw [hff] at hcell
                            have f0 : wr.cell? ⟨fg, k6 * 7, none⟩ = some (.pointer p) := hcell 0 (by omega)
                            have f1 : wr.cell? ⟨fg, k6 * 7 + 1, none⟩ = some (.string x.level) := hcell 1 (by omega)
                            have f2 : wr.cell? ⟨fg, k6 * 7 + 2, none⟩ = some (.string x.file) := hcell 2 (by omega)
                            have f3 : wr.cell? ⟨fg, k6 * 7 + 3, none⟩ = some (.int .i64 x.line) := hcell 3 (by omega)
                            have f4 : wr.cell? ⟨fg, k6 * 7 + 4, none⟩ = some (.string x.kind) := hcell 4 (by omega)
                            have f5 : wr.cell? ⟨fg, k6 * 7 + 5, none⟩ = some (.string x.name) := hcell 5 (by omega)
                            have f6 : wr.cell? ⟨fg, k6 * 7 + 6, none⟩ = some (.string x.msg) := hcell 6 (by omega)
                            have hlbs : w4.heap.size ≤ w5.heap.size := H5.out.1.size
                            have hmf : ∀ w1, Below wr.heap.size wr w1 → Calls Try.prog 6 #[.slice (some ⟨w3.heap.size, 0, none⟩) k4 k4, .agg #[.int .i64 x.rule, .string x.level, .string x.file, .int .i64 x.line, .string x.kind, .string x.name, .string x.msg]] w1
                                fun e w' => e = .returned (.agg #[.pointer p, .string x.level, .string x.file, .int .i64 x.line, .string x.kind, .string x.name, .string x.msg]) ∧ Below w1.heap.size w1 w' := fun w1 hw1 =>
                              makeFinding_any w1 w3.heap.size k4 p x.rule x.line x.level x.file x.kind x.name x.msg (by
                                rw [hp]
                                exact H4.out.rule ((H5.out.1.trans (H6.out.mono hlbs)).trans (hw1.mono (Nat.le_trans hlbs H6.out.size))) hrng)
                            have hne := fun w => neq41_same w p x.level x.file x.kind x.name x.msg x.line
                            clear hc hcell hff hp hxx hrng hrl hlbs
                            go_wp2
                            go_region_with (go_at_call 6; refine (hmf _ ?_).mono ?_; (exact (Below.refl _ _).drew); rintro e wm ⟨rfl, hBm⟩; have q0 := bcell hBm f0; have q1 := bcell hBm f1; have q2 := bcell hBm f2; have q3 := bcell hBm f3; have q4 := bcell hBm f4; have q5 := bcell hBm f5; have q6 := bcell hBm f6; have HBm := hid_of hBm; clear hBm)
                            all_goals go_wp2
                            all_goals go_roundg (k5 - (k6 + 1))
                            all_goals first | omega | exact ⟨k6 + 1, by omega, rfl, by go_num, H6.out.drew.trans (HBm.out.mono H6.out.size)⟩
                          · obtain rfl : k6 = k5 := by omega
                            clear hlt6
                            obtain ⟨w6, hw6⟩ : ∃ x, x = wr := ⟨_, rfl⟩
                            subst hw6
                            have hmk := run_make_row' (P := Try.prog) 44 4 (.bool false) 1 Try.underlying44 info4 rfl .i64 .i64 (k4 + 1) (by omega) (by omega)
                            have hmr := run_make_room (P := Try.prog) 27 3 (.int .i64 0) 8 Try.underlying27 info3 rfl .i64 .i64 (k4 + 1) (by omega) (by omega)
                            rw [show ((k4 + 1 : Nat) : Int) = (k4 : Int) + 1 by omega] at hmk hmr
                            have h7 := hid_of (S7.start w6 k4 (Rl X) (by omega))
                            go_wp2
                            clear hmk hmr
                            go_loopg [18, 19] k6 (fun g ov i wr => ∃ j : Nat, j ≤ k6 ∧ g = k6 - j ∧ i = .int .i64 j ∧ ∃ oa n ocap, ov = .slice oa n ocap ∧ S7 w6 wr k4 j n (Rl X) (.slice oa n ocap))
                            case atStart => exact ⟨0, Nat.zero_le _, rfl, rfl, _, _, _, rfl, h7.out⟩
                            case round =>
                              obtain ⟨k7, hk7, rfl, rfl, oa, n, ocap, rfl, hS⟩ := hrel
                              have H7 := hid_of hS
                              clear hS h7
                              by_cases hlt7 : k7 < k6
                              · obtain ⟨b, o, rfl, hc⟩ := HX.out k7 hlt7
                                have hrng := H3.out.rng k7 hlt7
                                have hbw7 := Hb.out.trans ((H6.out.trans (H7.out.bel.mono H6.out.size)).mono Hb.out.size)
                                obtain ⟨x, hxx⟩ : ∃ x, x = (X k7).rule := ⟨_, rfl⟩
                                have hrl : Rl X k7 = x := by rw [hxx]; rfl
                                have c0 : wr.cell? ⟨b, o + k7 * 7, none⟩ = some (.int .i64 x) := by rw [hxx]; exact bcell hbw7 hc.c0
                                rw [hrl] at hrng
                                have hr1 := hrng.1
                                have hr2 := hrng.2
                                have cs := H7.out.cell hrng
                                have fz := H7.out.seen.frozen (x + 1).toNat
                                have hsl := H7.out.seen.lt
                                have hn7 : n ≤ k7 := by rw [H7.out.len]; exact ordL_len _
                                have Hrl := hid_of hrl
                                by_cases hmem : x ∈ ordL (Rl X) k7
                                · rw [decide_eq_true hmem] at cs
                                  have Hmem := hid_of hmem
                                  clear hmem hc hxx hrl hbw7 hrng
                                  go_wp2
                                  go_roundg (k6 - (k7 + 1))
                                  case measure => omega
                                  case rel => exact ⟨k7 + 1, by omega, rfl, by go_num, oa, n, ocap, rfl, H7.out.old (by rw [Hrl.out]; exact Hmem.out)⟩
                                · rw [decide_eq_false hmem] at cs
                                  have Hmem := hid_of hmem
                                  have hble : b < w.heap.size := World.block_lt_of_cell? _ _ hc.c0
                                  have hbne : b ≠ w6.heap.size := by
                                    have := H6.out.size
                                    have := Hb.out.size
                                    omega
                                  have c0' : (wr.setCell ⟨w6.heap.size, (x + 1).toNat, none⟩ (.bool true)).cell? ⟨b, o + k7 * 7, none⟩ = some (.int .i64 x) :=
                                    (World.cell?_of_block (w := wr) (blk_setCell_other _ _ _ _ hbne)).trans c0
                                  have HNW := o_news (wr.setCell ⟨w6.heap.size, (x + 1).toNat, none⟩ (.bool true)) x
                                  rw [show (wr.setCell ⟨w6.heap.size, (x + 1).toNat, none⟩ (.bool true)).heap.size = wr.heap.size by simp [World.setCell]] at HNW
                                  have HNW := hid_of HNW
                                  have hoB : ∀ g, (Value.slice oa n ocap).ownBlock = some g → g ≠ w6.heap.size := fun g hg e => by have := (H7.out.own.lt hg).2; omega
                                  have HO : Hid (((wr.setCell ⟨w6.heap.size, (x + 1).toNat, none⟩ (.bool true)).alloc (.cells #[.int .i64 x] 3)).ownsRow (w6.heap.size + 1) 3 1 (.slice oa n ocap) n (flat (fun j _ => .int .i64 (ordAt (Rl X) k7 j)) 1 n)) := by
                                    refine (Own.later (Own.of_block H7.out.own fun g hg => ?_) ((Below.refl _ _).alloc (Nat.le_refl _) _)).owns (by decide)
                                    exact blk_setCell_other _ _ _ _ (hoB g hg)
                                  have HBS : Hid (w6.heap.size + 1 ≤ ((wr.setCell ⟨w6.heap.size, (x + 1).toNat, none⟩ (.bool true)).alloc (.cells #[.int .i64 x] 3)).heap.size) := by
                                    show _ ≤ _
                                    simp [World.setCell]
                                    omega
                                  have K1 : Hid (n + 1 ≤ maxLen) := by unfold maxLen; show _ ≤ _; omega
                                  have K2 : Hid ((n + 1) * 8 ≤ 140737488355328) := by show _ ≤ _; omega
                                  obtain ⟨ti, hti, hz0, hz1, hz2⟩ := info_parts info3
                                  clear hmem hc hxx hrl hbw7 hrng hoB
                                  go_wp2_with (at_builtin; go_loud (refine wpList_append_lies _ rfl (.tmp 226) (.tmp 232) 27 rfl (w6.heap.size + 1) 3 ti (.int .i64 0) 1 8 Try.underlying27 hti hz0 hz1 hz2 rfl (Nat.succ_pos _) (.slice oa n ocap) n (flat (fun j _ => .int .i64 (ordAt (Rl X) k7 j)) 1 n) rfl HO.out _ 1 1 [.int .i64 x] rfl rfl HNW.out (one_o x) (Nat.succ_pos _) K1.out K2.out HBS.out _ rfl ?_; intro g cp wq hown hgrow hat hlt; have HQ := hid_of (And.intro hown hgrow); clear hown hgrow hat hlt))
                                  go_roundg (k6 - (k7 + 1))
                                  case measure => omega
                                  case rel =>
                                    refine ⟨k7 + 1, by omega, rfl, by go_num, _, n + 1, cp, rfl, ?_⟩
                                    obtain ⟨hown, hgrow⟩ := HQ.out
                                    refine H7.out.step (by rw [Hrl.out]; exact ⟨hr1, hr2⟩) (by rw [Hrl.out]; exact Hmem.out) ?_ (by rw [Hrl.out]; exact hown) hgrow
                                    rw [Hrl.out]
                                    exact ((Below.refl _ _).alloc (by simp [World.setCell]) _)
                              · obtain rfl : k7 = k6 := by omega
                                clear hlt7
                                obtain ⟨w7, hw7⟩ : ∃ x, x = wr := ⟨_, rfl⟩
                                subst hw7
                                obtain rfl : n = m5 := by rw [H7.out.len, H5.out.2.2.len]
                                have hb57 := H6.out.trans (H7.out.bel.mono H6.out.size)
                                have HLS := hid_of (H5.out.2.1.later hb57)
                                have HB7 := hid_of (And.intro hb57 (H5.out.1.trans (hb57.mono H5.out.1.size)))
                                have hnk : n ≤ k7 := by rw [H7.out.len]; exact ordL_len _
                                clear hb57
                                obtain ⟨ra, rcap, hrv⟩ := HLS.out.ro.form
                                subst hrv
                                have hcn := ruleCount_any w7 w4.heap.size ra n rcap HLS.out.c1
                                go_wp2_with fail
                                refine hcn.mono ?_
                                clear hcn
                                rintro e w' ⟨rfl, hw'⟩
                                obtain rfl : w7 = w' := hw'.symm
                                clear hw'
                                go_wp2
                                go_loopg [21] n (fun g i wr => ∃ j : Nat, j ≤ n ∧ g = n - j ∧ i = .int .i64 j ∧ Below w7.heap.size w7 wr)
                                case atStart => exact ⟨0, Nat.zero_le _, rfl, rfl, Below.refl _ _⟩
                                case round =>
                                  obtain ⟨k8, hk8, rfl, rfl, hb8⟩ := hrel
                                  have H8 := hid_of hb8
                                  clear hb8
                                  by_cases hlt8 : k8 < n
                                  · obtain ⟨rg, rc', hre⟩ := HLS.out.ro.form' (by omega)
                                    simp at hre
                                    obtain ⟨rfl, rfl⟩ := hre
                                    obtain ⟨og, oc', hoe⟩ := H7.out.own.form' (by omega)
                                    simp at hoe
                                    obtain ⟨rfl, rfl⟩ := hoe
                                    have hls8 := HLS.out.later H8.out
                                    have hor := bcell H8.out (H7.out.own.cell hlt8 (c := 0) (by omega))
                                    rw [show k8 * 1 + 0 = k8 by omega] at hor
                                    obtain ⟨y, hy⟩ : ∃ y, y = ordAt (Rl X) k7 k8 := ⟨_, rfl⟩
                                    obtain ⟨q, hq⟩ : ∃ q, q = Q k8 := ⟨_, rfl⟩
                                    obtain ⟨ls, hls⟩ : ∃ ls, ls = C k8 := ⟨_, rfl⟩
                                    rw [← hy] at hor
                                    have hqy : q = rp (w3.heap.size + 1) y := by rw [hq, hy]; exact H5.out.2.2.q k8 hlt8
                                    have hly : ls = cnt (Rl X) k7 y := by rw [hls, hy]; exact H5.out.2.2.c k8 hlt8
                                    have hyr : -1 ≤ y ∧ y < k4 := by
                                      obtain ⟨i', hi', e⟩ := (ordL_mem _ _).1 (ordAt_mem (R := Rl X) (k := k7) (j := k8) (by rw [← H7.out.len]; exact hlt8))
                                      rw [hy, ← e]
                                      exact H3.out.rng i' hi'
                                    have hrl := hls8.rl rfl hlt8
                                    rw [← hq, ← hls] at hrl
                                    have hcall := ruleAt2_any wr w4.heap.size rg n rcap k8 q ls hls8.c1 hlt8 hrl
                                    have hb3r : Below w3.heap.size w3 wr := (H4.out.bel.trans (HB7.out.2.mono H4.out.bel.size)).trans (H8.out.mono (Nat.le_trans H4.out.bel.size (Nat.le_trans HB7.out.2.size (Nat.le_refl _))))
                                    have hcc := bcell hb3r (H3.out.cell hyr)
                                    rw [← hly] at hcc
                                    have hra : ∀ w1, Below wr.heap.size wr w1 → Calls Try.prog 10 #[.slice (some ⟨w3.heap.size, 0, none⟩) k4 k4, .int .i64 y] w1 fun e w' => e = .returned (.pointer q) ∧ w' = w1 := fun w1 hw1 =>
                                      ruleAt_any w1 w3.heap.size k4 q y (by
                                        rw [hqy]
                                        exact H4.out.rule ((HB7.out.2.trans (H8.out.mono HB7.out.2.size)).trans (hw1.mono (Nat.le_trans HB7.out.2.size H8.out.size))) hyr)
                                    have hy1 := hyr.1
                                    have hy2 := hyr.2
                                    clear hls8 hrl hb3r hqy hly hy hq hls hyr
                                    go_wp2_with fail
                                    refine hcall.mono ?_
                                    clear hcall
                                    rintro e wz ⟨rfl, hBz⟩
                                    have o1 : ∀ o, (wz.alloc o).cell? ⟨og, k8, none⟩ = some (.int .i64 y) := fun o => bcell (hBz.alloc hBz.size o) hor
                                    have o2 : ∀ o, (wz.alloc o).cell? ⟨w.heap.size, (y + 1).toNat, none⟩ = some (.int .i64 ls) := fun o => bcell (hBz.alloc hBz.size o) hcc
                                    have n1 := fun w => neq29_same w q
                                    have n2 := fun w => neq41_same w none { data := #[] } { data := #[] } { data := #[] } { data := #[] } { data := #[] } 0
                                    have HBz := hid_of hBz
                                    clear hBz hor hcc
                                    go_wp2_with fail
                                    refine (hra _ (HBz.out.alloc HBz.out.size _)).mono ?_
                                    clear hra
                                    rintro e w' ⟨rfl, rfl⟩
                                    go_wp2
                                    go_roundg (n - (k8 + 1))
                                    case measure => omega
                                    case rel => exact ⟨k8 + 1, by omega, rfl, by go_num, H8.out.trans ((HBz.out.alloc HBz.out.size _).mono H8.out.size)⟩
                                  · obtain rfl : k8 = n := by omega
                                    clear hlt8
                                    go_wp2
                                    go_ret
                                    exact ⟨rfl, Hb.out.trans ((HB7.out.1.trans (H8.out.mono HB7.out.1.size)).mono Hb.out.size)⟩

end Go.Proofs.Qxb6628412a
