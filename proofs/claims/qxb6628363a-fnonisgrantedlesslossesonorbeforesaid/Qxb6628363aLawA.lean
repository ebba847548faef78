import Derived.Test.Qxb6628363aMade
namespace Go.Proofs.Qxb6628363a
open Go.RowKit Go.Deep
set_option linter.unusedVariables false

/-- The answer is written into: one more in each of the first i entries; the wanted row stands. -/
structure Plus (w4 w5 wr : World) (g gn i : Nat) (X Y : Nat → Int) : Prop where
  below : Below w4.heap.size w4 wr
  row : 0 < gn → w4.heap.size ≤ g ∧ g ≠ w5.heap.size ∧ rowHas wr g 2 gn (fun j => .int .i64 (if j < i then wrap64 (X j + 1) else X j)) ∧ wr.rowIs w5.heap.size 2 gn (fun j => .int .i64 (Y j))

theorem Plus.step {w4 w5 wr : World} {g gn i : Nat} {X Y : Nat → Int} (h : Plus w4 w5 wr g gn i X Y) (hi : i < gn) : Plus w4 w5 (wr.setCell ⟨g, i, none⟩ (.int .i64 (wrap64 (X i + 1)))) g gn (i + 1) X Y := by
  obtain ⟨h1, h2, h3, h4⟩ := h.row (by omega)
  refine ⟨h.below.setCell h1 _, fun _ => ⟨h1, h2, (h3.set i _).congr (fun j _ => ?_), h4.setOther (Ne.symm h2) _⟩⟩
  by_cases e : j = i
  · subst e; simp
  · rw [if_neg e]
    by_cases hlt : j < i
    · rw [if_pos hlt, if_pos (by omega)]
    · rw [if_neg hlt, if_neg (by omega)]

set_option maxRecDepth 100000 in
set_option maxHeartbeats 8000000 in
theorem law3_walk (w : World) (ag ad a : Option Addr) (gn gc dn dc n c : Nat) (G D : Nat → Int) (A : Nat → Option Addr) (L C : Nat → Nat) (Z : Nat → Nat → Int) (day : Int)
    (hg : IsInts w ag gn G) (hd : IsInts w ad dn D) (hr : IsRows w a n A L C Z) (hna : ag = none → gn = 0 ∧ gc = 0) (hnd : ad = none → dn = 0 ∧ dc = 0) (hnr : a = none → n = 0 ∧ c = 0)
    (hgn : gn ≤ 9223372036854775807) (hdn : dn ≤ 9223372036854775807) (hn : n ≤ 9223372036854775807) (hD : ∀ i, i < dn → -9223372036854775808 ≤ D i ∧ D i ≤ 9223372036854775807)
    (hx0 : -9223372036854775808 ≤ day) (hx1 : day ≤ 9223372036854775807) :
    Calls Try.prog 3 #[.slice ag gn gc, .slice ad dn dc, .slice a n c, .int .i64 day] w fun e w' => e = .returned (.bool true) ∧ Below w.heap.size w w' := by
  have HN : Hid ((ag = none → gn = 0 ∧ gc = 0) ∧ (ad = none → dn = 0 ∧ dc = 0) ∧ (a = none → n = 0 ∧ c = 0)) := ⟨hna, hnd, hnr⟩
  have HR : Hid (IsInts w ag gn G ∧ IsInts w ad dn D ∧ IsRows w a n A L C Z) := ⟨hg, hd, hr⟩
  have HD : Hid (∀ i, i < dn → -9223372036854775808 ≤ D i ∧ D i ≤ 9223372036854775807) := hD
  clear hna hnd hnr hg hd hr hD
  go_enter Try.func3, Try.ntmps3
  go_wp2_with fail
  refine (zzBytes4_any w day ag ad a gn gc dn dc n c A L C Z HR.out.2.2 hgn hdn hn).mono ?_
  rintro e w' ⟨⟨b, rfl⟩, hw'⟩
  obtain rfl : w = w' := hw'.symm
  clear hw'
  cases b with
  | false =>
    go_wp2
    go_ret
    exact ⟨rfl, Below.refl _ _⟩
  | true =>
    by_cases h1 : (131072 : Int) < gn
    · go_wp2
      go_ret
      exact ⟨rfl, Below.refl _ _⟩
    by_cases h2 : (131072 : Int) < dn
    · go_wp2
      go_ret
      exact ⟨rfl, Below.refl _ _⟩
    by_cases h3 : (131072 : Int) < n
    · go_wp2
      go_ret
      exact ⟨rfl, Below.refl _ _⟩
    by_cases h4 : (1048576 : Int) < 8 * (gn : Int) + 8 * (dn : Int) + 8 * (n : Int)
    · go_wp2
      go_ret
      exact ⟨rfl, Below.refl _ _⟩
    have d1 : decide ((131072 : Int) < gn) = false := by simpa using h1
    have d2 : decide ((131072 : Int) < dn) = false := by simpa using h2
    have d3 : decide ((131072 : Int) < n) = false := by simpa using h3
    have d4 : decide ((1048576 : Int) < 8 * (gn : Int) + 8 * (dn : Int) + 8 * (n : Int)) = false := by simpa using h4
    have hgn' : gn ≤ 131072 := by omega
    have hdn' : dn ≤ 131072 := by omega
    have hn' : n ≤ 131072 := by omega
    clear h1 h2 h3 h4 hgn hdn hn
    go_wp2
    clear d1 d2 d3 d4
    go_loopg [9, 10] n (fun gh t i wr => w = wr ∧ ∃ (k : Nat) (t' : Int), k ≤ n ∧ gh = n - k ∧ i = .int .i64 k ∧ t = .int .i64 t')
    case atStart => exact ⟨rfl, 0, _, Nat.zero_le _, rfl, rfl, rfl⟩
    case round =>
      obtain ⟨rfl, k, t, hk, rfl, rfl, rfl⟩ := hrel
      by_cases hlt : k < n
      · obtain ⟨b, o, ha, hc⟩ := HR.out.2.2.top k hlt
        subst ha
        go_wp2
        · go_ret
          exact ⟨rfl, Below.refl _ _⟩
        · go_roundg (n - (k + 1))
          case measure => omega
          case rel => exact ⟨rfl, k + 1, _, by omega, rfl, by go_num, rfl⟩
      · go_wp2_with fail
        refine (wf_any w ag ad a gn gc dn dc n c A L C Z D HR.out.2.2 HR.out.2.1 (by omega) (by omega) (by omega)).mono ?_
        rintro e wa ⟨⟨b, rfl, hWF⟩, m, hwa⟩
        have hBa : Below w.heap.size w wa := by rw [hwa]; exact below_drewN (Below.refl _ _) m
        have hGa : IsInts wa ag gn G := by rw [hwa]; exact HR.out.1.drewN m
        have hDa : IsInts wa ad dn D := by rw [hwa]; exact HR.out.2.1.drewN m
        have hRa : IsRows wa a n A L C Z := by rw [hwa]; exact HR.out.2.2.drewN m
        have hsza : wa.heap.size = w.heap.size := by rw [hwa]; rfl
        clear HR hwa
        cases b with
        | false =>
          have HB : Hid (Below w.heap.size w wa) := hBa
          clear hBa hGa hDa hRa hsza hWF
          go_wp2
          go_ret
          exact ⟨rfl, HB.out⟩
        | true =>
          obtain ⟨heq, hlen, hinc⟩ := hWF rfl
          subst heq
          have HA : Hid (IsInts wa ag gn G ∧ IsInts wa ad dn D ∧ IsRows wa a dn A L C Z ∧ Below w.heap.size w wa ∧ wa.heap.size = w.heap.size) := ⟨hGa, hDa, hRa, hBa, hsza⟩
          have HL : Hid ((∀ i, i < dn → L i = gn) ∧ (∀ i, 1 ≤ i → i < dn → D (i - 1) < D i)) := ⟨hlen, hinc⟩
          clear hGa hDa hRa hBa hsza hlen hinc hWF
          go_wp2_with fail
          refine (cloneInts_use wa ag gn gc G HA.out.1 (by omega) HN.out.1).mono ?_
          rintro e w1 ⟨a1, rfl, hB1, hC1⟩
          have H1 : Hid (Below wa.heap.size wa w1 ∧ (0 < gn → a1 = some ⟨wa.heap.size, 0, none⟩ ∧ Clo wa w1 gn gn G)) := ⟨hB1, hC1⟩
          clear hB1 hC1
          go_wp2_with fail
          refine (cloneInts_use w1 ad dn dc D (HA.out.2.1.later H1.out.1) (by omega) HN.out.2.1).mono ?_
          rintro e w2 ⟨a2, rfl, hB2, hC2⟩
          have H2 : Hid (Below w1.heap.size w1 w2 ∧ (0 < dn → a2 = some ⟨w1.heap.size, 0, none⟩ ∧ Clo w1 w2 dn dn D)) := ⟨hB2, hC2⟩
          clear hB2 hC2
          go_wp2_with fail
          refine (cloneRows_use w2 a dn c A L C Z ((HA.out.2.2.1.later H1.out.1).later H2.out.1) (by omega) (fun r hr => by rw [HL.out.1 r hr]; omega) HN.out.2.2).mono ?_
          rintro e w3 ⟨a3, GG, rfl, hB3, hC3⟩
          have H3 : Hid (Below w2.heap.size w2 w3 ∧ (0 < dn → a3 = some ⟨w2.heap.size, 0, none⟩ ∧ CloC w2 w3 dn dn A L Z GG)) := ⟨hB3, hC3⟩
          clear hB3 hC3
          go_wp2_with fail
          refine (new_any w3 a1 a2 a3 gn gn dn dn dn D (ga GG) (gl GG L) (gl GG L) Z ((Clo.ints H2.out.2).later H3.out.1) (CloC.rows H3.out.2 (fun i hi => by rw [HL.out.1 i hi]; omega)) HD.out (by omega)).mono ?_
          rintro e w4 ⟨rfl, v, hN⟩
          obtain ⟨lq, lc, hLed⟩ := led_made (fun i hi h => (HA.out.2.2.1.nil i hi h).1) H1.out.1 H1.out.2 H2.out.1 H3.out.1 H3.out.2 HL.out.1 (by omega) hN
          have H4 : Hid (Below w3.heap.size w3 w4 ∧ Led w4 w3.heap.size a1 gn gn lq dn lc G D (ga GG) (gl GG L) Z) := ⟨hN.below, hLed⟩
          clear hN hLed
          go_wp2_with fail
          refine (zon_any w4 w3.heap.size a1 gn gn lq dn lc G D (ga GG) (gl GG L) Z day H4.out.2 (by omega) (by omega) (by omega) (by omega)).mono ?_
          rintro e w5 ⟨ra, ca, g1, ma, rfl, s1, s2, s3, s4, s5⟩
          have H5 : Hid ((0 < gn → ra = some ⟨g1, 0, none⟩) ∧ OnI w4 w5 g1 gn ma G Z ∧ ma ≤ dn ∧ (∀ i, i < ma → D i ≤ day) ∧ (ma < dn → day < D ma)) := ⟨s1, s2, s3, s4, s5⟩
          clear s1 s2 s3 s4 s5
          have hmk := run_make_row' (P := Try.prog) 22 2 (.int .i64 0) 8 Try.underlying22 info2 rfl .i64 .i64 gn (by omega) (by omega)
          have HC0 : Hid (Clo w5 (w5.alloc (.cells (madeCells #[.int .i64 0] gn) 2)) gn 0 (fun i => wantv G D Z day dn i)) := Clo.start w5 gn _
          have hbase : Below w.heap.size w w5 ∧ IsInts w5 ag gn G ∧ IsInts w5 ad dn D ∧ IsRows w5 a dn A L C Z := by
            have z1 := H1.out.1.size
            have z2 := H2.out.1.size
            have z3 := H3.out.1.size
            have z4 := H4.out.1.size
            have b5 : Below wa.heap.size wa w5 := (((H1.out.1.trans (H2.out.1.mono (by omega))).trans (H3.out.1.mono (by omega))).trans (H4.out.1.mono (by omega))).trans (H5.out.2.1.below.mono (by omega))
            exact ⟨HA.out.2.2.2.1.trans (b5.mono (by rw [HA.out.2.2.2.2]; exact Nat.le_refl _)), HA.out.1.later b5, HA.out.2.1.later b5, HA.out.2.2.1.later b5⟩
          have H7 : Hid (Below w.heap.size w w5 ∧ IsInts w5 ag gn G ∧ IsInts w5 ad dn D ∧ IsRows w5 a dn A L C Z) := hbase
          have hw45 : w.heap.size ≤ w4.heap.size := by
            have z0 := HA.out.2.2.2.2
            have z1 := H1.out.1.size
            have z2 := H2.out.1.size
            have z3 := H3.out.1.size
            have z4 := H4.out.1.size
            omega
          have HB4 : Hid (Below w.heap.size w w4) := by
            have z1 := H1.out.1.size
            have z2 := H2.out.1.size
            have z3 := H3.out.1.size
            have b4 : Below wa.heap.size wa w4 := ((H1.out.1.trans (H2.out.1.mono (by omega))).trans (H3.out.1.mono (by omega))).trans (H4.out.1.mono (by omega))
            exact HA.out.2.2.2.1.trans (b4.mono (by rw [HA.out.2.2.2.2]; exact Nat.le_refl _))
          clear hbase H1 H2 H3 HA HN HD
          go_wp2
          clear hmk
          go_loopg [14] gn (fun gh i wr => ∃ j : Nat, j ≤ gn ∧ gh = gn - j ∧ i = .int .i64 j ∧ Clo w5 wr gn j (fun i => wantv G D Z day dn i))
          case atStart => exact ⟨0, Nat.zero_le _, rfl, rfl, HC0.out⟩
          case round =>
            clear HC0
            obtain ⟨j, hj, rfl, rfl, hC⟩ := hrel
            obtain ⟨wo, hwo⟩ : ∃ x, x = wr := ⟨_, rfl⟩
            subst hwo
            by_cases hjl : j < gn
            · obtain ⟨gb, go, rfl, hgc⟩ := H7.out.2.1 j hjl
              have u1 := bcell hC.below hgc
              have u2 : wo.cell? ⟨w5.heap.size, j, none⟩ = some (.int .i64 0) := by simpa using hC.row.cell hjl
              have u3 := hC.row.frozen j
              have HC : Hid (Clo w5 wo gn j (fun i => wantv G D Z day dn i)) := hC
              have HI : Hid (IsInts wo ad dn D ∧ IsRows wo a dn A L C Z) := ⟨H7.out.2.2.1.later hC.below, H7.out.2.2.2.later hC.below⟩
              clear hC hgc
              go_wp2
              go_loopg [15, 16] dn (fun gh s i wr => wo = wr ∧ ∃ i' : Nat, i' ≤ dn ∧ gh = dn - i' ∧ i = .int .i64 i' ∧ s = .int .i64 (wantv G D Z day i' j))
              case atStart => exact ⟨rfl, 0, Nat.zero_le _, rfl, rfl, rfl⟩
              case round =>
                obtain ⟨rfl, i, hi', rfl, rfl, rfl⟩ := hrel
                by_cases hil : i < dn
                · obtain ⟨db, dof, rfl, hdc⟩ := HI.out.1 i hil
                  obtain ⟨sb, so, rfl, hsc⟩ := HI.out.2.top i hil
                  have hli := HL.out.1 i hil
                  obtain ⟨zb, zo, hAi, hzc⟩ := HI.out.2.row i hil j (by omega)
                  rw [hAi, hli] at hsc
                  have HS : Hid (wantv G D Z day (i + 1) j = if D i ≤ day then wrap64 (wantv G D Z day i j - Z i j) else wantv G D Z day i j) := rfl
                  clear hAi hli u1 u2 u3
                  by_cases c1 : D i ≤ day
                  · have c1' : decide (D i ≤ day) = true := by simpa using c1
                    go_wp2
                    go_roundg (dn - (i + 1))
                    case measure => omega
                    case rel => exact ⟨rfl, i + 1, by omega, rfl, by go_num, by rw [HS.out, if_pos c1]⟩
                  · have c1' : decide (D i ≤ day) = false := by simpa using c1
                    go_wp2
                    go_roundg (dn - (i + 1))
                    case measure => omega
                    case rel => exact ⟨rfl, i + 1, by omega, rfl, by go_num, by rw [HS.out, if_neg (by omega)]⟩
                · have e : i = dn := by omega
                  have HEi : Hid (i = dn) := e
                  clear e u1
                  go_wp2
                  go_roundg (gn - (j + 1))
                  case measure => omega
                  case rel =>
                    have e := HEi.out
                    subst e
                    exact ⟨j + 1, by omega, rfl, by go_num, HC.out.step⟩
            · have e : j = gn := by omega
              subst e
              have hwant : ∀ i, onv G Z ma i = wantv G D Z day dn i := fun i => (want_on HL.out.2 H5.out.2.2.1 H5.out.2.2.2.1 H5.out.2.2.2.2 i).symm
              have hgot : IsInts wo ra j (fun i => onv G Z ma i) := fun i hi => by
                obtain ⟨q1, q2⟩ := H5.out.2.1.row (by omega)
                exact ⟨g1, 0, H5.out.1 (by omega), by rw [Nat.zero_add]; exact (q2.below hC.below q2.lt).cell hi⟩
              have hwr : IsInts wo (some ⟨w5.heap.size, 0, none⟩) j (fun i => wantv G D Z day dn i) := Clo.ints (w := w5) (fun _ => ⟨rfl, hC⟩)
              have HC : Hid (Clo w5 wo j j (fun i => wantv G D Z day dn i)) := hC
              have HX : Hid (IsInts wo ra j (fun i => onv G Z ma i) ∧ IsInts wo (some ⟨w5.heap.size, 0, none⟩) j (fun i => wantv G D Z day dn i)) := ⟨hgot, hwr⟩
              have HY : Hid (∀ i, onv G Z ma i = wantv G D Z day dn i) := hwant
              clear hwant hgot hwr hC
              go_wp2_with fail
              refine (equal_any wo ra (some ⟨w5.heap.size, 0, none⟩) j ca j _ _ HX.out.1 HX.out.2 (by omega) (fun i _ => HY.out i)).mono ?_
              rintro e w7 ⟨rfl, m1, hw7⟩
              have HP : Hid (Plus w4 w5 w7 g1 j 0 (onv G Z ma) (fun i => wantv G D Z day dn i)) := by
                have hz5 := H5.out.2.1.below.size
                have hb : Below w5.heap.size w5 wo := HC.out.below
                refine ⟨by rw [hw7]; exact below_drewN (H5.out.2.1.below.trans (hb.mono (by omega))) m1, fun hgp => ?_⟩
                obtain ⟨q1, q2⟩ := H5.out.2.1.row hgp
                have q3 := q2.lt
                refine ⟨q1, by omega, ?_, ?_⟩
                · rw [hw7]; exact (q2.below hb q3).congr (fun i _ => by simp)
                · rw [hw7]; exact HC.out.row.congr (fun i hi => by simp [hi])
              clear hw7 HX HC
              go_wp2
              go_loopg [17] j (fun gh i wr => ∃ i' : Nat, i' ≤ j ∧ gh = j - i' ∧ i = .int .i64 i' ∧ Plus w4 w5 wr g1 j i' (onv G Z ma) (fun i => wantv G D Z day dn i))
              case atStart => exact ⟨0, Nat.zero_le _, rfl, rfl, HP.out⟩
              case round =>
                clear HP
                obtain ⟨i, hi', rfl, rfl, hP⟩ := hrel
                by_cases hil : i < j
                · obtain ⟨q1, q2, q3, q4⟩ := hP.row (by omega)
                  obtain rfl := H5.out.1 (by omega)
                  have u1 : wr.cell? ⟨g1, i, none⟩ = some (.int .i64 (onv G Z ma i)) := by simpa using q3.cell hil
                  have u2 := q3.frozen i
                  have HP : Hid (Plus w4 w5 wr g1 j i (onv G Z ma) (fun i => wantv G D Z day dn i)) := hP
                  clear hP q1 q2 q3 q4
                  go_wp2
                  go_roundg (j - (i + 1))
                  case measure => omega
                  case rel => exact ⟨i + 1, by omega, rfl, by go_num, HP.out.step hil⟩
                · have HP : Hid (Plus w4 w5 wr g1 j i (onv G Z ma) (fun i => wantv G D Z day dn i)) := hP
                  clear hP
                  go_wp2_with fail
                  refine (zon_any wr w3.heap.size a1 j j lq dn lc G D (ga GG) (gl GG L) Z day (H4.out.2.later HP.out.below) (by omega) (by omega) (by omega) (by omega)).mono ?_
                  rintro e w9 ⟨rb, cb, g2, mb, rfl, t1, t2, t3, t4, t5⟩
                  have hX : IsInts w9 rb j (fun i => onv G Z mb i) := fun i hi => by
                    obtain ⟨q1, q2⟩ := t2.row (by omega)
                    exact ⟨g2, 0, t1 (by omega), by rw [Nat.zero_add]; exact q2.cell hi⟩
                  have hYY : IsInts w9 (some ⟨w5.heap.size, 0, none⟩) j (fun i => wantv G D Z day dn i) := fun i hi => by
                    obtain ⟨q1, q2, q3, q4⟩ := HP.out.row (by omega)
                    exact ⟨w5.heap.size, 0, rfl, by rw [Nat.zero_add]; exact (rowIs_below q4 t2.below q4.lt).cell hi⟩
                  have hXY : ∀ i, onv G Z mb i = wantv G D Z day dn i := fun i => (want_on HL.out.2 t3 t4 t5 i).symm
                  have hb9 : Below w.heap.size w w9 := HB4.out.trans ((HP.out.below.trans (t2.below.mono HP.out.below.size)).mono hw45)
                  have H9 : Hid (IsInts w9 rb j (fun i => onv G Z mb i) ∧ IsInts w9 (some ⟨w5.heap.size, 0, none⟩) j (fun i => wantv G D Z day dn i) ∧ (∀ i, onv G Z mb i = wantv G D Z day dn i) ∧ Below w.heap.size w w9) := ⟨hX, hYY, hXY, hb9⟩
                  clear hX hYY hXY hb9 t1 t2 t3 t4 t5
                  go_wp2_with fail
                  refine (equal_any w9 rb (some ⟨w5.heap.size, 0, none⟩) j cb j _ _ H9.out.1 H9.out.2.1 (by omega) (fun i _ => H9.out.2.2.1 i)).mono ?_
                  rintro e w10 ⟨rfl, m2, hw10⟩
                  have HF : Hid (Below w.heap.size w w10) := by rw [hw10]; exact below_drewN H9.out.2.2.2 m2
                  clear hw10
                  go_wp2
                  go_ret
                  exact ⟨rfl, HF.out⟩

end Go.Proofs.Qxb6628363a
