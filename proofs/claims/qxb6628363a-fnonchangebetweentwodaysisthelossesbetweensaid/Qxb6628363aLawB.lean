import Derived.Test.Qxb6628363aMade
namespace Go.Proofs.Qxb6628363a
open Go.RowKit Go.Deep
set_option linter.unusedVariables false

set_option maxRecDepth 100000 in
set_option maxHeartbeats 8000000 in
theorem law4_walk (w : World) (ag ad a : Option Addr) (gn gc dn dc n c : Nat) (G D : Nat → Int) (A : Nat → Option Addr) (L C : Nat → Nat) (Z : Nat → Nat → Int) (x y : Int)
    (hg : IsInts w ag gn G) (hd : IsInts w ad dn D) (hr : IsRows w a n A L C Z) (hna : ag = none → gn = 0 ∧ gc = 0) (hnd : ad = none → dn = 0 ∧ dc = 0) (hnr : a = none → n = 0 ∧ c = 0)
    (hgn : gn ≤ 9223372036854775807) (hdn : dn ≤ 9223372036854775807) (hn : n ≤ 9223372036854775807) (hD : ∀ i, i < dn → -9223372036854775808 ≤ D i ∧ D i ≤ 9223372036854775807)
    (hx0 : -9223372036854775808 ≤ x) (hx1 : x ≤ 9223372036854775807) (hy0 : -9223372036854775808 ≤ y) (hy1 : y ≤ 9223372036854775807) :
    Calls Try.prog 4 #[.slice ag gn gc, .slice ad dn dc, .slice a n c, .int .i64 x, .int .i64 y] w fun e w' => e = .returned (.bool true) ∧ Below w.heap.size w w' := by
  have HN : Hid ((ag = none → gn = 0 ∧ gc = 0) ∧ (ad = none → dn = 0 ∧ dc = 0) ∧ (a = none → n = 0 ∧ c = 0)) := ⟨hna, hnd, hnr⟩
  have HR : Hid (IsInts w ag gn G ∧ IsInts w ad dn D ∧ IsRows w a n A L C Z) := ⟨hg, hd, hr⟩
  have HD : Hid (∀ i, i < dn → -9223372036854775808 ≤ D i ∧ D i ≤ 9223372036854775807) := hD
  clear hna hnd hnr hg hd hr hD
  go_enter Try.func4, Try.ntmps4
  go_wp2_with fail
  refine (zzBytes5_any w x y ag ad a gn gc dn dc n c A L C Z HR.out.2.2 hgn hdn hn).mono ?_
  rintro e w' ⟨⟨b, rfl⟩, hw'⟩
  obtain rfl : w = w' := hw'.symm
  clear hw'
  cases b with
  | false =>
    go_wp2
    go_ret
    exact ⟨rfl, Below.refl _ _⟩
  | true =>
    by_cases h1 : (131072 : Int) < gn
    · go_wp2
      go_ret
      exact ⟨rfl, Below.refl _ _⟩
    by_cases h2 : (131072 : Int) < dn
    · go_wp2
      go_ret
      exact ⟨rfl, Below.refl _ _⟩
    by_cases h3 : (131072 : Int) < n
    · go_wp2
      go_ret
      exact ⟨rfl, Below.refl _ _⟩
    by_cases h4 : (1048576 : Int) < 8 * (gn : Int) + 8 * (dn : Int) + 8 * (n : Int)
    · go_wp2
      go_ret
      exact ⟨rfl, Below.refl _ _⟩
    have d1 : decide ((131072 : Int) < gn) = false := by simpa using h1
    have d2 : decide ((131072 : Int) < dn) = false := by simpa using h2
    have d3 : decide ((131072 : Int) < n) = false := by simpa using h3
    have d4 : decide ((1048576 : Int) < 8 * (gn : Int) + 8 * (dn : Int) + 8 * (n : Int)) = false := by simpa using h4
    have hgn' : gn ≤ 131072 := by omega
    have hdn' : dn ≤ 131072 := by omega
    have hn' : n ≤ 131072 := by omega
    clear h1 h2 h3 h4 hgn hdn hn
    go_wp2
    clear d1 d2 d3 d4
    go_loopg [11, 12] n (fun gh t i wr => w = wr ∧ ∃ (k : Nat) (t' : Int), k ≤ n ∧ gh = n - k ∧ i = .int .i64 k ∧ t = .int .i64 t')
    case atStart => exact ⟨rfl, 0, _, Nat.zero_le _, rfl, rfl, rfl⟩
    case round =>
      obtain ⟨rfl, k, t, hk, rfl, rfl, rfl⟩ := hrel
      by_cases hlt : k < n
      · obtain ⟨b, o, ha, hc⟩ := HR.out.2.2.top k hlt
        subst ha
        go_wp2
        · go_ret
          exact ⟨rfl, Below.refl _ _⟩
        · go_roundg (n - (k + 1))
          case measure => omega
          case rel => exact ⟨rfl, k + 1, _, by omega, rfl, by go_num, rfl⟩
      · go_wp2_with fail
        refine (wf_any w ag ad a gn gc dn dc n c A L C Z D HR.out.2.2 HR.out.2.1 (by omega) (by omega) (by omega)).mono ?_
        rintro e wa ⟨⟨b, rfl, hWF⟩, m, hwa⟩
        have hBa : Below w.heap.size w wa := by rw [hwa]; exact below_drewN (Below.refl _ _) m
        have hGa : IsInts wa ag gn G := by rw [hwa]; exact HR.out.1.drewN m
        have hDa : IsInts wa ad dn D := by rw [hwa]; exact HR.out.2.1.drewN m
        have hRa : IsRows wa a n A L C Z := by rw [hwa]; exact HR.out.2.2.drewN m
        have hsza : wa.heap.size = w.heap.size := by rw [hwa]; rfl
        clear HR hwa
        cases b with
        | false =>
          have HB : Hid (Below w.heap.size w wa) := hBa
          clear hBa hGa hDa hRa hsza hWF
          go_wp2
          go_ret
          exact ⟨rfl, HB.out⟩
        | true =>
          obtain ⟨heq, hlen, hinc⟩ := hWF rfl
          subst heq
          have HA : Hid (IsInts wa ag gn G ∧ IsInts wa ad dn D ∧ IsRows wa a dn A L C Z ∧ Below w.heap.size w wa ∧ wa.heap.size = w.heap.size) := ⟨hGa, hDa, hRa, hBa, hsza⟩
          have HL : Hid ((∀ i, i < dn → L i = gn) ∧ (∀ i, 1 ≤ i → i < dn → D (i - 1) < D i)) := ⟨hlen, hinc⟩
          clear hGa hDa hRa hBa hsza hlen hinc hWF
          obtain ⟨lo, hi, hlh, hcase⟩ : ∃ lo hi : Int, lo ≤ hi ∧ ((lo = x ∧ hi = y ∧ x ≤ y) ∨ (lo = y ∧ hi = x ∧ y < x)) := by
            by_cases h : y < x
            · exact ⟨y, x, by omega, .inr ⟨rfl, rfl, h⟩⟩
            · exact ⟨x, y, by omega, .inl ⟨rfl, rfl, by omega⟩⟩
          rcases hcase with ⟨rfl, rfl, hxy⟩ | ⟨rfl, rfl, hxy⟩
          all_goals
            go_wp2_with fail
            refine (cloneInts_use wa ag gn gc G HA.out.1 (by omega) HN.out.1).mono ?_
            rintro e w1 ⟨a1, rfl, hB1, hC1⟩
            have H1 : Hid (Below wa.heap.size wa w1 ∧ (0 < gn → a1 = some ⟨wa.heap.size, 0, none⟩ ∧ Clo wa w1 gn gn G)) := ⟨hB1, hC1⟩
            clear hB1 hC1
            go_wp2_with fail
            refine (cloneInts_use w1 ad dn dc D (HA.out.2.1.later H1.out.1) (by omega) HN.out.2.1).mono ?_
            rintro e w2 ⟨a2, rfl, hB2, hC2⟩
            have H2 : Hid (Below w1.heap.size w1 w2 ∧ (0 < dn → a2 = some ⟨w1.heap.size, 0, none⟩ ∧ Clo w1 w2 dn dn D)) := ⟨hB2, hC2⟩
            clear hB2 hC2
            go_wp2_with fail
            refine (cloneRows_use w2 a dn c A L C Z ((HA.out.2.2.1.later H1.out.1).later H2.out.1) (by omega) (fun r hr => by rw [HL.out.1 r hr]; omega) HN.out.2.2).mono ?_
            rintro e w3 ⟨a3, GG, rfl, hB3, hC3⟩
            have H3 : Hid (Below w2.heap.size w2 w3 ∧ (0 < dn → a3 = some ⟨w2.heap.size, 0, none⟩ ∧ CloC w2 w3 dn dn A L Z GG)) := ⟨hB3, hC3⟩
            clear hB3 hC3
            go_wp2_with fail
            refine (new_any w3 a1 a2 a3 gn gn dn dn dn D (ga GG) (gl GG L) (gl GG L) Z ((Clo.ints H2.out.2).later H3.out.1) (CloC.rows H3.out.2 (fun i hi => by rw [HL.out.1 i hi]; omega)) HD.out (by omega)).mono ?_
            rintro e w4 ⟨rfl, v, hN⟩
            obtain ⟨lq, lc, hLed⟩ := led_made (fun i hi h => (HA.out.2.2.1.nil i hi h).1) H1.out.1 H1.out.2 H2.out.1 H3.out.1 H3.out.2 HL.out.1 (by omega) hN
            have H4 : Hid (Below w3.heap.size w3 w4 ∧ Led w4 w3.heap.size a1 gn gn lq dn lc G D (ga GG) (gl GG L) Z) := ⟨hN.below, hLed⟩
            clear hN hLed
            go_wp2_with fail
            refine (zon_any w4 w3.heap.size a1 gn gn lq dn lc G D (ga GG) (gl GG L) Z lo H4.out.2 (by omega) (by omega) (by omega) (by omega)).mono ?_
            rintro e w5 ⟨ra, ca, g1, ma, rfl, s1, s2, s3, s4, s5⟩
            have H5 : Hid ((0 < gn → ra = some ⟨g1, 0, none⟩) ∧ OnI w4 w5 g1 gn ma G Z ∧ ma ≤ dn ∧ (∀ i, i < ma → D i ≤ lo) ∧ (ma < dn → lo < D ma)) := ⟨s1, s2, s3, s4, s5⟩
            clear s1 s2 s3 s4 s5
            go_wp2_with fail
            refine (zon_any w5 w3.heap.size a1 gn gn lq dn lc G D (ga GG) (gl GG L) Z hi (H4.out.2.later H5.out.2.1.below) (by omega) (by omega) (by omega) (by omega)).mono ?_
            rintro e w6 ⟨rb, cb, g2, mb, rfl, t1, t2, t3, t4, t5⟩
            have H6 : Hid ((0 < gn → rb = some ⟨g2, 0, none⟩) ∧ OnI w5 w6 g2 gn mb G Z ∧ mb ≤ dn ∧ (∀ i, i < mb → D i ≤ hi) ∧ (mb < dn → hi < D mb)) := ⟨t1, t2, t3, t4, t5⟩
            clear t1 t2 t3 t4 t5
            have hz6 : ∃ b6 : Below w.heap.size w w6, IsInts w6 ad dn D ∧ IsRows w6 a dn A L C Z ∧ (∀ j, j < gn → w6.cell? ⟨g1, j, none⟩ = some (.int .i64 (onv G Z ma j))) ∧ (∀ j, j < gn → w6.cell? ⟨g2, j, none⟩ = some (.int .i64 (onv G Z mb j))) := by
              have z1 := H1.out.1.size
              have z2 := H2.out.1.size
              have z3 := H3.out.1.size
              have z4 := H4.out.1.size
              have z5 := H5.out.2.1.below.size
              have b6 : Below wa.heap.size wa w6 := ((((H1.out.1.trans (H2.out.1.mono (by omega))).trans (H3.out.1.mono (by omega))).trans (H4.out.1.mono (by omega))).trans (H5.out.2.1.below.mono (by omega))).trans (H6.out.2.1.below.mono (by omega))
              refine ⟨HA.out.2.2.2.1.trans (b6.mono (by rw [HA.out.2.2.2.2]; exact Nat.le_refl _)), HA.out.2.1.later b6, HA.out.2.2.1.later b6, fun j hj => ?_, fun j hj => ?_⟩
              · obtain ⟨q1, q2⟩ := H5.out.2.1.row (by omega)
                exact (q2.below H6.out.2.1.below q2.lt).cell hj
              · exact (H6.out.2.1.row (by omega)).2.cell hj
            obtain ⟨b6, i6, r6, c6, e6⟩ := hz6
            have H7 : Hid (Below w.heap.size w w6 ∧ IsInts w6 ad dn D ∧ IsRows w6 a dn A L C Z ∧ (∀ j, j < gn → w6.cell? ⟨g1, j, none⟩ = some (.int .i64 (onv G Z ma j))) ∧ (∀ j, j < gn → w6.cell? ⟨g2, j, none⟩ = some (.int .i64 (onv G Z mb j)))) := ⟨b6, i6, r6, c6, e6⟩
            have HE : Hid (∀ j, wrap64 (onv G Z ma j - onv G Z mb j) = sumv D Z lo hi dn j) := change_eq hlh HL.out.2 H5.out.2.2.1 H5.out.2.2.2.1 H5.out.2.2.2.2 H6.out.2.2.1 H6.out.2.2.2.1 H6.out.2.2.2.2
            have HQ : Hid ((0 < gn → ra = some ⟨g1, 0, none⟩) ∧ (0 < gn → rb = some ⟨g2, 0, none⟩) ∧ ∀ i, i < dn → L i = gn) := ⟨H5.out.1, H6.out.1, HL.out.1⟩
            clear b6 i6 r6 c6 e6 H1 H2 H3 H4 H5 H6 HA HL HN HD hxy
            go_wp2
            go_loopg [16] gn (fun gh i wr => ∃ j m : Nat, j ≤ gn ∧ gh = gn - j ∧ i = .int .i64 j ∧ wr = w6.drewN m)
            case atStart => exact ⟨0, 0, Nat.zero_le _, rfl, rfl, rfl⟩
            case round =>
              obtain ⟨j, m, hj, rfl, rfl, hw⟩ := hrel
              obtain ⟨wo, hwo⟩ : ∃ x, x = wr := ⟨_, rfl⟩
              subst hwo
              have hfin : Below w.heap.size w wo := by rw [hw]; exact below_drewN H7.out.1 m
              have HW : Hid (wo = w6.drewN m ∧ Below w.heap.size w wo) := ⟨hw, hfin⟩
              by_cases hjl : j < gn
              · have hgp : 0 < gn := by omega
                obtain rfl := HQ.out.1 hgp
                obtain rfl := HQ.out.2.1 hgp
                have v1 : wo.cell? ⟨g1, j, none⟩ = some (.int .i64 (onv G Z ma j)) := by rw [hw]; exact H7.out.2.2.2.1 j hjl
                have v2 : wo.cell? ⟨g2, j, none⟩ = some (.int .i64 (onv G Z mb j)) := by rw [hw]; exact H7.out.2.2.2.2 j hjl
                have HI : Hid (IsInts wo ad dn D ∧ IsRows wo a dn A L C Z) := by rw [hw]; exact ⟨H7.out.2.1.drewN m, H7.out.2.2.1.drewN m⟩
                clear hw hfin
                go_wp2
                go_loopg [17, 18] dn (fun gh s i wr => wo = wr ∧ ∃ i' : Nat, i' ≤ dn ∧ gh = dn - i' ∧ i = .int .i64 i' ∧ s = .int .i64 (sumv D Z lo hi i' j))
                case atStart => exact ⟨rfl, 0, Nat.zero_le _, rfl, rfl, rfl⟩
                case round =>
                  obtain ⟨rfl, i, hi', rfl, rfl, rfl⟩ := hrel
                  by_cases hil : i < dn
                  · obtain ⟨db, dof, rfl, hdc⟩ := HI.out.1 i hil
                    obtain ⟨sb, so, rfl, hsc⟩ := HI.out.2.top i hil
                    have hli := HQ.out.2.2 i hil
                    obtain ⟨zb, zo, hAi, hzc⟩ := HI.out.2.row i hil j (by omega)
                    rw [hAi, hli] at hsc
                    have HS : Hid (sumv D Z lo hi (i + 1) j = if lo < D i ∧ D i ≤ hi then wrap64 (sumv D Z lo hi i j + Z i j) else sumv D Z lo hi i j) := rfl
                    clear hAi hli v1 v2
                    by_cases c1 : lo < D i
                    · have c1' : decide (lo < D i) = true := by simpa using c1
                      by_cases c2 : D i ≤ hi
                      · have c2' : decide (D i ≤ hi) = true := by simpa using c2
                        go_wp2
                        go_roundg (dn - (i + 1))
                        case measure => omega
                        case rel => exact ⟨rfl, i + 1, by omega, rfl, by go_num, by rw [HS.out, if_pos ⟨c1, c2⟩]⟩
                      · have c2' : decide (D i ≤ hi) = false := by simpa using c2
                        go_wp2
                        go_roundg (dn - (i + 1))
                        case measure => omega
                        case rel => exact ⟨rfl, i + 1, by omega, rfl, by go_num, by rw [HS.out, if_neg (by omega)]⟩
                    · have c1' : decide (lo < D i) = false := by simpa using c1
                      go_wp2
                      go_roundg (dn - (i + 1))
                      case measure => omega
                      case rel => exact ⟨rfl, i + 1, by omega, rfl, by go_num, by rw [HS.out, if_neg (by omega)]⟩
                  · have e : i = dn := by omega
                    have ht : (wrap64 (onv G Z ma j - onv G Z mb j) != sumv D Z lo hi i j) = false := by rw [e, HE.out j]; simp
                    clear e
                    go_wp2
                    go_quiet (fail)
                    go_wp2
                    go_roundg (gn - (j + 1))
                    case measure => omega
                    case rel => exact ⟨j + 1, _, by omega, rfl, by go_num, by rw [HW.out.1, World.drewN_drewN]⟩
              · clear hw hfin
                go_wp2
                go_ret
                exact ⟨rfl, HW.out.2⟩

end Go.Proofs.Qxb6628363a
