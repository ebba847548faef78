import Derived.Test.Qxb6628324aFmtLawA
namespace Go.Proofs.Qxb6628324aFmt
open Go.RowKit Go.Deep
set_option linter.unusedVariables false

set_option maxRecDepth 100000 in
set_option maxHeartbeats 8000000 in
theorem law3_walk (w : World) (size off : Int) (a : Option Addr) (n c : Nat) (A : Nat → Option Addr) (L C : Nat → Nat) (Z : Nat → Nat → Int) (sa : Option Addr) (sn sc : Nat) (S : Nat → Bool) (pa : Option Addr) (pn pc : Nat) (P : Nat → Int)
    (hr : IsRows w a n A L C Z) (hS : IsBools w sa sn S) (hp : IsBytes w pa pn P) (hna : a = none → n = 0 ∧ c = 0) (hns : sa = none → sn = 0 ∧ sc = 0) (hSn : sa = none → ∀ i, S i = false) (hnp : pa = none → pn = 0 ∧ pc = 0) (hn : n ≤ 9223372036854775807) (hsn : sn ≤ 9223372036854775807) (hpn : pn ≤ 9223372036854775807)
    (hs0 : -9223372036854775808 ≤ size) (hs1 : size ≤ 9223372036854775807) (ho0 : -9223372036854775808 ≤ off) (ho1 : off ≤ 9223372036854775807) :
    Calls Tryf.prog 3 #[.int .i64 size, .slice a n c, .slice sa sn sc, .int .i64 off, .slice pa pn pc] w fun e w' => e = .returned (.bool true) ∧ Below w.heap.size w w' := by
  have HN : Hid ((a = none → n = 0 ∧ c = 0) ∧ (pa = none → pn = 0 ∧ pc = 0) ∧ (sa = none → sn = 0 ∧ sc = 0) ∧ (sa = none → ∀ i, S i = false)) := ⟨hna, hnp, hns, hSn⟩
  have HR : Hid (IsRows w a n A L C Z ∧ IsBytes w pa pn P ∧ IsBools w sa sn S) := ⟨hr, hp, hS⟩
  clear hna hnp hr hp hS hns hSn
  go_enter Tryf.func3, Tryf.ntmps3
  go_wp2_with fail
  refine (zzBytes5_any w size off a n c A L C Z sa sn sc pa pn pc HR.out.1 hn hsn hpn).mono ?_
  rintro e w' ⟨⟨b, rfl⟩, hw'⟩
  obtain rfl : w = w' := hw'.symm
  clear hw'
  cases b with
  | false =>
    go_wp2
    go_ret
    exact ⟨rfl, Below.refl _ _⟩
  | true =>
    by_cases h1 : (1048576 : Int) < pn
    · go_wp2
      go_ret
      exact ⟨rfl, Below.refl _ _⟩
    by_cases h1s : (1048576 : Int) < sn
    · go_wp2
      go_ret
      exact ⟨rfl, Below.refl _ _⟩
    by_cases h2 : (65536 : Int) < n
    · go_wp2
      go_ret
      exact ⟨rfl, Below.refl _ _⟩
    by_cases h3 : (1048576 : Int) < (pn : Int) + (sn : Int) + 24 * (n : Int)
    · go_wp2
      go_ret
      exact ⟨rfl, Below.refl _ _⟩
    have d1 : decide ((1048576 : Int) < pn) = false := by simpa using h1
    have d1s : decide ((1048576 : Int) < sn) = false := by simpa using h1s
    have d2 : decide ((65536 : Int) < n) = false := by simpa using h2
    have d3 : decide ((1048576 : Int) < (pn : Int) + (sn : Int) + 24 * (n : Int)) = false := by simpa using h3
    have hn' : n ≤ 65536 := by omega
    have hpn' : pn ≤ 1048576 := by omega
    have hsn' : sn ≤ 1048576 := by omega
    clear h1 h1s h2 h3 hn hpn hsn
    go_wp2
    clear d1 d2 d3 d1s
    go_loopg [11, 12] n (fun g t i wr => w = wr ∧ ∃ (k : Nat) (t' : Int), k ≤ n ∧ g = n - k ∧ i = .int .i64 k ∧ t = .int .i64 t')
    case atStart => exact ⟨rfl, 0, _, Nat.zero_le _, rfl, rfl, rfl⟩
    case round =>
      obtain ⟨rfl, k, t, hk, rfl, rfl, rfl⟩ := hrel
      by_cases hlt : k < n
      · obtain ⟨b, o, ha, hc⟩ := HR.out.1.top k hlt
        subst ha
        go_wp2
        · go_ret
          exact ⟨rfl, Below.refl _ _⟩
        · go_roundg (n - (k + 1))
          case measure => omega
          case rel => exact ⟨rfl, k + 1, _, by omega, rfl, by go_num, rfl⟩
      · go_wp2_with fail
        refine (wf_use w size off a n c A L C Z sa sn sc S pa pn pc HR.out.1 HR.out.2.2 (by omega) HN.out.2.2.1 hn' hpn' hs0 hs1 ho0 ho1).mono ?_
        rintro e wa ⟨⟨b, rfl, hWF⟩, m, hwa⟩
        have hBa : Below w.heap.size w wa := by rw [hwa]; exact below_drewN (Below.refl _ _) m
        have hRa : IsRows wa a n A L C Z := by rw [hwa]; exact HR.out.1.drewN m
        have hPa : IsBytes wa pa pn P := by rw [hwa]; exact HR.out.2.1.drewN m
        have hSa : IsBools wa sa sn S := by rw [hwa]; exact HR.out.2.2
        have hsza : wa.heap.size = w.heap.size := by rw [hwa]; rfl
        clear HR hwa
        cases b with
        | false =>
          have HB : Hid (Below w.heap.size w wa) := hBa
          clear hBa hRa hPa hsza hWF hSa
          go_wp2
          go_ret
          exact ⟨rfl, HB.out⟩
        | true =>
          obtain ⟨⟨hz0, hlo, hhi, hlen, hoff, hfit⟩, hSW⟩ := hWF rfl
          clear hWF hs0 hs1 ho0 ho1
          have hL : ∀ i, i < n → A i ≠ none → L i = Ln size i := fun i hi h => by have := hlen i hi h; have := ln_eq hz0 hlo hi; omega
          have hL' : ∀ i, i < n → L i ≤ 65536 := fun i hi => by
            by_cases h : A i = none
            · have := (hRa.nil i hi h).1; omega
            · rw [hL i hi h]; exact (ln_eq hz0 hlo hi).2.2
          have HL : Hid ((∀ i, i < n → A i ≠ none → L i = Ln size i) ∧ (∀ i, i < n → L i ≤ 65536)) := ⟨hL, hL'⟩
          have HA : Hid (IsRows wa a n A L C Z ∧ IsBytes wa pa pn P ∧ IsBools wa sa sn S ∧ Below w.heap.size w wa ∧ wa.heap.size = w.heap.size) := ⟨hRa, hPa, hSa, hBa, hsza⟩
          have HSW : Hid (sa ≠ none → sn = n ∧ ∀ i, i < n → S i = true → A i ≠ none) := hSW
          clear hL hL' hRa hPa hBa hsza hlen hSa hSW
          go_wp2_with fail
          refine (cloneChunks_use wa a n c A L C Z HA.out.1 (by omega) (fun r hr => by have := HL.out.2 r hr; omega) HN.out.1).mono ?_
          rintro e w1 ⟨a1, G1, rfl, hB1, hC1⟩
          have H1 : Hid (Below wa.heap.size wa w1 ∧ (0 < n → a1 = some ⟨wa.heap.size, 0, none⟩ ∧ CloC wa w1 n n A L Z G1)) := ⟨hB1, hC1⟩
          clear hB1 hC1
          go_wp2_with fail
          refine (cloneBools_use w1 sa sn sc S (HA.out.2.2.1.later H1.out.1) (by omega) HN.out.2.2.1).mono ?_
          rintro e w2 ⟨b1, rfl, hB2, hN2, hC2⟩
          have H2 : Hid (Below w1.heap.size w1 w2 ∧ (sa = none → b1 = none ∧ w2 = w1) ∧ (sa ≠ none → b1 = some ⟨w1.heap.size, 0, none⟩ ∧ CloB w1 w2 sn sn S)) := ⟨hB2, hN2, hC2⟩
          clear hB2 hN2 hC2
          go_wp2_with fail
          refine (cloneBytes_use w2 pa pn pc P ((HA.out.2.1.later H1.out.1).later H2.out.1) (by omega) HN.out.2.1).mono ?_
          rintro e w3 ⟨a2, rfl, hB3, hC3⟩
          have H3 : Hid (Below w2.heap.size w2 w3 ∧ (0 < pn → a2 = some ⟨w2.heap.size, 0, none⟩ ∧ Clo w2 w3 pn pn P)) := ⟨hB3, hC3⟩
          clear hB3 hC3
          go_wp2_with fail
          refine (cloneChunks_use w3 a n c A L C Z (((HA.out.1.later H1.out.1).later H2.out.1).later H3.out.1) (by omega) (fun r hr => by have := HL.out.2 r hr; omega) HN.out.1).mono ?_
          rintro e w4 ⟨a3, G3, rfl, hB4, hC4⟩
          have H4 : Hid (Below w3.heap.size w3 w4 ∧ (0 < n → a3 = some ⟨w3.heap.size, 0, none⟩ ∧ CloC w3 w4 n n A L Z G3)) := ⟨hB4, hC4⟩
          clear hB4 hC4
          go_wp2_with fail
          refine (cloneBools_use w4 sa sn sc S ((((HA.out.2.2.1.later H1.out.1).later H2.out.1).later H3.out.1).later H4.out.1) (by omega) HN.out.2.2.1).mono ?_
          rintro e w5 ⟨b2, rfl, hB5, hN5, hC5⟩
          have H5 : Hid (Below w4.heap.size w4 w5 ∧ (sa = none → b2 = none ∧ w5 = w4) ∧ (sa ≠ none → b2 = some ⟨w4.heap.size, 0, none⟩ ∧ CloB w4 w5 sn sn S)) := ⟨hB5, hN5, hC5⟩
          clear hB5 hN5 hC5
          go_wp2_with fail
          refine (cloneBytes_use w5 pa pn pc P (((((HA.out.2.1.later H1.out.1).later H2.out.1).later H3.out.1).later H4.out.1).later H5.out.1) (by omega) HN.out.2.1).mono ?_
          rintro e w6 ⟨a4, rfl, hB6, hC6⟩
          have hCl : Cl wa w1 w2 w3 w4 w5 w6 a1 a2 a3 a4 sa b1 b2 n pn sn A L Z S P G1 G3 := ⟨H1.out.1, H1.out.2, H2.out.1, H2.out.2.1, H2.out.2.2, H3.out.1, H3.out.2, H4.out.1, H4.out.2, H5.out.1, H5.out.2.1, H5.out.2.2, hB6, hC6⟩
          clear H1 H2 H3 H4 H5 hB6 hC6
          go_wp2_with fail
          refine (newBytes_any size _ _ _ ⟨_, _, _, rfl⟩ ⟨_, _, _, rfl⟩).mono ?_
          rintro e w7 ⟨rfl, hw7⟩
          have HW7 : Hid (w7 = w6.alloc (.cells #[.int .i64 size, .slice a3 n n, .slice b2 sn sn] 40)) := hw7
          clear hw7
          obtain ⟨hpc0, hpM, hpO, hpOL⟩ := law3_mem (size := size) hCl (fun h => (HSW.out h).1) (fun h => (HN.out.2.2.1 h).1) HW7.out HL.out.1
          go_wp2_with fail
          refine (put_use w3.heap.size w7 a3 a4 w6.heap.size (cbOf n w3.heap.size w7.heap.size) pn n (shOf sa w4.heap.size) size off P G3 L Z S (ga G1) (gl G1 L) hpc0 hpM (fun h => by rw [cbOf_pos h]; exact (hCl.C4 h).1) hpO hpOL hpn' hn' hz0 hlo hhi hoff hfit
            (fun h i _ => by
              cases hsa : sa with
              | none => exact HN.out.2.2.2 hsa i
              | some x => rw [hsa] at h; simp [shOf] at h)
            (fun i hi hs e => by
              have e' := ((hCl.C4 (by omega)).2.nil i hi).1 e
              cases hsa : sa with
              | none => rw [HN.out.2.2.2 hsa i] at hs; cases hs
              | some x => exact (HSW.out (by simp [hsa])).2 i hi hs e')).mono ?_
          rintro e w8 ⟨rfl, hAP⟩
          clear hpc0 hpM hpO hpOL
          obtain ⟨f0, f1, f2, hold, hwant, hmarks, hbel⟩ := law3_facts hCl (fun h => (HSW.out h).1) HW7.out HL.out.2 hAP
          obtain ⟨GA, GL, GC, GZ, hrows, hreads⟩ := hAP.rows
          have HF : Hid (IsRows w8 a1 n (ga G1) (gl G1 L) (gl G1 L) Z ∧ IsBytes w8 a2 pn P ∧ (sa ≠ none → ∀ i, i < n → w8.cell? ⟨w1.heap.size, i, none⟩ = some (.bool (S i)) ∧ w8.cell? ⟨w4.heap.size, i, none⟩ = some (.bool (S i && !touched size i off pn))) ∧ Below wa.heap.size wa w8) := ⟨hold, hwant, hmarks, hbel⟩
          have HG : Hid (IsRows w8 a3 n GA GL GC GZ ∧ ∀ i, i < n → Reads size GA (ga G1) GL (gl G1 L) GZ Z off pn P i) := ⟨hrows, hreads⟩
          have HCL : Hid ((sa = none → b1 = none ∧ b2 = none) ∧ (sa ≠ none → b1 = some ⟨w1.heap.size, 0, none⟩ ∧ b2 = some ⟨w4.heap.size, 0, none⟩)) := ⟨fun h => ⟨(hCl.N2 h).1, (hCl.N5 h).1⟩, fun h => ⟨(hCl.C2 h).1, (hCl.C5 h).1⟩⟩
          clear hold hwant hmarks hbel hrows hreads hAP hCl
          go_wp2_with fail
          refine (zzsize_any _ _ _ f0).mono ?_
          rintro e w' ⟨rfl, hw'⟩
          obtain rfl : w8 = w' := hw'.symm
          clear hw' f0
          go_wp2_with fail
          refine (zzchunks_any _ _ _ _ _ f1).mono ?_
          rintro e w' ⟨rfl, hw'⟩
          obtain rfl : w8 = w' := hw'.symm
          clear hw' f1
          go_wp2_with fail
          refine (readsAs_any w8 size off a3 a1 n n n GA (ga G1) GL (gl G1 L) GC (gl G1 L) GZ Z a2 pn pn P HG.out.1 HF.out.1 HF.out.2.1 hz0 (by omega) hn' hoff (by omega) hpn' HG.out.2).mono ?_
          rintro e w9 ⟨rfl, m1, hw9⟩
          have g2 : w9.cell? ⟨w6.heap.size, 2, none⟩ = some (.slice b2 sn sn) := by rw [hw9]; exact f2
          have HW9 : Hid (w9 = w8.drewN m1) := hw9
          clear f2 hw9 HG HL
          go_wp2_with fail
          refine (zzshared_any _ _ _ _ _ g2).mono ?_
          rintro e w' ⟨rfl, hw'⟩
          obtain rfl : w9 = w' := hw'.symm
          clear hw' g2
          have q := q23e
          cases hsa : sa with
          | none =>
            obtain ⟨e1, e2⟩ := HCL.out.1 hsa
            subst e1 e2
            clear hsa
            go_wp2
            go_ret
            exact ⟨rfl, by rw [HW9.out]; exact below_drewN (HA.out.2.2.2.1.trans (by rw [← HA.out.2.2.2.2]; exact HF.out.2.2.2)) m1⟩
          | some sx =>
            have hne : sa ≠ none := by simp [hsa]
            obtain ⟨e1, e2⟩ := HCL.out.2 hne
            have HM := HF.out.2.2.1 hne
            have hsn2 : sn = n := (HSW.out hne).1
            subst e1 e2 hsn2
            clear hsa hne
            have HMH : Hid (∀ i, i < sn → w8.cell? ⟨w1.heap.size, i, none⟩ = some (.bool (S i)) ∧ w8.cell? ⟨w4.heap.size, i, none⟩ = some (.bool (S i && !touched size i off pn))) := HM
            clear HM
            go_wp2
            go_loopg [18] sn (fun g i wx => ∃ j m : Nat, j ≤ sn ∧ g = sn - j ∧ i = .int .i64 j ∧ wx = w8.drewN m)
            case atStart => exact ⟨0, m1, Nat.zero_le _, rfl, rfl, HW9.out⟩
            case round =>
              clear HW9
              obtain ⟨j, m, hj, rfl, rfl, hw⟩ := hrel
              have hfin : Below w.heap.size w wr := by rw [hw]; exact below_drewN (HA.out.2.2.2.1.trans (by rw [← HA.out.2.2.2.2]; exact HF.out.2.2.2)) m
              have HFIN : Hid (Below w.heap.size w wr) := hfin
              clear hfin
              by_cases hjl : j < sn
              · have s1 : wr.cell? ⟨w1.heap.size, j, none⟩ = some (.bool (S j)) := by rw [hw]; exact (HMH.out j hjl).1
                have s2 : wr.cell? ⟨w4.heap.size, j, none⟩ = some (.bool (S j && !touched size j off pn)) := by rw [hw]; exact (HMH.out j hjl).2
                have HWW : Hid (wr = w8.drewN m) := hw
                clear hw HF HCL HSW HMH HA HN
                cases hSj : S j with
                | false =>
                  rw [hSj] at s1 s2
                  clear hSj
                  simp only [Bool.false_and] at s2
                  go_wp2
                  go_quiet (fail)
                  go_wp2
                  go_roundg (sn - (j + 1))
                  case measure => omega
                  case rel => exact ⟨j + 1, _, by omega, rfl, by go_num, by rw [HWW.out, World.drewN_drewN]⟩
                | true =>
                  rw [hSj] at s1 s2
                  clear hSj
                  simp only [Bool.true_and] at s2
                  go_wp2
                  go_quiet ((go_at_call 16; exact Calls.quiet_of_same (touched_any size (j : Int) off (pn : Int) _ (by omega) (by omega) (by omega) (by omega) (by omega) (by omega) (by omega) (by omega))))
                  go_wp2
                  go_roundg (sn - (j + 1))
                  case measure => omega
                  case rel => exact ⟨j + 1, _, by omega, rfl, by go_num, by rw [HWW.out, World.drewN_drewN]⟩
              · clear hw HF HCL HSW HMH HA HN
                go_wp2
                go_ret
                exact ⟨rfl, HFIN.out⟩

end Go.Proofs.Qxb6628324aFmt
