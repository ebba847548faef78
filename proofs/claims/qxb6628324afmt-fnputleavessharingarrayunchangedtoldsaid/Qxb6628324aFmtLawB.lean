import Derived.Test.Qxb6628324aFmtUse
namespace Go.Proofs.Qxb6628324aFmt
open Go.RowKit Go.Deep
set_option linter.unusedVariables false

section
variable {wa w1 w2 w3 w4 w5 w6 w8 wr : World} {size off : Int} {a a1 a2 a3 a4 pa : Option Addr} {n pn : Nat} {A : Nat → Option Addr} {L C : Nat → Nat} {Z : Nat → Nat → Int} {P : Nat → Int} {G1 G3 : Nat → Option Nat}

theorem law4_G (H1 : Below wa.heap.size wa w1 ∧ (0 < n → a1 = some ⟨wa.heap.size, 0, none⟩ ∧ CloC wa w1 n n A L Z G1)) (H3 : Below w2.heap.size w2 w3 ∧ (0 < n → a3 = some ⟨w2.heap.size, 0, none⟩ ∧ CloC w2 w3 n n A L Z G3)) {i : Nat} (hi : i < n) : G1 i = none ↔ G3 i = none :=
  ((H1.2 (by omega)).2.nil i hi).trans ((H3.2 (by omega)).2.nil i hi).symm

theorem law4_mem (hr : IsRows wa a n A L C Z) (hp : IsBytes wa pa pn P) (H1 : Below wa.heap.size wa w1 ∧ (0 < n → a1 = some ⟨wa.heap.size, 0, none⟩ ∧ CloC wa w1 n n A L Z G1)) (H2 : Below w1.heap.size w1 w2 ∧ (0 < pn → a2 = some ⟨w1.heap.size, 0, none⟩ ∧ Clo w1 w2 pn pn P))
    (H3 : Below w2.heap.size w2 w3 ∧ (0 < n → a3 = some ⟨w2.heap.size, 0, none⟩ ∧ CloC w2 w3 n n A L Z G3)) (H4 : Below w3.heap.size w3 w4 ∧ (0 < pn → a4 = some ⟨w3.heap.size, 0, none⟩ ∧ Clo w3 w4 pn pn P)) (hK : Mk w4 wr n n G3 L)
    (HW5 : w5 = wr.alloc (.cells #[.int .i64 size, .slice a3 n n, .slice (some ⟨w4.heap.size + 1, 0, none⟩) n n] 40)) (HW6 : w6 = w5.alloc (.cells #[.int .i64 size, .slice (some ⟨w4.heap.size, 0, none⟩) n n, .slice (some ⟨w4.heap.size + 1 + 1, 0, none⟩) n n] 40))
    (hL : ∀ i, i < n → A i ≠ none → L i = Ln size i) :
    w6.cell? ⟨wr.heap.size, 0, none⟩ = some (.int .i64 size) ∧
    (0 < n → ∃ pb, (0 < pn → a4 = some ⟨pb, 0, none⟩) ∧ Mem w2.heap.size w6 wr.heap.size w2.heap.size pb 0 pn n (some (w4.heap.size + 1)) size P G3 L Z (fun i => (G3 i).isSome)) ∧
    (∀ i, i < n → (ga G1 i = none ↔ G3 i = none)) ∧ (∀ i, i < n → ga G1 i ≠ none → gl G1 L i = Ln size i) := by
  have hz := hK.size
  have z34 := H4.1.size
  have b5 : Below wr.heap.size wr w5 := by rw [HW5]; exact (Below.refl _ _).alloc (Nat.le_refl _) _
  have s5 : w5.heap.size = wr.heap.size + 1 := by rw [HW5]; simp
  have b6 : Below w5.heap.size w5 w6 := by rw [HW6]; exact (Below.refl _ _).alloc (Nat.le_refl _) _
  have s6 : w6.heap.size = wr.heap.size + 2 := by rw [HW6]; simp; omega
  have hblk : w5.heap[wr.heap.size]? = some (.cells #[.int .i64 size, .slice a3 n n, .slice (some ⟨w4.heap.size + 1, 0, none⟩) n n] 40) := by rw [HW5]; exact blk_alloc_new _ _
  have hblk6 : w6.heap[wr.heap.size]? = some (.cells #[.int .i64 size, .slice a3 n n, .slice (some ⟨w4.heap.size + 1, 0, none⟩) n n] 40) := by rw [b6.block _ (by omega)]; exact hblk
  have c0 : w6.cell? ⟨wr.heap.size, 0, none⟩ = some (.int .i64 size) := by simp [World.cell?, hblk6]
  have c1 : w6.cell? ⟨wr.heap.size, 1, none⟩ = some (.slice a3 n n) := by simp [World.cell?, hblk6]
  have c2 : w6.cell? ⟨wr.heap.size, 2, none⟩ = some (.slice (some ⟨w4.heap.size + 1, 0, none⟩) n n) := by simp [World.cell?, hblk6]
  have b46 : Below w4.heap.size w4 w6 := (hK.below.trans (b5.mono (by omega))).trans (b6.mono (by omega))
  have b36 : Below w3.heap.size w3 w6 := H4.1.trans (b46.mono (by omega))
  refine ⟨c0, fun hn => ?_, fun i hi => ?_, fun i hi h => ?_⟩
  · obtain ⟨ha3, hC3⟩ := H3.2 hn
    rw [ha3] at c1
    have hsh : w6.rowIs (w4.heap.size + 1) 4 n (fun i => .bool (G3 i).isSome) :=
      (rowIs_below (rowIs_below hK.shA b5 (by omega)) b6 (by omega)).congr (fun j hj => by simp [hj])
    by_cases hp0 : 0 < pn
    · obtain ⟨ha4, hC4⟩ := H4.2 hp0
      have s4 := hC4.size
      refine ⟨w3.heap.size, fun _ => ha4, mem_of hC3 b36 hL c0 c1 c2 (by omega) (fun sb hs => ?_) (Nat.le_refl _) (fun j hj => ?_)⟩
      · cases hs; exact ⟨by omega, hsh, by omega, by omega⟩
      · rw [Nat.zero_add]
        have := hC4.row.cell hj
        simp only [if_pos hj] at this
        exact bcell b46 this
    · obtain rfl : pn = 0 := by omega
      refine ⟨w6.heap.size, fun h => absurd h (Nat.not_lt_zero _), mem_of hC3 b36 hL c0 c1 c2 (by omega) (fun sb hs => ?_) b36.size (fun j hj => absurd hj (Nat.not_lt_zero _))⟩
      cases hs; exact ⟨by omega, hsh, by omega, by omega⟩
  · rw [ga_none]; exact law4_G H1 H3 hi
  · have hne : G1 i ≠ none := fun e => h (ga_none.2 e)
    have := ((H1.2 (by omega)).2.nil i hi)
    rw [← hL i hi (fun e => hne (this.2 e))]
    cases e : G1 i with
    | none => exact absurd e hne
    | some x => simp [gl, e]

theorem law4_facts (hr : IsRows wa a n A L C Z) (hp : IsBytes wa pa pn P) (H1 : Below wa.heap.size wa w1 ∧ (0 < n → a1 = some ⟨wa.heap.size, 0, none⟩ ∧ CloC wa w1 n n A L Z G1)) (H2 : Below w1.heap.size w1 w2 ∧ (0 < pn → a2 = some ⟨w1.heap.size, 0, none⟩ ∧ Clo w1 w2 pn pn P))
    (H3 : Below w2.heap.size w2 w3 ∧ (0 < n → a3 = some ⟨w2.heap.size, 0, none⟩ ∧ CloC w2 w3 n n A L Z G3)) (H4 : Below w3.heap.size w3 w4 ∧ (0 < pn → a4 = some ⟨w3.heap.size, 0, none⟩ ∧ Clo w3 w4 pn pn P)) (hK : Mk w4 wr n n G3 L)
    (HW5 : w5 = wr.alloc (.cells #[.int .i64 size, .slice a3 n n, .slice (some ⟨w4.heap.size + 1, 0, none⟩) n n] 40)) (HW6 : w6 = w5.alloc (.cells #[.int .i64 size, .slice (some ⟨w4.heap.size, 0, none⟩) n n, .slice (some ⟨w4.heap.size + 1 + 1, 0, none⟩) n n] 40))
    (HL : (∀ i, i < n → A i ≠ none → L i = Ln size i) ∧ (∀ i, i < n → L i ≤ 65536))
    (hAP : AfterPut w2.heap.size w6 w8 a3 w2.heap.size n (some (w4.heap.size + 1)) size off pn P G3 Z (fun i => (G3 i).isSome) (ga G1) (gl G1 L)) :
    w8.cell? ⟨wr.heap.size, 1, none⟩ = some (.slice a3 n n) ∧ w8.cell? ⟨w5.heap.size, 1, none⟩ = some (.slice (some ⟨w4.heap.size, 0, none⟩) n n) ∧ w8.cell? ⟨w5.heap.size, 2, none⟩ = some (.slice (some ⟨w4.heap.size + 1 + 1, 0, none⟩) n n) ∧
    IsRows w8 a1 n (ga G1) (gl G1 L) (gl G1 L) Z ∧ IsBytes w8 a2 pn P ∧ IsRows w8 (some ⟨w4.heap.size, 0, none⟩) n (ga G3) (gl G3 L) (gl G3 L) Z ∧
    (∀ i, i < n → w8.cell? ⟨w4.heap.size + 1 + 1, i, none⟩ = some (.bool (G3 i).isSome)) ∧ Below wa.heap.size wa w8 := by
  have hz := hK.size
  have z12 := H2.1.size
  have z23 := H3.1.size
  have z34 := H4.1.size
  have za1 := H1.1.size
  have b5 : Below wr.heap.size wr w5 := by rw [HW5]; exact (Below.refl _ _).alloc (Nat.le_refl _) _
  have s5 : w5.heap.size = wr.heap.size + 1 := by rw [HW5]; simp
  have b6 : Below w5.heap.size w5 w6 := by rw [HW6]; exact (Below.refl _ _).alloc (Nat.le_refl _) _
  have s6 : w6.heap.size = wr.heap.size + 2 := by rw [HW6]; simp; omega
  have hblk : w5.heap[wr.heap.size]? = some (.cells #[.int .i64 size, .slice a3 n n, .slice (some ⟨w4.heap.size + 1, 0, none⟩) n n] 40) := by rw [HW5]; exact blk_alloc_new _ _
  have hblk6 : w6.heap[wr.heap.size]? = some (.cells #[.int .i64 size, .slice a3 n n, .slice (some ⟨w4.heap.size + 1, 0, none⟩) n n] 40) := by rw [b6.block _ (by omega)]; exact hblk
  have hblko : w6.heap[w5.heap.size]? = some (.cells #[.int .i64 size, .slice (some ⟨w4.heap.size, 0, none⟩) n n, .slice (some ⟨w4.heap.size + 1 + 1, 0, none⟩) n n] 40) := by rw [HW6]; exact blk_alloc_new _ _
  have b46 : Below w4.heap.size w4 w6 := (hK.below.trans (b5.mono (by omega))).trans (b6.mono (by omega))
  have b36 : Below w3.heap.size w3 w6 := H4.1.trans (b46.mono (by omega))
  have b26 : Below w2.heap.size w2 w6 := H3.1.trans (b36.mono (by omega))
  have b28 : Below w2.heap.size w2 w8 := b26.trans hAP.bel
  have b18 : Below w1.heap.size w1 w8 := H2.1.trans (b28.mono (by omega))
  have ba8 : Below wa.heap.size wa w8 := H1.1.trans (b18.mono (by omega))
  have hfr : ∀ b, b < w6.heap.size → b ≠ w2.heap.size → b ≠ w4.heap.size + 1 → w8.heap[b]? = w6.heap[b]? := fun b h1 h2 h3 => hAP.fr b h1 h2 (fun e => h3 (by cases e; rfl)) (fun i _ h => by simp [h])
  have e1 := (hfr wr.heap.size (by omega) (by omega) (by omega)).trans hblk6
  have e2 := (hfr w5.heap.size (by omega) (by omega) (by omega)).trans hblko
  refine ⟨by simp [World.cell?, e1], by simp [World.cell?, e2], by simp [World.cell?, e2], (CloC.rows H1.2 (fun i hi => by have := HL.2 i hi; omega)).later b18, (Clo.bytes H2.2).later b28, ?_, fun i hi => ?_, ba8⟩
  · have q6 : w6.rowIs w4.heap.size 24 n (fun j => sv (G3 j) (L j) (L j)) := (rowIs_below (rowIs_below hK.other b5 (by omega)) b6 (by omega)).congr (fun j hj => by simp [hj])
    refine rows_of (cb := w4.heap.size) (fun _ => rfl) (fun hn => ?_) (fun i hi => by have := HL.2 i hi; omega) (fun i x hi hx => ?_)
    · have hC3 := (H3.2 hn).2
      have := hC3.lt
      exact q6.of_block (hfr _ (by omega) (by omega) (by omega))
    · have hC3 := (H3.2 (by omega)).2
      obtain ⟨r1, r2, r3⟩ := hC3.row i x hi hx
      have r4 := rowIs_below r3 b36 r2
      exact rowHas.of_rowIs (r4.of_block (hfr x (by omega) (by omega) (by omega)))
  · have q6 : w6.rowIs (w4.heap.size + 1 + 1) 4 n (fun j => .bool (G3 j).isSome) := (rowIs_below (rowIs_below hK.shB b5 (by omega)) b6 (by omega)).congr (fun j hj => by simp [hj])
    exact (q6.of_block (hfr _ (by omega) (by omega) (by omega))).cell hi

theorem law4_reads (hz0 : 0 ≤ size) (hlo : (n : Int) * 65536 < size + 65536) (H1 : Below wa.heap.size wa w1 ∧ (0 < n → a1 = some ⟨wa.heap.size, 0, none⟩ ∧ CloC wa w1 n n A L Z G1)) (H3 : Below w2.heap.size w2 w3 ∧ (0 < n → a3 = some ⟨w2.heap.size, 0, none⟩ ∧ CloC w2 w3 n n A L Z G3))
    (hL : ∀ i, i < n → A i ≠ none → L i = Ln size i) : ∀ i, i < n → Reads size (ga G3) (ga G1) (gl G3 L) (gl G1 L) Z Z off 0 P i := by
  intro i hi
  have hg := law4_G H1 H3 hi
  have hA := (H3.2 (by omega)).2.nil i hi
  have hl := ln_eq hz0 hlo hi
  refine ⟨fun h => ⟨ga_none.2 (hg.2 (ga_none.1 h)), touched_zero _ _ _⟩, fun h h' => absurd (ga_none.2 (hg.1 (ga_none.1 h'))) h, fun h => ?_, fun h h' => ?_, fun h j hj => ?_⟩
  · have hne : G3 i ≠ none := fun e => h (ga_none.2 e)
    cases e : G3 i with
    | none => exact absurd e hne
    | some x => simp only [gl, e, Option.isSome_some, if_true]; rw [hL i hi (fun e' => hne (hA.2 e')), hl.1]
  · cases e : G3 i with
    | none => exact absurd (ga_none.2 e) h
    | some x =>
      cases e' : G1 i with
      | none => exact absurd (ga_none.2 e') h'
      | some y => simp [gl, e, e']
  · have hne : G3 i ≠ none := fun e => h (ga_none.2 e)
    have hs : (ga G1 i).isSome = true := by
      cases e : G1 i with
      | none => exact absurd (hg.1 e) hne
      | some y => simp [ga, e]
    have hj' : j < Ln size i := by
      cases e : G3 i with
      | none => exact absurd e hne
      | some x => simp only [gl, e, Option.isSome_some, if_true] at hj; rw [hL i hi (fun e' => hne (hA.2 e'))] at hj; exact hj
    rw [want_untouched hz0 hlo hi (touched_zero _ _ _) j hj', hs]
    rfl
end

set_option maxRecDepth 100000 in
set_option maxHeartbeats 8000000 in
theorem law4_walk (w : World) (size off : Int) (a : Option Addr) (n c : Nat) (A : Nat → Option Addr) (L C : Nat → Nat) (Z : Nat → Nat → Int) (pa : Option Addr) (pn pc : Nat) (P : Nat → Int)
    (hr : IsRows w a n A L C Z) (hp : IsBytes w pa pn P) (hna : a = none → n = 0 ∧ c = 0) (hnp : pa = none → pn = 0 ∧ pc = 0) (hn : n ≤ 9223372036854775807) (hpn : pn ≤ 9223372036854775807)
    (hs0 : -9223372036854775808 ≤ size) (hs1 : size ≤ 9223372036854775807) (ho0 : -9223372036854775808 ≤ off) (ho1 : off ≤ 9223372036854775807) :
    Calls Tryf.prog 4 #[.int .i64 size, .slice a n c, .int .i64 off, .slice pa pn pc] w fun e w' => e = .returned (.bool true) ∧ Below w.heap.size w w' := by
  have HNA : Hid (a = none → n = 0 ∧ c = 0) := hna
  have HNP : Hid (pa = none → pn = 0 ∧ pc = 0) := hnp
  have HR : Hid (IsRows w a n A L C Z ∧ IsBytes w pa pn P) := ⟨hr, hp⟩
  clear hna hnp hr hp
  go_enter Tryf.func4, Tryf.ntmps4
  go_wp2_with fail
  refine (zzBytes4_any w size off a n c A L C Z pa pn pc HR.out.1 hn hpn).mono ?_
  rintro e w' ⟨⟨b, rfl⟩, hw'⟩
  obtain rfl : w = w' := hw'.symm
  clear hw'
  cases b with
  | false =>
    go_wp2
    go_ret
    exact ⟨rfl, Below.refl _ _⟩
  | true =>
    by_cases h1 : (1048576 : Int) < pn
    · go_wp2
      go_ret
      exact ⟨rfl, Below.refl _ _⟩
    by_cases h2 : (65536 : Int) < n
    · go_wp2
      go_ret
      exact ⟨rfl, Below.refl _ _⟩
    by_cases h3 : (1048576 : Int) < (pn : Int) + 24 * (n : Int)
    · go_wp2
      go_ret
      exact ⟨rfl, Below.refl _ _⟩
    have d1 : decide ((1048576 : Int) < pn) = false := by simpa using h1
    have d2 : decide ((65536 : Int) < n) = false := by simpa using h2
    have d3 : decide ((1048576 : Int) < (pn : Int) + 24 * (n : Int)) = false := by simpa using h3
    have hn' : n ≤ 65536 := by omega
    have hpn' : pn ≤ 1048576 := by omega
    clear h1 h2 h3 hn hpn
    go_wp2
    clear d1 d2 d3
    go_loopg [9, 10] n (fun g t i wr => w = wr ∧ ∃ (k : Nat) (t' : Int), k ≤ n ∧ g = n - k ∧ i = .int .i64 k ∧ t = .int .i64 t')
    case atStart => exact ⟨rfl, 0, _, Nat.zero_le _, rfl, rfl, rfl⟩
    case round =>
      obtain ⟨rfl, k, t, hk, rfl, rfl, rfl⟩ := hrel
      by_cases hlt : k < n
      · obtain ⟨b, o, ha, hc⟩ := HR.out.1.top k hlt
        subst ha
        go_wp2
        · go_ret
          exact ⟨rfl, Below.refl _ _⟩
        · go_roundg (n - (k + 1))
          case measure => omega
          case rel => exact ⟨rfl, k + 1, _, by omega, rfl, by go_num, rfl⟩
      · go_wp2_with fail
        refine (wf_nil w size off a n c A L C Z pa pn pc HR.out.1 hn' hpn' hs0 hs1 ho0 ho1).mono ?_
        rintro e wa ⟨⟨b, rfl, hWF⟩, m, hwa⟩
        have hBa : Below w.heap.size w wa := by rw [hwa]; exact below_drewN (Below.refl _ _) m
        have hRa : IsRows wa a n A L C Z := by rw [hwa]; exact HR.out.1.drewN m
        have hPa : IsBytes wa pa pn P := by rw [hwa]; exact HR.out.2.drewN m
        have hsza : wa.heap.size = w.heap.size := by rw [hwa]; rfl
        clear HR hwa
        cases b with
        | false =>
          have HB : Hid (Below w.heap.size w wa) := hBa
          clear hBa hRa hPa hsza hWF
          go_wp2
          go_ret
          exact ⟨rfl, HB.out⟩
        | true =>
          obtain ⟨hz0, hlo, hhi, hlen, hoff, hfit⟩ := hWF rfl
          clear hWF hs0 hs1 ho0 ho1
          have hL : ∀ i, i < n → A i ≠ none → L i = Ln size i := fun i hi h => by have := hlen i hi h; have := ln_eq hz0 hlo hi; omega
          have hL' : ∀ i, i < n → L i ≤ 65536 := fun i hi => by
            by_cases h : A i = none
            · have := (hRa.nil i hi h).1; omega
            · rw [hL i hi h]; exact (ln_eq hz0 hlo hi).2.2
          have HL : Hid ((∀ i, i < n → A i ≠ none → L i = Ln size i) ∧ (∀ i, i < n → L i ≤ 65536)) := ⟨hL, hL'⟩
          have HA : Hid (IsRows wa a n A L C Z ∧ IsBytes wa pa pn P ∧ Below w.heap.size w wa ∧ wa.heap.size = w.heap.size) := ⟨hRa, hPa, hBa, hsza⟩
          clear hL hL' hRa hPa hBa hsza hlen
          go_wp2_with fail
          refine (cloneChunks_use wa a n c A L C Z HA.out.1 (by omega) (fun r hr => by have := HL.out.2 r hr; omega) HNA.out).mono ?_
          rintro e w1 ⟨a1, G1, rfl, hB1, hC1⟩
          have H1 : Hid (Below wa.heap.size wa w1 ∧ (0 < n → a1 = some ⟨wa.heap.size, 0, none⟩ ∧ CloC wa w1 n n A L Z G1)) := ⟨hB1, hC1⟩
          clear hB1 hC1
          go_wp2_with fail
          refine (cloneBytes_use w1 pa pn pc P (HA.out.2.1.later H1.out.1) (by omega) HNP.out).mono ?_
          rintro e w2 ⟨a2, rfl, hB2, hC2⟩
          have H2 : Hid (Below w1.heap.size w1 w2 ∧ (0 < pn → a2 = some ⟨w1.heap.size, 0, none⟩ ∧ Clo w1 w2 pn pn P)) := ⟨hB2, hC2⟩
          clear hB2 hC2
          go_wp2_with fail
          refine (cloneChunks_use w2 a n c A L C Z ((HA.out.1.later H1.out.1).later H2.out.1) (by omega) (fun r hr => by have := HL.out.2 r hr; omega) HNA.out).mono ?_
          rintro e w3 ⟨a3, G3, rfl, hB3, hC3⟩
          have H3 : Hid (Below w2.heap.size w2 w3 ∧ (0 < n → a3 = some ⟨w2.heap.size, 0, none⟩ ∧ CloC w2 w3 n n A L Z G3)) := ⟨hB3, hC3⟩
          clear hB3 hC3
          go_wp2_with fail
          refine (cloneBytes_use w3 pa pn pc P (((HA.out.2.1.later H1.out.1).later H2.out.1).later H3.out.1) (by omega) HNP.out).mono ?_
          rintro e w4 ⟨a4, rfl, hB4, hC4⟩
          have H4 : Hid (Below w3.heap.size w3 w4 ∧ (0 < pn → a4 = some ⟨w3.heap.size, 0, none⟩ ∧ Clo w3 w4 pn pn P)) := ⟨hB4, hC4⟩
          clear hB4 hC4
          have hmk22 := run_make_row' (P := Tryf.prog) 22 24 (.slice none 0 0) 24 Tryf.underlying22 info24 rfl .i64 .i64 n (by omega) (by omega)
          have hmk23 := run_make_row' (P := Tryf.prog) 23 4 (.bool false) 1 Tryf.underlying23 info4 rfl .i64 .i64 n (by omega) (by omega)
          have HS := Mk.start w4 n G3 L
          go_wp2
          clear hmk22 hmk23
          go_loopg [16] n (fun g i wr => ∃ k : Nat, k ≤ n ∧ g = n - k ∧ i = .int .i64 k ∧ Mk w4 wr n k G3 L)
          case atStart => exact ⟨0, Nat.zero_le _, rfl, rfl, HS⟩
          case round =>
            clear HS
            obtain ⟨k2, hk2, rfl, rfl, hK⟩ := hrel
            have hz24 : w2.heap.size < w4.heap.size ∨ n = 0 := by
              by_cases h : n = 0
              · exact .inr h
              · have t1 := (H3.out.2 (by omega)).2.lt; have t2 := H4.out.1.size; exact .inl (by omega)
            by_cases hlt2 : k2 < n
            · obtain ⟨ha3, hC3⟩ := H3.out.2 (by omega)
              subst ha3
              have hz : w2.heap.size < w4.heap.size := by omega
              have t1 : w3.cell? ⟨w2.heap.size, k2, none⟩ = some (sv (G3 k2) (L k2) (L k2)) := by simpa [hlt2] using hC3.top.cell hlt2
              have t2 := bcell hK.below (bcell H4.out.1 t1)
              have t3 : ∀ v, (wr.setCell ⟨w4.heap.size, k2, none⟩ v).cell? ⟨w2.heap.size, k2, none⟩ = some (sv (G3 k2) (L k2) (L k2)) := fun v => cell_other t2 (by show w2.heap.size ≠ w4.heap.size; omega)
              have t4 : wr.cell? ⟨w4.heap.size, k2, none⟩ = some (.slice none 0 0) := by simpa using hK.other.cell hlt2
              have t5 := hK.other.frozen k2
              have t6 : wr.cell? ⟨w4.heap.size + 1, k2, none⟩ = some (.bool false) := by simpa using hK.shA.cell hlt2
              have t7 := hK.shA.frozen k2
              have t8 : wr.cell? ⟨w4.heap.size + 1 + 1, k2, none⟩ = some (.bool false) := by simpa using hK.shB.cell hlt2
              have t9 := hK.shB.frozen k2
              have q := q24n
              clear t1 hC3 hz24
              cases hG : G3 k2 with
              | none =>
                simp only [hG, sv] at t2 t3
                have HG : Hid (G3 k2 = none) := hG
                clear hG t6 t7 t8 t9
                go_wp2
                go_roundg (n - (k2 + 1))
                case measure => omega
                case rel => exact ⟨k2 + 1, by omega, rfl, by go_num, hK.step_nil HG.out⟩
              | some x =>
                simp only [hG, sv] at t2 t3
                have HG : Hid (G3 k2 = some x) := hG
                clear hG
                go_wp2
                go_roundg (n - (k2 + 1))
                case measure => omega
                case rel => exact ⟨k2 + 1, by omega, rfl, by go_num, hK.step_some HG.out⟩
            · have e : k2 = n := by omega
              subst e
              clear hz24
              go_wp2_with fail
              refine (newBytes_any size _ _ _ ⟨_, _, _, rfl⟩ ⟨_, _, _, rfl⟩).mono ?_
              rintro e w5 ⟨rfl, hw5⟩
              have HW5 : Hid (w5 = wr.alloc (.cells #[.int .i64 size, .slice a3 k2 k2, .slice (some ⟨w4.heap.size + 1, 0, none⟩) k2 k2] 40)) := hw5
              clear hw5
              go_wp2_with fail
              refine (newBytes_any size _ _ _ ⟨_, _, _, rfl⟩ ⟨_, _, _, rfl⟩).mono ?_
              rintro e w6 ⟨rfl, hw6⟩
              have HW6 : Hid (w6 = w5.alloc (.cells #[.int .i64 size, .slice (some ⟨w4.heap.size, 0, none⟩) k2 k2, .slice (some ⟨w4.heap.size + 1 + 1, 0, none⟩) k2 k2] 40)) := hw6
              clear hw6
              have hput := law4_mem (size := size) HA.out.1 HA.out.2.1 H1.out H2.out H3.out H4.out hK HW5.out HW6.out HL.out.1
              obtain ⟨hpc0, hpM, hpO, hpOL⟩ := hput
              go_wp2_with fail
              refine (put_use w2.heap.size w6 a3 a4 wr.heap.size w2.heap.size pn k2 (some (w4.heap.size + 1)) size off P G3 L Z (fun i => (G3 i).isSome) (ga G1) (gl G1 L) hpc0 hpM (fun h => (H3.out.2 h).1) hpO hpOL hpn' hn' hz0 hlo hhi hoff hfit (fun h => by cases h) (fun i hi h e => by rw [e] at h; cases h)).mono ?_
              rintro e w8 ⟨rfl, hAP⟩
              clear hpc0 hpM hpO hpOL
              have hfacts := law4_facts HA.out.1 HA.out.2.1 H1.out H2.out H3.out H4.out hK HW5.out HW6.out HL.out hAP
              obtain ⟨f1, f2, f3, hold, hwant, hoth, hsh, hbel⟩ := hfacts
              obtain ⟨GA, GL, GC, GZ, hrows, hreads⟩ := hAP.rows
              have HF : Hid (IsRows w8 a1 k2 (ga G1) (gl G1 L) (gl G1 L) Z ∧ IsBytes w8 a2 pn P ∧ IsRows w8 (some ⟨w4.heap.size, 0, none⟩) k2 (ga G3) (gl G3 L) (gl G3 L) Z ∧ (∀ i, i < k2 → w8.cell? ⟨w4.heap.size + 1 + 1, i, none⟩ = some (.bool (G3 i).isSome)) ∧ Below wa.heap.size wa w8) := ⟨hold, hwant, hoth, hsh, hbel⟩
              have HG : Hid (IsRows w8 a3 k2 GA GL GC GZ ∧ ∀ i, i < k2 → Reads size GA (ga G1) GL (gl G1 L) GZ Z off pn P i) := ⟨hrows, hreads⟩
              clear hold hwant hoth hsh hbel hrows hreads hAP
              go_wp2_with fail
              refine (zzchunks_any _ _ _ _ _ f1).mono ?_
              rintro e w' ⟨rfl, hw'⟩
              obtain rfl : w8 = w' := hw'.symm
              clear hw'
              go_wp2_with fail
              refine (readsAs_any w8 size off a3 a1 k2 k2 k2 GA (ga G1) GL (gl G1 L) GC (gl G1 L) GZ Z a2 pn pn P HG.out.1 HF.out.1 HF.out.2.1 hz0 (by omega) hn' hoff (by omega) hpn' HG.out.2).mono ?_
              rintro e w9 ⟨rfl, m1, hw9⟩
              have g2 : w9.cell? ⟨w5.heap.size, 1, none⟩ = some (.slice (some ⟨w4.heap.size, 0, none⟩) k2 k2) := by rw [hw9]; exact f2
              have g3 : w9.cell? ⟨w5.heap.size, 2, none⟩ = some (.slice (some ⟨w4.heap.size + 1 + 1, 0, none⟩) k2 k2) := by rw [hw9]; exact f3
              have HW9 : Hid (w9 = w8.drewN m1) := hw9
              clear f1 f2 f3 hw9
              go_wp2_with fail
              refine (zzchunks_any _ _ _ _ _ g2).mono ?_
              rintro e w' ⟨rfl, hw'⟩
              obtain rfl : w9 = w' := hw'.symm
              clear hw'
              go_wp2_with fail
              refine (readsAs_any w9 size off (some ⟨w4.heap.size, 0, none⟩) a1 k2 k2 k2 (ga G3) (ga G1) (gl G3 L) (gl G1 L) (gl G3 L) (gl G1 L) Z Z none 0 0 P (by rw [HW9.out]; exact HF.out.2.2.1.drewN m1) (by rw [HW9.out]; exact HF.out.1.drewN m1) (fun j hj => absurd hj (Nat.not_lt_zero _)) hz0 (by omega) hn' hoff (by omega) (by omega) (law4_reads hz0 hlo H1.out H3.out HL.out.1)).mono ?_
              rintro e w10 ⟨rfl, m2, hw10⟩
              have g4 : w10.cell? ⟨w5.heap.size, 2, none⟩ = some (.slice (some ⟨w4.heap.size + 1 + 1, 0, none⟩) k2 k2) := by rw [hw10]; exact g3
              have HW10 : Hid (w10 = w9.drewN m2) := hw10
              clear g2 g3 hw10
              go_wp2_with fail
              refine (zzshared_any _ _ _ _ _ g4).mono ?_
              rintro e w' ⟨rfl, hw'⟩
              obtain rfl : w10 = w' := hw'.symm
              clear hw' g4
              go_wp2
              go_loopg [20] k2 (fun g i wx => ∃ j m : Nat, j ≤ k2 ∧ g = k2 - j ∧ i = .int .i64 j ∧ wx = w8.drewN m)
              case atStart => exact ⟨0, m1 + m2, Nat.zero_le _, rfl, rfl, by rw [HW10.out, HW9.out, World.drewN_drewN]⟩
              case round =>
                obtain ⟨j, m, hj, rfl, rfl, hw⟩ := hrel
                have hfin : Below w.heap.size w wr := by rw [hw]; exact below_drewN (HA.out.2.2.1.trans (by rw [← HA.out.2.2.2]; exact HF.out.2.2.2.2)) m
                have HFIN : Hid (Below w.heap.size w wr) := hfin
                clear hfin
                by_cases hjl : j < k2
                · have s1 : wr.cell? ⟨w4.heap.size + 1 + 1, j, none⟩ = some (.bool (G3 j).isSome) := by rw [hw]; exact HF.out.2.2.2.1 j hjl
                  obtain ⟨b, o, ha1, hc⟩ := HF.out.1.top j hjl
                  have s2 : wr.cell? ⟨b, o + j, none⟩ = some (.slice (ga G1 j) (gl G1 L j) (gl G1 L j)) := by rw [hw]; exact hc
                  have hgg := law4_G H1.out H3.out hjl
                  have HWW : Hid (wr = w8.drewN m) := hw
                  have q := q24n
                  clear hc hw H1 H2 H3 H4 hK HG HF
                  subst ha1
                  cases e1 : G3 j with
                  | none =>
                    have e2 := hgg.2 e1
                    simp only [e1, ga, e2, Option.isSome_none, Option.map_none] at s1 s2
                    clear e1 e2 hgg
                    go_wp2
                    go_quiet (fail)
                    go_wp2
                    go_roundg (k2 - (j + 1))
                    case measure => omega
                    case rel => exact ⟨j + 1, _, by omega, rfl, by go_num, by rw [HWW.out, World.drewN_drewN]⟩
                  | some x =>
                    cases e2 : G1 j with
                    | none => rw [hgg.1 e2] at e1; cases e1
                    | some y =>
                      simp only [e1, ga, e2, Option.isSome_some, Option.map_some] at s1 s2
                      clear e1 e2 hgg
                      go_wp2
                      go_quiet (fail)
                      go_wp2
                      go_roundg (k2 - (j + 1))
                      case measure => omega
                      case rel => exact ⟨j + 1, _, by omega, rfl, by go_num, by rw [HWW.out, World.drewN_drewN]⟩
                · clear hw H1 H2 H3 H4 hK HG HF
                  go_wp2
                  go_ret
                  exact ⟨rfl, HFIN.out⟩
end Go.Proofs.Qxb6628324aFmt
