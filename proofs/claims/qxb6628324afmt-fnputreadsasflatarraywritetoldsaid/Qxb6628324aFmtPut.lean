import Derived.Test.Qxb6628324aFmtPrep
import Derived.Deep.RegionLawGrows
import Derived.Deep.DeepCutAuto
namespace Go.Proofs.Qxb6628324aFmt
open Go.RowKit Go.Deep
set_option linter.unusedVariables false

theorem put_empty (w : World) (bp : Nat) (size off : Int) (a : Option Addr) (c : Nat) (h : w.cell? ⟨bp, 0, none⟩ = some (.int .i64 size)) (h0 : 0 ≤ off) (h1 : off ≤ size) (h2 : size ≤ 4294967296) :
    Calls Tryf.prog 11 #[.pointer (some ⟨bp, 0, none⟩), .int .i64 off, .slice a 0 c] w fun e w' => e = .returned (.tuple #[]) ∧ w' = w := by
  go_enter Tryf.func11, Tryf.ntmps11
  go_wp2_with (go_at_call 19; refine (check_any _ _ _ _ _ _ _ h h0 (by omega) h2).mono ?_; rintro e w' ⟨rfl, rfl⟩)
  refine wp_loop_once ?_
  go_wp2
  go_end0
  exact ⟨rfl, rfl⟩

set_option maxRecDepth 100000 in
set_option maxHeartbeats 4000000 in
theorem put_any (B : Nat) (w : World) (bp cb pb po pn n : Nat) (sh : Option Nat) (size off : Int) (P : Nat → Int) (G0 : Nat → Option Nat) (C0 : Nat → Nat) (Z0 : Nat → Nat → Int) (S0 : Nat → Bool)
    (hM : Mem B w bp cb pb po pn n sh size P G0 C0 Z0 S0) (hpn : 0 < pn) (hpn' : pn ≤ 1048576) (hn : n ≤ 65536) (h0 : 0 ≤ size) (hlo : (n : Int) * 65536 < size + 65536) (hhi : size ≤ (n : Int) * 65536)
    (hoff : 0 ≤ off) (hfit : (pn : Int) ≤ size - off) (hS0 : sh = none → ∀ i, i < n → S0 i = false) (hS1 : ∀ i, i < n → S0 i = true → G0 i ≠ none) :
    Calls Tryf.prog 11 #[.pointer (some ⟨bp, 0, none⟩), .int .i64 off, .slice (some ⟨pb, po, none⟩) pn pn] w fun e w' =>
      e = .returned (.tuple #[]) ∧ ∃ G C Z S, Mem B w' bp cb pb po pn n sh size P G C Z S ∧ Rel B w w' cb n sh size off P G0 Z0 S0 pn G Z S := by
  have q := q24e
  have q3 := q23n
  have hc0 := hM.c0
  have hR := Rel.start B w cb n sh size off P G0 Z0 S0 h0 hlo
  go_enter Tryf.func11, Tryf.ntmps11
  go_wp2_with (go_at_call 19; refine (check_any _ _ _ _ _ _ _ hc0 hoff hfit (by omega)).mono ?_; rintro e w' ⟨rfl, hw'⟩; obtain rfl : w = w' := hw'.symm)
  clear hc0
  go_loopg [1, 2] pn (fun g o p wr => ∃ (k pc : Nat) (pq : Option Addr), k ≤ pn ∧ g = pn - k ∧ o = .int .i64 (off + k) ∧ p = .slice pq (pn - k) pc ∧ (k < pn → pq = some ⟨pb, po + k, none⟩) ∧ pn - k ≤ pc ∧ pc ≤ pn ∧
    ∃ G C Z S, Mem B wr bp cb pb po pn n sh size P G C Z S ∧ Rel B w wr cb n sh size off P G0 Z0 S0 k G Z S)
  case atStart => exact ⟨0, pn, _, Nat.zero_le _, rfl, by simp, rfl, fun _ => rfl, by omega, by omega, G0, C0, Z0, S0, hM, hR⟩
  case round =>
    clear hM hR
    obtain ⟨k, pc, pq, hk, rfl, rfl, rfl, hpq, hpc, hpc', G, C, Z, S, hM, hR⟩ := hrel
    by_cases hlt : k < pn
    · obtain rfl := hpq hlt
      clear hpq
      obtain ⟨i, hi⟩ : ∃ i : Nat, (i : Int) = (off + k) / 65536 := ⟨_, Int.toNat_of_nonneg (by omega)⟩
      obtain ⟨at', hat⟩ : ∃ a : Nat, (a : Int) = (off + k) % 65536 := ⟨_, Int.toNat_of_nonneg (by omega)⟩
      have hsum : off + k = (i : Int) * 65536 + at' := by omega
      have hin : i < n := by omega
      have hat65 : at' < 65536 := by omega
      have hl := ln_eq h0 hlo hin
      have hc0 := hM.c0
      have hc1 := hM.c1
      have hcell := hM.top.cell hin
      have HH : Hid (Mem B wr bp cb pb po pn n sh size P G C Z S ∧ Rel B w wr cb n sh size off P G0 Z0 S0 k G Z S) := ⟨hM, hR⟩
      have HS : Hid (off + k = (i : Int) * 65536 + at') := hsum
      have HL : Hid ((Ln size i : Int) = chLen size i ∧ 0 < Ln size i ∧ Ln size i ≤ 65536) := hl
      clear hM hR hsum hl
      have hi' := hi.symm
      have hat' := hat.symm
      clear hi hat
      go_upto_block 2 with fail
      simp only [hi', hat']
      clear hi' hat'
      go_cut [] (fun w1 => ∃ x G1 C1 Z1 S1, Prep B w wr w1 bp cb pb po pn n sh size off P G0 Z0 S0 k i G Z S x G1 C1 Z1 S1)
      case first =>
        have hin' : (i : Int) < n := by omega
        have hLp := HL.out.2.1
        have hLb := HL.out.2.2
        cases hG : G i with
        | none =>
          simp only [hG, sv] at hcell
          have HG : Hid (G i = none) := hG
          clear hG
          have htop := HH.out.1.top
          have hst1 : ∀ o, (wr.alloc o).cell? ⟨cb, i, none⟩ = some (.slice none 0 0) := fun o => by rw [← hcell]; exact World.cell?_of_block (blk_alloc_lt _ _ _ htop.lt)
          have hst2 : ∀ o, (wr.alloc o).frozen? ⟨cb, i, none⟩ = false := fun o => (htop.alloc o).frozen i
          have hst3 : ∀ o, (wr.alloc o).cell? ⟨bp, 1, none⟩ = some (.slice (some ⟨cb, 0, none⟩) n n) := fun o => by rw [← hc1]; exact World.cell?_of_block (blk_alloc_lt _ _ _ (World.block_lt_of_cell? _ _ hc1))
          clear htop
          have hmin : ∀ (ts : Array TypeId) (t : TypeId) (W : World), (Builtin.min_ ts t #[.int .i64 65536, .int .i64 (size - (i : Int) * 65536)]).run Tryf.prog W = .ok (.int .i64 (Ln size i : Int)) W := fun ts t W => by
            rw [run_min_int2, HL.out.1]; unfold chLen; congr 2; split <;> split <;> omega
          have hmk := run_make_row' (P := Tryf.prog) 24 5 (.int .u8 0) 1 Tryf.underlying24 info5 rfl .i64 .i64 (Ln size i) (by omega) (by omega)
          have hnewrow := World.rowIs_made wr (.int .u8 0) (Ln size i) 5
          have HN : Hid ((wr.alloc (.cells (madeCells #[.int .u8 0] (Ln size i)) 5)).rowIs wr.heap.size 5 (Ln size i) (fun _ => .int .u8 0)) := hnewrow
          clear hnewrow
          go_wp2
          go_region
          go_wp2
          go_meet
          case rel =>
            obtain ⟨hM, hR⟩ := HH.out
            obtain ⟨g1, g2⟩ := (hR.gn i hin).1 HG.out
            have hsf : S i = false := by
              rw [hR.s i hin]
              cases e : S0 i with
              | false => rfl
              | true => exact absurd g1 (hS1 i hin e)
            exact ⟨_, _, _, _, _, (Prep.fresh hM hR hpn hin ((Below.refl _ _).alloc (Nat.le_refl _) _) (Nat.le_refl _) (Nat.le_refl _) (rowHas.of_rowIs HN.out) (f := fun _ => 0) (fun l hl => by rw [want_untouched h0 hlo hin g2 l hl, g1]; rfl) hsf).alike⟩
        | some x =>
          simp only [hG, sv] at hcell
          have HG : Hid (G i = some x) := hG
          clear hG
          have hc2 := HH.out.1.c2
          have hshr := HH.out.1.shr
          cases hsh : sh with
          | none =>
            rw [hsh] at hc2
            simp only [shv] at hc2
            have HSH : Hid (sh = none) := hsh
            clear hsh hshr
            go_wp2
            go_meet
            case rel =>
              obtain ⟨hM, hR⟩ := HH.out
              exact ⟨x, G, C, Z, S, Prep.plain hM hR hin HG.out (by rw [hR.s i hin, hS0 HSH.out i hin]; rfl)⟩
          | some sb =>
            rw [hsh] at hc2
            simp only [shv] at hc2
            have hrow := hshr sb hsh
            have hmark := hrow.cell hin
            have hmf := hrow.frozen i
            have HSH : Hid (sh = some sb) := hsh
            clear hsh hshr hrow
            cases hSi : S i with
            | false =>
              rw [hSi] at hmark
              have HSi : Hid (S i = false) := hSi
              clear hmf hSi
              go_wp2
              go_meet
              case rel => exact ⟨x, G, C, Z, S, Prep.plain HH.out.1 HH.out.2 hin HG.out HSi.out⟩
            | true =>
              rw [hSi] at hmark
              have HSi : Hid (S i = true) := hSi
              clear hSi
              obtain ⟨ti, hti, hz0, hz1, hz2⟩ := info_parts info5
              obtain ⟨hLC, hxrow⟩ := HH.out.1.row i x hin HG.out
              have HM := HH.out.1
              have lbp : bp < wr.heap.size := World.block_lt_of_cell? _ _ hc1
              have lcb : cb < wr.heap.size := HM.top.lt
              have lsb : sb < wr.heap.size := World.block_lt_of_cell? _ _ hmark
              have hcbf := HM.top.frozen i
              obtain ⟨s1, _, s3, s4, _⟩ := HM.sep
              have n1 : bp ≠ cb := s1
              have n2 : sb ≠ cb := fun e => s4 (by rw [HSH.out, e])
              have n3 : bp ≠ sb := fun e => s3 (by rw [HSH.out, e])
              clear HM s1 s3 s4
              have hnc : ∀ j u, ((List.range (Ln size i)).map (fun j => Value.int .u8 (Z i j)))[j]? = some u → wr.drew.cell? ((⟨x, 0, none⟩ : Addr).add j) = some u := by
                intro j u hu
                rw [List.getElem?_map] at hu
                by_cases hj : j < Ln size i
                · rw [List.getElem?_range hj] at hu
                  simp at hu
                  subst hu
                  have := hxrow.cell hj
                  show wr.cell? _ = _
                  rw [Go.WideShapes.add_plain, Nat.zero_add]; exact this
                · rw [List.getElem?_eq_none (by simpa using hj)] at hu
                  cases hu
              have HNC : Hid (∀ j u, ((List.range (Ln size i)).map (fun j => Value.int .u8 (Z i j)))[j]? = some u → wr.drew.cell? ((⟨x, 0, none⟩ : Addr).add j) = some u) := hnc
              have h1c : ∀ u ∈ (List.range (Ln size i)).map (fun j => Value.int .u8 (Z i j)), u.oneCell' = true := by
                intro u hu
                obtain ⟨j, _, rfl⟩ := List.mem_map.1 hu
                rfl
              have H1C : Hid (∀ u ∈ (List.range (Ln size i)).map (fun j => Value.int .u8 (Z i j)), u.oneCell' = true) := h1c
              clear hnc h1c hxrow
              go_wp2
              go_region_law (refine step_append_grows rfl (.const (.slice none 0 0)) (.tmp 70) 24 rfl 5 ti (.int .u8 0) 1 1 Tryf.underlying24 hti hz0 hz1 hz2 rfl (by decide) none 0 0 [] rfl (fun _ => ⟨rfl, rfl⟩) rfl (fun _ h => by cases h) ⟨x, 0, none⟩ (Ln size i) (C i) ((List.range (Ln size i)).map (fun j => Value.int .u8 (Z i j))) (by simp [Act.eval]) (by simp) HNC.out H1C.out (by omega) (by unfold maxLen; omega) (by omega) ?_; intro v' w' hown hgrow; obtain ⟨g, cp, rfl, hg1, hg2, hg3⟩ := own_form hown hLp; have hB : Below wr.heap.size wr w' := ⟨hgrow.os, hgrow.tape, hgrow.output, hgrow.size, fun k hk => hgrow.block k hk (by simp)⟩; have f1 := bcell hB hc1; have f2 := bcell hB hcell; have f3 : w'.frozen? ⟨cb, i, none⟩ = false := (hB.frozen (p := ⟨cb, i, none⟩) lcb).trans hcbf; have f4 : ∀ v, (w'.setCell ⟨cb, i, none⟩ v).cell? ⟨bp, 2, none⟩ = some (.slice (some ⟨sb, 0, none⟩) n n) := fun v => cell_other (bcell hB hc2) n1; have f5 : ∀ v, (w'.setCell ⟨cb, i, none⟩ v).cell? ⟨sb, i, none⟩ = some (.bool true) := fun v => cell_other (bcell hB hmark) n2; have f6 : ∀ v, (w'.setCell ⟨cb, i, none⟩ v).frozen? ⟨sb, i, none⟩ = false := fun v => (World.frozen?_of_block (blk_setCell_other _ _ _ _ n2)).trans ((hB.frozen (p := ⟨sb, i, none⟩) lsb).trans hmf); have HF : Hid (wr.heap.size ≤ g ∧ Ln size i ≤ cp ∧ rowHas w' g 5 (Ln size i) (fun j => .int .u8 (Z i j)) ∧ Below wr.heap.size wr w') := ⟨hg1, hg2, hg3, hB⟩; clear hown hgrow hg1 hg2 hg3 hB)
              all_goals go_wp2
              all_goals go_meet
              all_goals exact ⟨_, _, _, _, _, Prep.unmarked HH.out.1 HH.out.2 hpn hin HSH.out HF.out.2.2.2 HF.out.1 HF.out.2.1 HF.out.2.2.1 (by rw [HG.out]; simp)⟩
      case rest =>
        obtain ⟨x, G1, C1, Z1, S1, hP⟩ := hcut
        obtain ⟨hM, hR⟩ := HH.out
        have hLp := HL.out.2.1
        have hLb := HL.out.2.2
        have hatl : at' < Ln size i := by have e1 := HL.out.1; have e2 := HS.out; unfold chLen at e1; split at e1 <;> omega
        have d1 := hP.mem.c1
        have d2 := hP.mem.top.cell hin
        simp only [hP.gi, sv] at d2
        obtain ⟨hLC, cur, hcur, hcs, hcc⟩ := hP.mem.row i x hin hP.gi
        obtain ⟨m, hm⟩ : ∃ m, m = Nat.min (pn - k) (Ln size i - at') := ⟨_, rfl⟩
        have hm0 : 0 < m := by rw [hm]; simp only [Nat.min_def]; split <;> omega
        have hm1 : m ≤ pn - k := by rw [hm]; exact Nat.min_le_left _ _
        have hm2 : m ≤ Ln size i - at' := by rw [hm]; exact Nat.min_le_right _ _
        have hsrc : ∀ j v, ((List.range m).map (fun j => Value.int .u8 (P (k + j))))[j]? = some v → wc.cell? ((⟨pb, po + k, none⟩ : Addr).add j) = some v := by
          intro j v hv
          rw [List.getElem?_map] at hv
          by_cases hj : j < m
          · rw [List.getElem?_range hj] at hv
            simp at hv
            subst hv
            have := hP.mem.p (k + j) (by omega)
            rw [Go.WideShapes.add_plain, Nat.add_assoc]
            exact this
          · rw [List.getElem?_eq_none (by simpa using hj)] at hv
            cases hv
        have h1c : ∀ u ∈ (List.range m).map (fun j => Value.int .u8 (P (k + j))), u.oneCell' = true := by
          intro u hu
          obtain ⟨j, _, rfl⟩ := List.mem_map.1 hu
          rfl
        have hcp := fun ty => run_copy_row (P := Tryf.prog) wc 24 24 ty 5 x at' (Ln size i - at') (C1 i - at') ⟨pb, po + k, none⟩ (pn - k) pc cur 5 ((List.range m).map (fun j => Value.int .u8 (P (k + j)))) Tryf.underlying24 (by kernel_rfl) hcur (by rw [← hm]; simp) hsrc (by simp; omega) h1c
        have hrow := row_copied (w := wc) (x := x) (n := Ln size i) (at' := at') (m := m) (cur := cur) (f := Z1 i) (g := fun j => P (k + j)) hcur hcs hcc _ rfl (by omega)
        simp only [List.length_map, List.length_range, List.append_assoc] at hcp hrow
        obtain ⟨w2, hw2⟩ : ∃ w2, w2 = wc.setRow x (cur.toList.take at' ++ ((List.range m).map (fun j => Value.int .u8 (P (k + j))) ++ cur.toList.drop (at' + m))).toArray := ⟨_, rfl⟩
        rw [← hw2] at hcp hrow
        have ho : ∀ b, b ≠ x → w2.heap[b]? = wc.heap[b]? := fun b hb => by rw [hw2]; exact setRow_other _ _ _ _ hb
        have hbw : Below B wc w2 := by rw [hw2]; exact below_setRow (Below.refl _ _) (hP.mem.ne i x hin hP.gi).2.2.2.2 _
        have hfin := hP.done hR h0 hlo hin hoff HS.out hm0 (by omega) ho hbw hrow
        have HFIN : Hid (∃ G2 C2 Z2 S2, Mem B w2 bp cb pb po pn n sh size P G2 C2 Z2 S2 ∧ Rel B w w2 cb n sh size off P G0 Z0 S0 (k + m) G2 Z2 S2) := hfin
        have HM : Hid (m = Nat.min (pn - k) (Ln size i - at')) := hm
        clear hP hM hR hsrc h1c hrow ho hbw hfin hcur hcs hcc hw2 hm
        go_wp2
        · go_roundg (pn - (k + m))
          case measure => omega
          case rel =>
            obtain ⟨G2, C2, Z2, S2, r1, r2⟩ := HFIN.out
            exact ⟨k + m, 0, _, by omega, rfl, by rw [Int.natCast_add, Int.add_assoc], by rw [Nat.sub_sub], fun h => by exfalso; omega, by omega, by omega, G2, C2, Z2, S2, r1, r2⟩
        · go_roundg (pn - (k + m))
          case measure => omega
          case rel =>
            obtain ⟨G2, C2, Z2, S2, r1, r2⟩ := HFIN.out
            exact ⟨k + m, pc - m, _, by omega, rfl, by rw [Int.natCast_add, Int.add_assoc], by rw [Nat.sub_sub], fun h => by rw [Nat.add_assoc], by omega, by omega, G2, C2, Z2, S2, r1, r2⟩
    · have e : k = pn := by omega
      subst e
      clear hpq
      have HH : Hid (Mem B wr bp cb pb po k n sh size P G C Z S ∧ Rel B w wr cb n sh size off P G0 Z0 S0 k G Z S) := ⟨hM, hR⟩
      clear hM hR
      go_wp2
      go_end0
      exact ⟨rfl, G, C, Z, S, HH.out⟩

end Go.Proofs.Qxb6628324aFmt
