import Derived.Test.Qxb6628412aOf
import Derived.Deep.RegionLaw
namespace Go.Proofs.Qxb6628412a
open Go.RowKit Go.Deep
set_option linter.unusedVariables false

def fCell (p : Option Addr) (s1 s2 : ByteArray) (ln : Int) (s3 s4 s5 : ByteArray) : Nat → Value
  | 0 => .pointer p
  | 1 => .string s1
  | 2 => .string s2
  | 3 => .int .i64 ln
  | 4 => .string s3
  | 5 => .string s4
  | _ => .string s5

section
variable {w w2 w3 : World} {lb k m : Nat} {fv rv : Value} {FF : Nat → Nat → Value} {Q : Nat → Option Addr} {C : Nat → Int}

/-- The count of entry j goes on by one. -/
theorem LS.bump {g cap : Nat} (h : LS w lb k m fv (.slice (some ⟨g, 0, none⟩) m cap) FF Q C) (j : Nat) (x : Int) :
    LS (w.setCell ⟨g, j * 10 + 1, none⟩ (.int .i64 x)) lb k m fv (.slice (some ⟨g, 0, none⟩) m cap) FF Q (upd C j x) := by
  have hg : lb + 1 ≤ g := (h.ro.lt rfl).2
  refine ⟨h.l.setOther (show lb ≠ g by omega) _, h.fo.of_block fun b hb => ?_, (h.ro.set (by decide) j 1 (by decide) _).congr fun j' c hj' hc => ?_, h.sep⟩
  · refine blk_setCell_other _ _ _ _ (show b ≠ g from ?_)
    rintro rfl
    exact h.sep _ hb rfl
  · show (if j' = j ∧ c = 1 then Value.int .i64 x else rlCell (Q j') (C j') c) = rlCell (Q j') (upd C j x j') c
    by_cases e : j' = j
    · subst e
      rw [upd_same]
      match c, hc with
      | 0, _ => simp [rlCell]
      | 1, _ => simp [rlCell]
      | 2, _ => simp [rlCell]
      | 3, _ => simp [rlCell]
      | 4, _ => simp [rlCell]
      | 5, _ => simp [rlCell]
      | 6, _ => simp [rlCell]
      | c + 7, _ => simp [rlCell]
    · rw [upd_other _ _ _ _ e, if_neg (fun h => e h.1)]

theorem LS.addStep (h : LS w lb k m fv rv FF Q C) (hb : Below w.heap.size w w2) {g cap : Nat} {f : Nat → Value}
    (hown : w3.ownsRow (lb + 1) 41 7 (.slice (some ⟨g, 0, none⟩) (k + 1) cap) (k + 1) (flat FF 7 k ++ (List.range 7).map f))
    (hg : w2.grownBy w3 fv.ownBlock) (hat : fv.ownBlock = some g ∨ g = w2.heap.size) :
    LS (w3.setCell ⟨lb, 0, none⟩ (.slice (some ⟨g, 0, none⟩) (k + 1) cap)) lb (k + 1) m (.slice (some ⟨g, 0, none⟩) (k + 1) cap) rv (upd FF k f) Q C ∧
    Below lb w (w3.setCell ⟨lb, 0, none⟩ (.slice (some ⟨g, 0, none⟩) (k + 1) cap)) := by
  have hs : w.heap.size ≤ w2.heap.size := hb.size
  have blk : ∀ b, b < w.heap.size → fv.ownBlock ≠ some b → w3.heap[b]? = w.heap[b]? := fun b hb' hne => (hg.block b (by omega) (fun e => hne e.symm)).trans (hb.block b hb')
  have hlb := h.l.lt
  have hrl : fv.ownBlock ≠ some lb := fun e => by have := (h.fo.lt e).2; omega
  have hO : Own w3 (lb + 1) 41 7 (.slice (some ⟨g, 0, none⟩) (k + 1) cap) (k + 1) (upd FF k f) := by
    refine Own.of_owns ?_ (by decide)
    rw [flat_succ _ _ _ (by decide)]
    have e1 : flat (upd FF k f) 7 k = flat FF 7 k := flat_congr (by decide) fun j c hj _ => by rw [upd_other _ _ _ _ (by omega)]
    rw [e1, upd_same]
    exact hown
  have hgl : lb + 1 ≤ g := (hO.lt rfl).2
  refine ⟨⟨((h.l.of_block (blk lb hlb hrl)).set 0 _).congr fun i hi => ?_, hO.of_block fun b hb' => ?_, (h.ro.of_block fun b hb' => ?_), fun b hb' => ?_⟩, ⟨?_, ?_, ?_, ?_, fun b hb' => ?_⟩⟩
  · by_cases e : i = 0
    · simp [e]
    · simp [e]
  · simp [Value.ownBlock] at hb'
    exact blk_setCell_other _ _ _ _ (show b ≠ lb by omega)
  · have hf := h.ro.lt hb'
    rw [blk_setCell_other _ _ _ _ (show b ≠ lb by omega)]
    exact blk b hf.1 (fun e => h.sep b e hb')
  · intro e
    simp [Value.ownBlock] at hb'
    subst hb'
    rcases hat with e' | e'
    · exact h.sep _ e' e
    · have := (h.ro.lt e).1
      omega
  · exact hg.os.trans hb.os
  · exact hg.tape.trans hb.tape
  · exact hg.output.trans hb.output
  · have := hg.size
    simp [World.setCell]
    omega
  · rw [blk_setCell_other _ _ _ _ (show b ≠ lb by omega)]
    exact blk b (by omega) fun e => by have := (h.fo.lt e).2; omega

theorem LS.lcell0 (h : LS w lb k m fv rv FF Q C) (hb : Below w.heap.size w w2) (hg : w2.grownBy w3 fv.ownBlock) :
    w3.cell? ⟨lb, 0, none⟩ = some fv ∧ w3.frozen? ⟨lb, 0, none⟩ = false := by
  have hlb := h.l.lt
  have hs : w.heap.size ≤ w2.heap.size := hb.size
  have hrl : fv.ownBlock ≠ some lb := fun e => by have := (h.fo.lt e).2; omega
  have e : w3.heap[lb]? = w.heap[lb]? := (hg.block lb (by omega) (fun e => hrl e.symm)).trans (hb.block lb hlb)
  exact ⟨(World.cell?_of_block (w := w) e).trans h.c0, (World.frozen?_of_block (w := w) e).trans (h.l.frozen 0)⟩
end

theorem f_news (w : World) (p : Option Addr) (s1 s2 : ByteArray) (ln : Int) (s3 s4 s5 : ByteArray) : ∀ j u, ((List.range 7).map (fCell p s1 s2 ln s3 s4 s5))[j]? = some u →
    (w.alloc (.cells #[.pointer p, .string s1, .string s2, .int .i64 ln, .string s3, .string s4, .string s5] 41)).cell? ((⟨w.heap.size, 0, none⟩ : Addr).add j) = some u := by
  rw [rlist_eq]
  exact World.news_of_block (blk_alloc_new w _)
theorem one_f (p : Option Addr) (s1 s2 : ByteArray) (ln : Int) (s3 s4 s5 : ByteArray) : ∀ u ∈ (List.range 7).map (fCell p s1 s2 ln s3 s4 s5), u.oneCell' = true := by
  rw [rlist_eq]
  simp [fCell, Value.oneCell']

set_option maxHeartbeats 4000000 in
theorem add_any (w : World) (lb k m : Nat) (fv rv : Value) (FF : Nat → Nat → Value) (Q : Nat → Option Addr) (C : Nat → Int) (r : Option Addr) (s1 s2 : ByteArray) (ln : Int) (s3 s4 s5 : ByteArray)
    (h : LS w lb k m fv rv FF Q C) (hm : m ≤ 1048576) (hk : k ≤ 1048576) (hQ : ∀ i, i < m → Good w lb (Q i)) (hr : Good w lb r)
    (hC : ∀ m' Q' C' j, OfRel m Q C r m' Q' C' j → 0 ≤ C' j ∧ C' j < 1000) :
    Calls Try.prog 5 #[.pointer (some ⟨lb, 0, none⟩), .agg #[.pointer r, .string s1, .string s2, .int .i64 ln, .string s3, .string s4, .string s5]] w fun e w' => e = .returned (.tuple #[]) ∧
      ∃ m' j fv' rv' Q' C', OfRel m Q C r m' Q' C' j ∧ LS w' lb (k + 1) m' fv' rv' (upd FF k (fCell r s1 s2 ln s3 s4 s5)) Q' (upd C' j (C' j + 1)) ∧ Below lb w w' := by
  have H : Hid (LS w lb k m fv rv FF Q C) := h
  have HC : Hid (∀ m' Q' C' j, OfRel m Q C r m' Q' C' j → 0 ≤ C' j ∧ C' j < 1000) := hC
  have hlb := h.l.lt
  have hb1 : Below w.heap.size w (w.alloc (.cells #[.pointer r, .string s1, .string s2, .int .i64 ln, .string s3, .string s4, .string s5] 41)) := (Below.refl _ _).alloc (Nat.le_refl _) _
  have hof := of_any _ lb k m fv rv FF Q C r (h.later hb1) hm (fun i hi => (hQ i hi).later (hb1.mono (by omega))) (hr.later (hb1.mono (by omega)))
  clear h hC hQ hr hb1
  go_enter Try.func5, Try.ntmps5
  go_wp2_with fail
  refine hof.mono ?_
  clear hof
  rintro e w2 ⟨m', j, g, cap, Q', C', rfl, hj, hrel, hLS, hfr, hg⟩
  have hc := HC.out m' Q' C' j hrel
  have hrvN : rv.ownBlock ≠ some w.heap.size := fun e => by have := (H.out.ro.lt e).1; omega
  have hN : w2.heap[w.heap.size]? = some (.cells #[.pointer r, .string s1, .string s2, .int .i64 ln, .string s3, .string s4, .string s5] 41) := by
    rw [hfr.block w.heap.size (by simp) (fun h => h.elim (fun e => by omega) hrvN)]
    exact blk_alloc_new w _
  have hgN : g ≠ w.heap.size := by
    rintro rfl
    rcases hg with e | e
    · exact hrvN e
    · rw [show ∀ o, (w.alloc o).heap.size = w.heap.size + 1 from fun o => by simp] at e
      omega
  have hsz : w.heap.size < w2.heap.size := by have := hfr.size; simp at this; omega
  have hB2 : Below lb w w2 := by
    refine ⟨hfr.os, hfr.tape, hfr.output, by omega, fun b hb => ?_⟩
    rw [hfr.block b (by simp; omega) (fun h => h.elim (fun e => by omega) (fun e => by have := (H.out.ro.lt e).2; omega))]
    exact blk_alloc_lt _ _ _ (by omega)
  have l1 := (hLS.rl rfl hj).c1
  have fz := hLS.ro.frozen (j * 10 + 1)
  have hLS3 := hLS.bump j (C' j + 1)
  obtain ⟨x, hx⟩ : ∃ x, x = C' j := ⟨_, rfl⟩
  rw [← hx] at hc l1 hLS3
  have hc1 := hc.1
  have hc2 := hc.2
  have hN3 : (w2.setCell ⟨g, j * 10 + 1, none⟩ (.int .i64 (x + 1))).heap[w.heap.size]? = some (.cells #[.pointer r, .string s1, .string s2, .int .i64 ln, .string s3, .string s4, .string s5] 41) := by
    rw [blk_setCell_other _ _ _ _ (show w.heap.size ≠ g from Ne.symm hgN)]
    exact hN
  obtain ⟨fa, fcap, hfv⟩ := hLS.fo.form
  subst hfv
  have HI : Hid (OfRel m Q C r m' Q' C' j ∧ Below lb w w2 ∧ lb + 1 ≤ g ∧ x = C' j) := ⟨hrel, hB2, (hLS.ro.lt rfl).2, hx⟩
  clear hx hc hrel hLS hfr hg hB2 hrvN
  have HB2 : Hid (Below lb w (w2.setCell ⟨g, j * 10 + 1, none⟩ (.int .i64 (x + 1)))) := HI.out.2.1.setCell (show lb ≤ g by have := HI.out.2.2.1; omega) _
  go_wp2
  generalize hw3 : w2.setCell ⟨g, j * 10 + 1, none⟩ (.int .i64 (x + 1)) = w3 at hLS3 hN3 HB2 ⊢
  clear hw3 l1 fz hN hsz
  have f0 : w3.cell? ⟨w.heap.size, 0, none⟩ = some (.pointer r) := by simp [World.cell?, hN3]
  have f1 : w3.cell? ⟨w.heap.size, 1, none⟩ = some (.string s1) := by simp [World.cell?, hN3]
  have f2 : w3.cell? ⟨w.heap.size, 2, none⟩ = some (.string s2) := by simp [World.cell?, hN3]
  have f3 : w3.cell? ⟨w.heap.size, 3, none⟩ = some (.int .i64 ln) := by simp [World.cell?, hN3]
  have f4 : w3.cell? ⟨w.heap.size, 4, none⟩ = some (.string s3) := by simp [World.cell?, hN3]
  have f5 : w3.cell? ⟨w.heap.size, 5, none⟩ = some (.string s4) := by simp [World.cell?, hN3]
  have f6 : w3.cell? ⟨w.heap.size, 6, none⟩ = some (.string s5) := by simp [World.cell?, hN3]
  have l0 := hLS3.c0
  have l0' : ∀ o, (w3.alloc o).cell? ⟨lb, 0, none⟩ = some (.slice fa k fcap) := fun o => bcell ((Below.refl _ _).alloc (Nat.le_refl _) _) l0
  have HO : Hid ((w3.alloc (.cells #[.pointer r, .string s1, .string s2, .int .i64 ln, .string s3, .string s4, .string s5] 41)).ownsRow (lb + 1) 41 7 (.slice fa k fcap) k (flat FF 7 k)) := (hLS3.fo.later ((Below.refl _ _).alloc (Nat.le_refl _) _)).owns (by decide)
  have H3 : Hid (LS w3 lb k m' (.slice fa k fcap) (.slice (some ⟨g, 0, none⟩) m' cap) FF Q' (upd C' j (x + 1))) := hLS3
  have hl3 := hLS3.l.lt
  clear hLS3 hN3
  obtain ⟨ti, hti, hz0, hz1, hz2⟩ := info_parts info41
  have K1 : Hid (k + 1 ≤ maxLen) := by unfold maxLen; show _ ≤ _; omega
  have K2 : Hid ((k + 1) * 96 ≤ 140737488355328) := by show _ ≤ _; omega
  have HBS : Hid (∀ o, lb + 1 ≤ (w3.alloc o).heap.size) := fun o => by simp; omega
  go_region_law (first
    | (refine step_append_lies _ rfl (.tmp 33) (.tmp 35) 35 rfl (lb + 1) 41 ti (.agg #[.pointer none, .string { data := #[] }, .string { data := #[] }, .int .i64 0, .string { data := #[] }, .string { data := #[] }, .string { data := #[] }]) 7 96 Try.underlying35 hti hz0 hz1 hz2 rfl (Nat.succ_pos _) (.slice fa k fcap) k (flat FF 7 k) rfl HO.out ⟨w3.heap.size, 0, none⟩ 1 1 ((List.range 7).map (fCell r s1 s2 ln s3 s4 s5)) rfl rfl (f_news w3 r s1 s2 ln s3 s4 s5) (one_f r s1 s2 ln s3 s4 s5) (Nat.succ_pos _) K1.out K2.out (HBS.out _) _ rfl ?_; intro g' cp w4 hown hgrow hat hlt; have hst := H3.out.addStep (((Below.refl _ _).alloc (Nat.le_refl _) _).drew) hown hgrow hat; have hlc := H3.out.lcell0 (((Below.refl _ _).alloc (Nat.le_refl _) _).drew) hgrow; have t1 := hlc.1; have t2 := hlc.2; have HST := hid_of hst; clear hown hgrow hat hlt hst hlc))
  all_goals go_wp2
  all_goals go_end0
  all_goals exact ⟨rfl, m', j, _, _, Q', C', HI.out.1, (by rw [← HI.out.2.2.2]; exact HST.out.1), HB2.out.trans HST.out.2⟩

end Go.Proofs.Qxb6628412a
