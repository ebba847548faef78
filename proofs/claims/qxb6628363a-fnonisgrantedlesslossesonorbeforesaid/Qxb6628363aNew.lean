import Derived.Test.Qxb6628363aWf
import Derived.Deep.RegionLaw
import Derived.Deep.RegionHeld3
import Derived.Deep.DeepCutAuto
namespace Go.Proofs.Qxb6628363a
open Go.RowKit Go.Deep
set_option linter.unusedVariables false

theorem own_below {w W : World} {base : Nat} {e : TypeId} {size : Nat} {v : Value} {n : Nat} {xs : List Value} (h : w.ownsRow base e size v n xs) (hb : Below w.heap.size w W) : W.ownsRow base e size v n xs := by
  obtain ⟨h1, h2⟩ := h
  refine ⟨h1, ?_⟩
  rcases h2 with h2 | ⟨g, cap, cur, hv, hg, hh, r⟩
  · exact Or.inl h2
  · obtain ⟨hlt, _⟩ := Array.getElem?_eq_some_iff.1 hh
    exact Or.inr ⟨g, cap, cur, hv, hg, by rw [hb.block g hlt]; exact hh, r⟩

theorem own_other {w : World} {base : Nat} {e : TypeId} {size : Nat} {v : Value} {n : Nat} {xs : List Value} (h : w.ownsRow base e size v n xs) {a : Addr} (ha : v.ownBlock ≠ some a.block) (u : Value) : (w.setCell a u).ownsRow base e size v n xs := by
  obtain ⟨h1, h2⟩ := h
  refine ⟨h1, ?_⟩
  rcases h2 with h2 | ⟨g, cap, cur, hv, hg, hh, r⟩
  · exact Or.inl h2
  · refine Or.inr ⟨g, cap, cur, hv, hg, ?_, r⟩
    rw [Below.heap_setCell _ _ _ _ ?_]
    · exact hh
    · rintro rfl; exact ha (by rw [hv]; rfl)

/-- The cells of one loss. -/
def lossOf (d : Int) (a : Option Addr) (l c : Nat) : List Value := [.int .u64 (d % 1000000000), .int .i64 (d / 1000000000), .pointer none, .slice a l c]
def losses (D : Nat → Int) (A : Nat → Option Addr) (L C : Nat → Nat) (k : Nat) : List Value := (List.range k).flatMap fun i => lossOf (D i) (A i) (L i) (C i)
theorem losses_succ (D : Nat → Int) (A : Nat → Option Addr) (L C : Nat → Nat) (k : Nat) : losses D A L C (k + 1) = losses D A L C k ++ lossOf (D k) (A k) (L k) (C k) := by
  unfold losses
  rw [List.range_succ, List.flatMap_append]
  simp

/-- The ledger under construction, k losses in it. -/
structure NI (w wr : World) (gv v : Value) (k : Nat) (D : Nat → Int) (A : Nat → Option Addr) (L C : Nat → Nat) : Prop where
  below : Below w.heap.size w wr
  blk : wr.heap[w.heap.size]? = some (.cells #[.int .u64 0, .int .i64 0, .pointer none, gv, v] 39 (0, 0))
  own : wr.ownsRow w.heap.size 43 4 v k (losses D A L C k)
  ne : v.ownBlock ≠ some w.heap.size

theorem own_slice {w : World} {base : Nat} {e : TypeId} {size : Nat} {v : Value} {n : Nat} {xs : List Value} (h : w.ownsRow base e size v n xs) : ∃ a c, v = .slice a n c := by
  rcases h.2 with ⟨h1, h2⟩ | ⟨g, cap, cur, hv, _⟩
  · exact ⟨none, 0, by rw [h1, h2]⟩
  · exact ⟨_, _, hv⟩

theorem info43 : (Try.prog.info? 43).map (fun i => (i.zero, i.size, i.bytes)) = some (some (.agg #[.int .u64 0, .int .i64 0, .pointer none, .slice none 0 0]), 4, 48) := by kernel_rfl

theorem alloc_le {w wr w2 : World} {o : Obj} (h : w.heap.size < wr.heap.size) (hB : Below wr.heap.size wr w2) : w.heap.size ≤ (w2.alloc o).heap.size := by
  have := hB.size
  rw [nblk_alloc]
  omega

theorem loss_one (d : Int) (a : Option Addr) (l c : Nat) : ∀ u ∈ lossOf d a l c, u.oneCell' = true := by
  intro u hu
  simp [lossOf] at hu
  rcases hu with rfl | rfl | rfl | rfl <;> rfl

theorem NI.block {w wr w2 w3 : World} {gv v : Value} {k : Nat} {D : Nat → Int} {A : Nat → Option Addr} {L C : Nat → Nat} {o : Obj} (hI : NI w wr gv v k D A L C) (hB : Below wr.heap.size wr w2) (hgrow : (w2.alloc o).grownBy w3 v.ownBlock) :
    w3.heap[w.heap.size]? = some (.cells #[.int .u64 0, .int .i64 0, .pointer none, gv, v] 39 (0, 0)) := by
  obtain ⟨hlt, _⟩ := Array.getElem?_eq_some_iff.1 hI.blk
  have hz := hB.size
  rw [hgrow.block _ (by simp; omega) (fun e => hI.ne e.symm), blk_alloc_lt _ _ _ (by omega), hB.block _ hlt]
  exact hI.blk

theorem NI.step {w wr w2 w3 : World} {gv v : Value} {k g cp : Nat} {D : Nat → Int} {A : Nat → Option Addr} {L C : Nat → Nat} {o : Obj} (hI : NI w wr gv v k D A L C) (hB : Below wr.heap.size wr w2) (hgrow : (w2.alloc o).grownBy w3 v.ownBlock)
    (hown : w3.ownsRow w.heap.size 43 4 (.slice (some ⟨g, 0, none⟩) (k + 1) cp) (k + 1) (losses D A L C k ++ lossOf (D k) (A k) (L k) (C k))) (hat : v.ownBlock = some g ∨ g = (w2.alloc o).heap.size) :
    NI w (w3.setCell ⟨w.heap.size, 4, none⟩ (.slice (some ⟨g, 0, none⟩) (k + 1) cp)) gv (.slice (some ⟨g, 0, none⟩) (k + 1) cp) (k + 1) D A L C := by
  have hb := hI.block hB hgrow
  obtain ⟨hlt, _⟩ := Array.getElem?_eq_some_iff.1 hI.blk
  have hz := hB.size
  have hz0 := hI.below.size
  have hgne : g ≠ w.heap.size := by
    rcases hat with h | h
    · rintro rfl; exact hI.ne h
    · rw [h]; simp; omega
  have hB2 : Below w.heap.size w w3 := by
    refine ((hI.below.trans (hB.mono (by omega))).alloc (by omega) o).grown hgrow (by simp; omega) (fun k hk => ?_)
    rcases hI.own.2 with ⟨h1, _⟩ | ⟨g', cap, cur, hv, hg, _⟩
    · rw [h1] at hk; simp [Value.ownBlock] at hk
    · rw [hv] at hk; simp [Value.ownBlock] at hk; omega
  refine ⟨hB2.setCell (Nat.le_refl _) _, ?_, ?_, by simpa [Value.ownBlock] using hgne⟩
  · simp [World.setCell, Array.getElem?_modify, hb]
  · rw [losses_succ]
    exact own_other hown (by simpa [Value.ownBlock] using hgne) _

set_option maxRecDepth 100000 in
set_option maxHeartbeats 2000000 in
theorem new_any (w : World) (ag ad a : Option Addr) (gn gc n dc c : Nat) (D : Nat → Int) (A : Nat → Option Addr) (L C : Nat → Nat) (Z : Nat → Nat → Int)
    (hd : IsInts w ad n D) (hr : IsRows w a n A L C Z) (hD : ∀ i, i < n → -9223372036854775808 ≤ D i ∧ D i ≤ 9223372036854775807) (hn : n ≤ 1048576) :
    Calls Try.prog 7 #[.slice ag gn gc, .slice ad n dc, .slice a n c] w fun e w' => e = .returned (.pointer (some ⟨w.heap.size, 0, none⟩)) ∧ ∃ v, NI w w' (.slice ag gn gc) v n D A L C := by
  have hs : NI w (w.alloc (.cells #[.int .u64 0, .int .i64 0, .pointer none, .slice ag gn gc, .slice none 0 0] 39)) (.slice ag gn gc) (.slice none 0 0) 0 D A L C :=
    ⟨(Below.refl _ _).alloc (Nat.le_refl _) _, blk_alloc_new _ _, World.ownsRow_nil _ _ _ _, by simp [Value.ownBlock]⟩
  have HD : Hid (∀ i, i < n → -9223372036854775808 ≤ D i ∧ D i ≤ 9223372036854775807) := hD
  clear hD
  go_enter Try.func7, Try.ntmps7
  go_wp2
  go_loopg [8] n (fun g i wr => ∃ (k : Nat) (v : Value), k ≤ n ∧ g = n - k ∧ i = .int .i64 k ∧ NI w wr (.slice ag gn gc) v k D A L C)
  case atStart => exact ⟨0, _, Nat.zero_le _, rfl, rfl, hs⟩
  case round =>
    clear hs
    obtain ⟨k, v, hk, rfl, rfl, hI⟩ := hrel
    by_cases hlt : k < n
    · obtain ⟨db, dof, rfl, hdc⟩ := hd k hlt
      obtain ⟨sb, so, rfl, hsc⟩ := hr.top k hlt
      have g1 := bcell hI.below hdc
      have g2 := bcell hI.below hsc
      have hblk := hI.blk
      have hlen : w.heap.size < wr.heap.size := by obtain ⟨h, _⟩ := Array.getElem?_eq_some_iff.1 hblk; exact h
      have g3 : wr.cell? ⟨w.heap.size, 4, none⟩ = some v := by simp [World.cell?, hblk]
      have hDk := HD.out k hlt
      obtain ⟨va, vc, rfl⟩ := own_slice hI.own
      have HI : Hid (NI w wr (.slice ag gn gc) (.slice va k vc) k D A L C) := hI
      obtain ⟨ti, hti, hz0, hz1, hz2⟩ := info_parts info43
      have ldb : db < w.heap.size := World.block_lt_of_cell? _ _ hdc
      have lsb : sb < w.heap.size := World.block_lt_of_cell? _ _ hsc
      clear hd hr hdc hsc hblk hI
      have hDk1 := hDk.1
      have hDk2 := hDk.2
      have hkn : (k : Int) < n := by omega
      go_wp2
      go_region_law (first
          | (refine step_append_lies _ rfl (.tmp 22) (.tmp 34) 37 rfl w.heap.size 43 ti (.agg #[.int .u64 0, .int .i64 0, .pointer none, .slice none 0 0]) 4 48 Try.underlying37 hti hz0 hz1 hz2 rfl (by decide) (.slice va k vc) k (losses D A L C k) rfl (own_below HI.out.own (hB.alloc hB.size _)) _ 1 1 (lossOf (D k) (A k) (L k) (C k)) rfl rfl (World.news_of_block (blk_alloc_new w2 _)) (loss_one _ _ _ _) (by omega) (by unfold maxLen; omega) (by omega) (alloc_le hlen hB) _ rfl ?_; intro g cp w3 hown hgrow hat hlt3; have hb3 := HI.out.block hB hgrow; have hst := HI.out.step hB hgrow hown hat; have t1 : w3.cell? ⟨w.heap.size, 4, none⟩ = some (.slice va k vc) := (by simp [World.cell?, hb3]); have t2 : w3.frozen? ⟨w.heap.size, 4, none⟩ = false := (by simp [World.frozen?, hb3]); have HST : Hid (NI w (w3.setCell ⟨w.heap.size, 4, none⟩ (.slice (some ⟨g, 0, none⟩) (k + 1) cp)) (.slice ag gn gc) (.slice (some ⟨g, 0, none⟩) (k + 1) cp) (k + 1) D A L C) := hst; clear hown hgrow hat hlt3 hb3 hst hB f1 f2 f3 f3')
          | (go_simp; go_at_call 13; refine (add_any (D k) _ hDk1 hDk2).mono ?_; rintro e w2 ⟨rfl, hB0⟩; have hB : Below wr.heap.size wr w2 := ⟨hB0.os, hB0.tape, hB0.output, hB0.size, hB0.block⟩; have f1 := bcell hB g1; have f2 := bcell hB g2; have f3 := bcell hB g3; have f3' : ∀ o, (w2.alloc o).cell? ⟨w.heap.size, 4, none⟩ = some (.slice va k vc) := fun o => bcell (hB.alloc hB.size o) g3; clear hB0))
      all_goals go_wp2
      all_goals go_roundg (n - (k + 1))
      all_goals first | omega | exact ⟨k + 1, _, by omega, rfl, by go_num, HST.out⟩
    · have e : k = n := by omega
      subst e
      clear hd hr
      go_wp2
      go_ret
      exact ⟨rfl, v, hI⟩

end Go.Proofs.Qxb6628363a
