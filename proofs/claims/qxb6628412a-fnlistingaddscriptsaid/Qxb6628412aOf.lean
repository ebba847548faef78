import Derived.Test.Qxb6628412aEq
import Derived.BigQuiet
namespace Go.Proofs.Qxb6628412a
open Go.RowKit Go.Deep
set_option linter.unusedVariables false

theorem hid_of {p : Prop} (h : p) : Hid p := h

theorem one_rl (r : Option Addr) (x : Int) : ∀ u ∈ (List.range 10).map (rlCell r x), u.oneCell' = true := by
  rw [rlist_eq10]
  simp [rlCell, Value.oneCell']

def OfPost (w w' : World) (lb k m : Nat) (fv rv : Value) (FF : Nat → Nat → Value) (Q : Nat → Option Addr) (C : Nat → Int) (r : Option Addr) (e : Ending) : Prop :=
  ∃ m' j g cap Q' C', e = .returned (.pointer (some ⟨g, j * 10, none⟩)) ∧ j < m' ∧ OfRel m Q C r m' Q' C' j ∧ LS w' lb k m' fv (.slice (some ⟨g, 0, none⟩) m' cap) FF Q' C' ∧
    Fr w w' (fun b => b = lb ∨ rv.ownBlock = some b) ∧ (rv.ownBlock = some g ∨ w.heap.size ≤ g)

theorem rl_news (w : World) (r : Option Addr) : ∀ j u, ((List.range 10).map (rlCell r 0))[j]? = some u →
    (w.alloc (.cells #[.pointer r, .int .i64 0, .int .i64 0, .pointer none, .string { data := #[] }, .string { data := #[] }, .int .i64 0, .string { data := #[] }, .string { data := #[] }, .string { data := #[] }] 52)).cell? ((⟨w.heap.size, 0, none⟩ : Addr).add j) = some u := by
  rw [rlist_eq10]
  exact World.news_of_block (blk_alloc_new w _)

theorem LS.lcell {w w2 w3 : World} {lb k m : Nat} {fv rv : Value} {FF : Nat → Nat → Value} {Q : Nat → Option Addr} {C : Nat → Int} (h : LS w lb k m fv rv FF Q C) (hb : Below w.heap.size w w2) (hg : w2.grownBy w3 rv.ownBlock) :
    w3.cell? ⟨lb, 1, none⟩ = some rv ∧ w3.frozen? ⟨lb, 1, none⟩ = false := by
  have hlb := h.l.lt
  have hs : w.heap.size ≤ w2.heap.size := hb.size
  have hrl : rv.ownBlock ≠ some lb := fun e => by have := (h.ro.lt e).2; omega
  have e : w3.heap[lb]? = w.heap[lb]? := (hg.block lb (by omega) (fun e => hrl e.symm)).trans (hb.block lb hlb)
  exact ⟨(World.cell?_of_block (w := w) e).trans h.c1, (World.frozen?_of_block (w := w) e).trans (h.l.frozen 1)⟩

theorem Fr.drewN {w w' : World} {P : Nat → Prop} (h : Fr w w' P) (m : Nat) : Fr w (w'.drewN m) P := ⟨h.os, h.tape, h.output, h.size, h.block⟩
theorem LS.drewN {w : World} {lb k m : Nat} {fv rv : Value} {FF : Nat → Nat → Value} {Q : Nat → Option Addr} {C : Nat → Int} (h : LS w lb k m fv rv FF Q C) (n : Nat) : LS (w.drewN n) lb k m fv rv FF Q C := ⟨h.l, h.fo, h.ro, h.sep⟩

theorem Fr.refl (w : World) (P : Nat → Prop) : Fr w w P := ⟨rfl, rfl, rfl, Nat.le_refl _, fun _ _ _ => rfl⟩

set_option maxHeartbeats 4000000 in
theorem of_any (w : World) (lb k m : Nat) (fv rv : Value) (FF : Nat → Nat → Value) (Q : Nat → Option Addr) (C : Nat → Int) (r : Option Addr) (h : LS w lb k m fv rv FF Q C) (hm : m ≤ 1048576) (hQ : ∀ i, i < m → Good w lb (Q i)) (hr : Good w lb r) :
    Calls Try.prog 11 #[.pointer (some ⟨lb, 0, none⟩), .pointer r] w fun e w' => OfPost w w' lb k m fv rv FF Q C r e := by
  obtain ⟨ra, rcap, rfl⟩ := h.ro.form
  have hc1 := h.c1
  have H : Hid (LS w lb k m fv (.slice ra m rcap) FF Q C) := h
  have HQ : Hid (∀ i, i < m → Good w lb (Q i)) := hQ
  have HR : Hid (Good w lb r) := hr
  clear h hQ hr
  go_enter Try.func11, Try.ntmps11
  go_wp2
  go_loopg [11] m (fun g i wr => w = wr ∧ ∃ k' : Nat, k' ≤ m ∧ g = m - k' ∧ i = .int .i64 k' ∧ ∀ i, i < k' → Q i ≠ r)
  case atStart => exact ⟨rfl, 0, Nat.zero_le _, rfl, rfl, fun i hi => absurd hi (Nat.not_lt_zero _)⟩
  case round =>
    obtain ⟨rfl, j, hj, rfl, rfl, hne⟩ := hrel
    have HN : Hid (∀ i, i < j → Q i ≠ r) := hne
    clear hne
    by_cases hlt : j < m
    · obtain ⟨g, cap, hv⟩ := H.out.ro.form' (by omega)
      simp at hv
      obtain ⟨rfl, rfl⟩ := hv
      have r0 := (H.out.rl rfl hlt).c0
      have heq := eql29 w (HQ.out j hlt) HR.out
      obtain ⟨q, hqq⟩ : ∃ q, q = Q j := ⟨_, rfl⟩
      rw [← hqq] at heq r0
      have Hq : Hid (q = Q j) := hqq
      clear hqq
      by_cases hq : q = r
      · subst hq
        rw [decide_eq_true rfl] at heq
        go_wp2
        go_ret
        exact ⟨m, j, g, rcap, Q, C, rfl, hlt, .inl ⟨rfl, rfl, rfl, hlt, Hq.out.symm⟩, H.out, Fr.refl _ _, .inl rfl⟩
      · rw [decide_eq_false hq] at heq
        go_wp2
        go_roundg (m - (j + 1))
        case measure => omega
        case rel =>
          refine ⟨rfl, j + 1, by omega, rfl, by go_num, fun i hi => ?_⟩
          by_cases e : i = j
          · subst e; rw [← Hq.out]; exact hq
          · exact HN.out i (by omega)
    · have e : j = m := by omega
      subst e
      clear hlt
      obtain ⟨ti, hti, hz0, hz1, hz2⟩ := info_parts info52
      have hown := H.out.ro.owns (by decide)
      have hlb := H.out.l.lt
      have HO : Hid (w.alloc (.cells #[.pointer r, .int .i64 0, .int .i64 0, .pointer none, .string { data := #[] }, .string { data := #[] }, .int .i64 0, .string { data := #[] }, .string { data := #[] }, .string { data := #[] }] 52) |>.ownsRow (lb + 1) 52 10 (.slice ra j rcap) j (flat (fun j => rlCell (Q j) (C j)) 10 j)) := (H.out.ro.later ((Below.refl _ _).alloc (Nat.le_refl _) _)).owns (by decide)
      clear hown
      go_wp2_with (at_builtin; go_loud (refine wpList_append_lies _ rfl (.tmp 35) (.tmp 38) 36 rfl (lb + 1) 52 ti (.agg #[.pointer none, .int .i64 0, .int .i64 0, .pointer none, .string { data := #[] }, .string { data := #[] }, .int .i64 0, .string { data := #[] }, .string { data := #[] }, .string { data := #[] }]) 10 120 Try.underlying36 hti hz0 hz1 hz2 rfl (by decide) (.slice ra j rcap) j (flat (fun j => rlCell (Q j) (C j)) 10 j) rfl HO.out ⟨w.heap.size, 0, none⟩ 1 1 ((List.range 10).map (rlCell r 0)) rfl rfl (rl_news w r) (one_rl r 0) (by omega) (by unfold maxLen; omega) (by omega) (by simp; omega) _ rfl ?_; intro g cp w1 hown hgrow hat hlt; have hst := H.out.ofStep ((Below.refl _ _).alloc (Nat.le_refl _) _) hown hgrow hat; have hlc := H.out.lcell ((Below.refl _ _).alloc (Nat.le_refl _) _) hgrow; have t1 := hlc.1; have t2 := hlc.2; have HST := hid_of hst; clear hown hgrow hat hlt hst hlc))
      go_quiet (fail)
      go_wp2
      go_ret
      exact ⟨j + 1, j, g, cp, upd Q j r, upd C j 0, rfl, by omega, .inr ⟨rfl, rfl, rfl, rfl, HN.out⟩, HST.out.1.drewN _, HST.out.2.1.drewN _, HST.out.2.2⟩

end Go.Proofs.Qxb6628412a
