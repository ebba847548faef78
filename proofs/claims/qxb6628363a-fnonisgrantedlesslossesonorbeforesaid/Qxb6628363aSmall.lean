import Derived.Test.Qxb6628363aClone
import Derived.Deep.AppendLies
namespace Go.Proofs.Qxb6628363a
open Go.RowKit Go.Deep
set_option linter.unusedVariables false

/-- Block b is a row of at least n cells of type t, none frozen, cell i holding 'f i'. -/
def rowHas (w : World) (b : Nat) (t : TypeId) (n : Nat) (f : Nat → Value) : Prop :=
  ∃ c : Array Value, w.heap[b]? = some (.cells c t (0, 0)) ∧ n ≤ c.size ∧ ∀ i, i < n → c[i]? = some (f i)

namespace rowHas
variable {w w' : World} {b : Nat} {t : TypeId} {n : Nat} {f g : Nat → Value}
theorem cell (h : rowHas w b t n f) {i : Nat} (hi : i < n) : w.cell? ⟨b, i, none⟩ = some (f i) := by
  obtain ⟨c, hb, _, hc⟩ := h
  simp [World.cell?, hb, hc i hi]
theorem frozen (h : rowHas w b t n f) (i : Nat) : w.frozen? ⟨b, i, none⟩ = false := by
  obtain ⟨c, hb, _, _⟩ := h
  simp [World.frozen?, hb]
theorem lt (h : rowHas w b t n f) : b < w.heap.size := by
  obtain ⟨c, hb, _, _⟩ := h
  obtain ⟨hlt, _⟩ := Array.getElem?_eq_some_iff.1 hb
  exact hlt
theorem congr (h : rowHas w b t n f) (e : ∀ i, i < n → f i = g i) : rowHas w b t n g := by
  obtain ⟨c, hb, hn, hc⟩ := h
  exact ⟨c, hb, hn, fun i hi => by rw [hc i hi, e i hi]⟩
theorem of_block (h : rowHas w b t n f) (e : w'.heap[b]? = w.heap[b]?) : rowHas w' b t n f := by
  obtain ⟨c, hb, hn, hc⟩ := h
  exact ⟨c, e.trans hb, hn, hc⟩
theorem set (h : rowHas w b t n f) (i : Nat) (v : Value) : rowHas (w.setCell ⟨b, i, none⟩ v) b t n (fun j => if j = i then v else f j) := by
  obtain ⟨c, hb, hn, hc⟩ := h
  refine ⟨c.setIfInBounds i v, by simp [World.setCell, Array.getElem?_modify, hb], by simpa using hn, fun j hj => ?_⟩
  rw [Array.getElem?_setIfInBounds]
  by_cases e : j = i
  · subst e
    simp
    omega
  · rw [if_neg (fun h => e h.symm)]
    show c[j]? = some (if j = i then v else f j)
    rw [if_neg e]
    exact hc j hj
theorem setOther (h : rowHas w b t n f) {a : Addr} (ha : b ≠ a.block) (v : Value) : rowHas (w.setCell a v) b t n f := h.of_block (blk_setCell_other _ _ _ _ ha)
theorem of_rowIs (h : w.rowIs b t n f) : rowHas w b t n f := by
  obtain ⟨c, hb, hn, hc⟩ := h
  exact ⟨c, hb, by omega, hc⟩
theorem below {B : Nat} (h : rowHas w b t n f) (hb : Below B w w') (hlt : b < B) : rowHas w' b t n f := h.of_block (hb.block b hlt)
theorem ints {Z : Nat → Int} (h : rowHas w b 2 n (fun j => .int .i64 (Z j))) : IsInts w (some ⟨b, 0, none⟩) n Z := fun j hj => ⟨b, 0, rfl, by rw [Nat.zero_add]; exact h.cell hj⟩
end rowHas

/-- What append hands back, written out: the row of what was appended to nothing. -/
theorem own_row {w' : World} {B l g cp : Nat} {f : Nat → Int} (h : w'.ownsRow B 2 1 (.slice (some ⟨g, 0, none⟩) (0 + l) cp) (0 + l) ([] ++ (List.range l).map (fun j => Value.int .i64 (f j)))) (hl : 0 < l) :
    B ≤ g ∧ rowHas w' g 2 l (fun j => .int .i64 (f j)) := by
  obtain ⟨_, h2⟩ := h
  rcases h2 with ⟨_, h0⟩ | ⟨g', cap, cur, hv, hg, hh, hn, _, hs, ht⟩
  · omega
  · simp only [Nat.zero_add, Nat.mul_one, List.nil_append] at *
    simp at hv
    obtain ⟨rfl, rfl⟩ := hv
    refine ⟨hg, cur, hh, by omega, fun j hj => ?_⟩
    have e : (cur.toList.take l)[j]? = ((List.range l).map (fun j => Value.int .i64 (f j)))[j]? := by rw [ht]
    rw [List.getElem?_take_of_lt hj, List.getElem?_map, List.getElem?_range hj] at e
    simpa using e

theorem ret_slice {a : Option Addr} {n m c : Nat} (h : n = m) : Ending.returned (.slice a n c) = .returned (.slice a m c) := by rw [h]

set_option maxHeartbeats 400000 in
theorem sclone_some (w : World) (a : Addr) (n cap : Nat) (Z : Nat → Int) (h : IsInts w (some a) n Z) (hn : 0 < n) (hn' : n ≤ 1048576) :
    Calls Try.prog 19 #[.slice (some a) n cap] w fun e w' => ∃ g c', e = .returned (.slice (some ⟨g, 0, none⟩) n c') ∧ w.heap.size ≤ g ∧ Below w.heap.size w w' ∧ rowHas w' g 2 n (fun j => .int .i64 (Z j)) := by
  have q := q22e
  obtain ⟨ti, hti, hz0, hz1, hz2⟩ := info_parts info2
  have hown : (w.alloc (.cells #[] 2)).ownsRow w.heap.size 2 1 (.slice (some ⟨w.heap.size, 0, none⟩) 0 0) 0 [] := World.ownsRow_made w #[] 0 (Nat.le_refl _) (by unfold maxLen; omega) rfl
  have hnews : ∀ j u, ((List.range n).map (fun j => Value.int .i64 (Z j)))[j]? = some u → (w.alloc (.cells #[] 2)).cell? (a.add j) = some u := by
    intro j u hu
    rw [List.getElem?_map] at hu
    by_cases hj : j < n
    · rw [List.getElem?_range hj] at hu
      simp at hu
      subst hu
      obtain ⟨b, o, he, hc⟩ := h j hj
      cases he
      rw [Go.WideShapes.add_plain]
      exact bcell ((Below.refl _ _).alloc (Nat.le_refl _) _) hc
    · rw [List.getElem?_eq_none (by simpa using hj)] at hu
      cases hu
  have h1c : ∀ u ∈ (List.range n).map (fun j => Value.int .i64 (Z j)), u.oneCell' = true := by
    intro u hu
    obtain ⟨j, _, rfl⟩ := List.mem_map.1 hu
    rfl
  have H : Hid ((w.alloc (.cells #[] 2)).ownsRow w.heap.size 2 1 (.slice (some ⟨w.heap.size, 0, none⟩) 0 0) 0 [] ∧ (∀ j u, ((List.range n).map (fun j => Value.int .i64 (Z j)))[j]? = some u → (w.alloc (.cells #[] 2)).cell? (a.add j) = some u) ∧ ∀ u ∈ (List.range n).map (fun j => Value.int .i64 (Z j)), u.oneCell' = true) := ⟨hown, hnews, h1c⟩
  clear hown hnews h1c h
  go_enter Try.func19, Try.ntmps19
  go_wp2_with (at_builtin; refine wpList_append_lies _ rfl (.tmp 5) (.tmp 6) 22 rfl w.heap.size 2 ti (.int .i64 0) 1 8 Try.underlying22 hti hz0 hz1 hz2 rfl (by decide) (.slice (some ⟨w.heap.size, 0, none⟩) 0 0) 0 [] rfl H.out.1 a n cap ((List.range n).map (fun j => Value.int .i64 (Z j))) rfl (by simp) H.out.2.1 H.out.2.2 hn (by unfold maxLen; omega) (by omega) (by simp) _ rfl ?_; intro g cp w1 hown hgrow hat hlt)
  have hr := own_row hown hn
  have hB : Below w.heap.size w w1 := by
    refine ((Below.refl _ _).alloc (Nat.le_refl _) _).grown hgrow (by simp) (fun k hk => ?_)
    simp [Value.ownBlock] at hk
    omega
  have HF : Hid ((w.heap.size ≤ g ∧ rowHas w1 g 2 n (fun j => .int .i64 (Z j))) ∧ Below w.heap.size w w1) := ⟨hr, hB⟩
  clear hown hgrow hat hlt hr hB H
  go_wp2
  go_ret
  exact ⟨g, cp, ret_slice (by omega), HF.out.1.1, HF.out.2, HF.out.1.2⟩

theorem sclone_nil (w : World) : Calls Try.prog 19 #[.slice none 0 0] w fun e w' => e = .returned (.slice none 0 0) ∧ w' = w := by
  have q := q22e
  go_enter Try.func19, Try.ntmps19
  go_wp2
  go_ret
  exact ⟨rfl, rfl⟩

end Go.Proofs.Qxb6628363a
