import Derived.Test.Qxb6628412aSmall
import Derived.Deep.AppendLies
namespace Go.Proofs.Qxb6628412a
open Go.RowKit Go.Deep
set_option linter.unusedVariables false

/-! ### a row of elements of 'sz' cells that the call owns -/
def Own (w : World) (base : Nat) (t : TypeId) (sz : Nat) (v : Value) (n : Nat) (F : Nat → Nat → Value) : Prop :=
  (v = .slice none 0 0 ∧ n = 0) ∨ ∃ g cap cur, v = .slice (some ⟨g, 0, none⟩) n cap ∧ base ≤ g ∧ w.heap[g]? = some (.cells cur t (0, 0)) ∧ n ≤ cap ∧ cap ≤ maxLen ∧ cur.size = cap * sz ∧
    ∀ j c, j < n → c < sz → cur[j * sz + c]? = some (F j c)

def flat (F : Nat → Nat → Value) (sz n : Nat) : List Value := (List.range (n * sz)).map fun i => F (i / sz) (i % sz)

theorem flat_succ (F : Nat → Nat → Value) (sz n : Nat) (hs : 0 < sz) : flat F sz (n + 1) = flat F sz n ++ (List.range sz).map (F n) := by
  unfold flat
  rw [Nat.succ_mul, List.range_add, List.map_append, List.map_map]
  congr 1
  refine List.map_congr_left fun c hc => ?_
  have hc' : c < sz := List.mem_range.1 hc
  show F ((n * sz + c) / sz) ((n * sz + c) % sz) = F n c
  rw [Nat.mul_comm n sz, Nat.mul_add_div hs, Nat.mul_add_mod, Nat.div_eq_of_lt hc', Nat.mod_eq_of_lt hc', Nat.add_zero]

theorem flat_congr {F G : Nat → Nat → Value} {sz n : Nat} (hs : 0 < sz) (h : ∀ j c, j < n → c < sz → F j c = G j c) : flat F sz n = flat G sz n := by
  unfold flat
  refine List.map_congr_left fun i hi => ?_
  have hi' : i < n * sz := List.mem_range.1 hi
  exact h _ _ ((Nat.div_lt_iff_lt_mul hs).2 hi') (Nat.mod_lt _ hs)

namespace Own
variable {w w' : World} {B : Nat} {t : TypeId} {sz : Nat} {v : Value} {n : Nat} {F G : Nat → Nat → Value}

theorem owns (h : Own w B t sz v n F) (hs : 0 < sz) : w.ownsRow B t sz v n (flat F sz n) := by
  refine ⟨by simp [flat], ?_⟩
  rcases h with h | ⟨g, cap, cur, hv, hg, hh, hn, hc, hsz, hF⟩
  · exact .inl h
  · refine .inr ⟨g, cap, cur, hv, hg, hh, hn, hc, hsz, ?_⟩
    apply List.ext_getElem?
    intro i
    have hle : n * sz ≤ cap * sz := Nat.mul_le_mul_right _ hn
    by_cases hi : i < n * sz
    · rw [List.getElem?_take_of_lt hi]
      have := hF (i / sz) (i % sz) ((Nat.div_lt_iff_lt_mul hs).2 hi) (Nat.mod_lt _ hs)
      rw [Nat.div_add_mod' i sz] at this
      simp [flat, hi, this]
    · rw [List.getElem?_eq_none (by simp; omega), List.getElem?_eq_none (by simp [flat]; omega)]

theorem of_owns (h : w.ownsRow B t sz v n (flat F sz n)) (hs : 0 < sz) : Own w B t sz v n F := by
  rcases h.2 with h | ⟨g, cap, cur, hv, hg, hh, hn, hc, hsz, hF⟩
  · exact .inl h
  · refine .inr ⟨g, cap, cur, hv, hg, hh, hn, hc, hsz, fun j c hj hcs => ?_⟩
    have hi : j * sz + c < n * sz := by
      have : (j + 1) * sz ≤ n * sz := Nat.mul_le_mul_right _ hj
      rw [Nat.succ_mul] at this
      omega
    have e : (cur.toList.take (n * sz))[j * sz + c]? = (flat F sz n)[j * sz + c]? := by rw [hF]
    rw [List.getElem?_take_of_lt hi] at e
    simp only [flat, List.getElem?_map, List.getElem?_range hi, Option.map_some] at e
    rw [Array.getElem?_toList] at e
    rw [e, Nat.mul_comm j sz, Nat.mul_add_div hs, Nat.mul_add_mod, Nat.div_eq_of_lt hcs, Nat.mod_eq_of_lt hcs, Nat.add_zero]

theorem congr (h : Own w B t sz v n F) (e : ∀ j c, j < n → c < sz → F j c = G j c) : Own w B t sz v n G := by
  rcases h with h | ⟨g, cap, cur, hv, hg, hh, hn, hc, hsz, hF⟩
  · exact .inl h
  · exact .inr ⟨g, cap, cur, hv, hg, hh, hn, hc, hsz, fun j c hj hcs => by rw [hF j c hj hcs, e j c hj hcs]⟩

theorem of_block (h : Own w B t sz v n F) (e : ∀ g, v.ownBlock = some g → w'.heap[g]? = w.heap[g]?) : Own w' B t sz v n F := by
  rcases h with h | ⟨g, cap, cur, rfl, hg, hh, hn, hc, hsz, hF⟩
  · exact .inl h
  · exact .inr ⟨g, cap, cur, rfl, hg, (e g rfl).trans hh, hn, hc, hsz, hF⟩

theorem lt (h : Own w B t sz v n F) {g : Nat} (hg : v.ownBlock = some g) : g < w.heap.size ∧ B ≤ g := by
  rcases h with ⟨rfl, _⟩ | ⟨g', cap, cur, rfl, hb, hh, _⟩
  · simp [Value.ownBlock] at hg
  · simp [Value.ownBlock] at hg
    subst hg
    obtain ⟨hlt, _⟩ := Array.getElem?_eq_some_iff.1 hh
    exact ⟨hlt, hb⟩

theorem form (h : Own w B t sz v n F) : ∃ a cap, v = .slice a n cap := by
  rcases h with ⟨rfl, rfl⟩ | ⟨g, cap, cur, rfl, _⟩
  · exact ⟨_, _, rfl⟩
  · exact ⟨_, _, rfl⟩

theorem form' (h : Own w B t sz v n F) (hn : 0 < n) : ∃ g cap, v = .slice (some ⟨g, 0, none⟩) n cap := by
  rcases h with ⟨rfl, rfl⟩ | ⟨g, cap, cur, rfl, _⟩
  · omega
  · exact ⟨_, _, rfl⟩

theorem cell {g cap : Nat} (h : Own w B t sz (.slice (some ⟨g, 0, none⟩) n cap) n F) {j c : Nat} (hj : j < n) (hc : c < sz) : w.cell? ⟨g, j * sz + c, none⟩ = some (F j c) := by
  rcases h with ⟨h, _⟩ | ⟨g', cap', cur, hv, _, hh, _, _, _, hF⟩
  · cases h
  · simp at hv
    obtain ⟨rfl, rfl⟩ := hv
    simp [World.cell?, hh, hF j c hj hc]

theorem frozen {g cap : Nat} (h : Own w B t sz (.slice (some ⟨g, 0, none⟩) n cap) n F) (o : Nat) : w.frozen? ⟨g, o, none⟩ = false := by
  rcases h with ⟨h, _⟩ | ⟨g', cap', cur, hv, _, hh, _, _, _, hF⟩
  · cases h
  · simp at hv
    obtain ⟨rfl, rfl⟩ := hv
    simp [World.frozen?, hh]

theorem later (h : Own w B t sz v n F) (hb : Below w.heap.size w w') : Own w' B t sz v n F := h.of_block fun g hg => hb.block g (h.lt hg).1

theorem set {g cap : Nat} (h : Own w B t sz (.slice (some ⟨g, 0, none⟩) n cap) n F) (hs : 0 < sz) (j c : Nat) (hc : c < sz) (u : Value) :
    Own (w.setCell ⟨g, j * sz + c, none⟩ u) B t sz (.slice (some ⟨g, 0, none⟩) n cap) n (fun j' c' => if j' = j ∧ c' = c then u else F j' c') := by
  rcases h with ⟨h, _⟩ | ⟨g', cap', cur, hv, hg, hh, hn, hcm, hsz, hF⟩
  · cases h
  · simp at hv
    obtain ⟨rfl, rfl⟩ := hv
    refine .inr ⟨g, cap, cur.setIfInBounds (j * sz + c) u, rfl, hg, by simp [World.setCell, Array.getElem?_modify, hh], hn, hcm, by simpa using hsz, fun j' c' hj' hc' => ?_⟩
    rw [Array.getElem?_setIfInBounds]
    have key : j' * sz + c' < cur.size := by
      have : (j' + 1) * sz ≤ cap * sz := Nat.mul_le_mul_right _ (by omega)
      rw [Nat.succ_mul] at this
      omega
    by_cases e : j' = j ∧ c' = c
    · obtain ⟨rfl, rfl⟩ := e
      simp
      omega
    · rw [if_neg (fun he => e ?_)]
      · show cur[j' * sz + c']? = some (if j' = j ∧ c' = c then u else F j' c')
        rw [if_neg e]
        exact hF j' c' hj' hc'
      · have h1 : (j * sz + c) / sz = (j' * sz + c') / sz := by rw [he]
        have h2 : (j * sz + c) % sz = (j' * sz + c') % sz := by rw [he]
        rw [Nat.mul_comm j sz, Nat.mul_comm j' sz, Nat.mul_add_div hs, Nat.mul_add_div hs, Nat.div_eq_of_lt hc, Nat.div_eq_of_lt hc'] at h1
        rw [Nat.mul_comm j sz, Nat.mul_comm j' sz, Nat.mul_add_mod, Nat.mul_add_mod, Nat.mod_eq_of_lt hc, Nat.mod_eq_of_lt hc'] at h2
        omega
end Own

theorem rlist_eq (F : Nat → Value) : (List.range 7).map F = [F 0, F 1, F 2, F 3, F 4, F 5, F 6] := by simp [List.range_succ]
theorem rlist_eq10 (F : Nat → Value) : (List.range 10).map F = [F 0, F 1, F 2, F 3, F 4, F 5, F 6, F 7, F 8, F 9] := by simp [List.range_succ]

end Go.Proofs.Qxb6628412a
