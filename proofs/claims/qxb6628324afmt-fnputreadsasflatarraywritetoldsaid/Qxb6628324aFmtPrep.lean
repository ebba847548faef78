import Derived.Test.Qxb6628324aFmtMem
import Derived.BigRegion
import Derived.Deep.RegionLawGrows
import Derived.Deep.DeepCutAuto
import Derived.Deep.CutBlock
namespace Go.Proofs.Qxb6628324aFmt
open Go.RowKit Go.Deep
set_option linter.unusedVariables false

/-- Behind the switch: chunk i is taken and is this array's own. -/
structure Prep (B : Nat) (w0 wr w1 : World) (bp cb pb po pn n : Nat) (sh : Option Nat) (size off : Int) (P : Nat → Int) (G0 : Nat → Option Nat) (Z0 : Nat → Nat → Int) (S0 : Nat → Bool) (k i : Nat) (G : Nat → Option Nat) (Z : Nat → Nat → Int) (S : Nat → Bool)
    (x : Nat) (G1 : Nat → Option Nat) (C1 : Nat → Nat) (Z1 : Nat → Nat → Int) (S1 : Nat → Bool) : Prop where
  mem : Mem B w1 bp cb pb po pn n sh size P G1 C1 Z1 S1
  bel : Below B wr w1
  hG : ∀ j, j ≠ i → G1 j = G j
  hZ : ∀ j, j ≠ i → Z1 j = Z j
  hS : ∀ j, j ≠ i → S1 j = S j
  gi : G1 i = some x
  si : S1 i = false
  zi : ∀ l, l < Ln size i → Z1 i l = want (G0 i).isSome (Z0 i) off k P i l
  own : x < w0.heap.size → G0 i = some x ∧ S0 i = false
  fr : ∀ b, b < w0.heap.size → b ≠ cb → sh ≠ some b → b ≠ x → w1.heap[b]? = wr.heap[b]?

section
variable {B : Nat} {w0 wr w1 : World} {bp cb pb po pn n : Nat} {sh : Option Nat} {size off : Int} {P : Nat → Int} {G0 : Nat → Option Nat} {Z0 : Nat → Nat → Int} {S0 : Nat → Bool} {k i : Nat} {G : Nat → Option Nat} {C : Nat → Nat} {Z : Nat → Nat → Int} {S : Nat → Bool}

/-- nothing is to be done -/
theorem Prep.plain (hM : Mem B wr bp cb pb po pn n sh size P G C Z S) (hR : Rel B w0 wr cb n sh size off P G0 Z0 S0 k G Z S) (hi : i < n) {x : Nat} (hx : G i = some x) (hs : S i = false) :
    Prep B w0 wr wr bp cb pb po pn n sh size off P G0 Z0 S0 k i G Z S x G C Z S :=
  ⟨hM, Below.refl _ _, fun _ _ => rfl, fun _ _ => rfl, fun _ _ => rfl, hx, hs, fun l hl => hR.z i l hi hl (by simp [hx]),
    fun hlt => ⟨(hR.own i x hi hx hlt).1, by
      have h2 := (hR.own i x hi hx hlt).2
      cases e : S0 i with
      | false => rfl
      | true => have := h2 e; rw [hs] at this; cases this⟩, fun _ _ _ _ _ => rfl⟩

/-- a new block -/
theorem Prep.fresh (hM : Mem B wr bp cb pb po pn n sh size P G C Z S) (hR : Rel B w0 wr cb n sh size off P G0 Z0 S0 k G Z S) (hpn : 0 < pn) (hi : i < n) {g c : Nat} {f : Nat → Int} (hb : Below wr.heap.size wr w1) (hg : wr.heap.size ≤ g) (hc : Ln size i ≤ c)
    (hr : rowHas w1 g 5 (Ln size i) (fun j => .int .u8 (f j))) (hf : ∀ l, l < Ln size i → f l = want (G0 i).isSome (Z0 i) off k P i l) (hs : S i = false) :
    Prep B w0 wr (w1.setCell ⟨cb, i, none⟩ (.slice (some ⟨g, 0, none⟩) (Ln size i) c)) bp cb pb po pn n sh size off P G0 Z0 S0 k i G Z S g (upd G i (some g)) (upd C i c) (upd Z i f) S := by
  have hBc : B ≤ cb := hM.sep.2.2.2.2.2.1
  have hlc := hM.top.lt
  have hz := hR.bel.size
  refine ⟨hM.fresh hpn hi hb hg hc hr, (hb.mono (by omega)).setCell hBc _, fun j hj => upd_other _ _ _ _ hj, fun j hj => upd_other _ _ _ _ hj, fun _ _ => rfl, upd_same _ _ _, hs, fun l hl => by rw [upd_same]; exact hf l hl, fun h => by omega, fun b h1 h2 h3 h4 => ?_⟩
  rw [blk_setCell_other _ _ _ _ (by exact h2)]
  exact hb.block b (by omega)

theorem Prep.unmarked (hM : Mem B wr bp cb pb po pn n sh size P G C Z S) (hR : Rel B w0 wr cb n sh size off P G0 Z0 S0 k G Z S) (hpn : 0 < pn) (hi : i < n) {g c sb : Nat} (hsb : sh = some sb) (hb : Below wr.heap.size wr w1) (hg : wr.heap.size ≤ g) (hc : Ln size i ≤ c)
    (hr : rowHas w1 g 5 (Ln size i) (fun j => .int .u8 (Z i j))) (hgi : G i ≠ none) :
    Prep B w0 wr ((w1.setCell ⟨cb, i, none⟩ (.slice (some ⟨g, 0, none⟩) (Ln size i) c)).setCell ⟨sb, i, none⟩ (.bool false)) bp cb pb po pn n sh size off P G0 Z0 S0 k i G Z S g (upd G i (some g)) (upd C i c) (upd Z i (Z i)) (upd S i false) := by
  have hBc : B ≤ cb := hM.sep.2.2.2.2.2.1
  have hBs : B ≤ sb := hM.sep.2.2.2.2.2.2 sb hsb
  have hlc := hM.top.lt
  have hz := hR.bel.size
  refine ⟨(hM.fresh hpn hi hb hg hc hr).unmark hsb, ((hb.mono (by omega)).setCell hBc _).setCell hBs _, fun j hj => upd_other _ _ _ _ hj, fun j hj => upd_other _ _ _ _ hj, fun j hj => upd_other _ _ _ _ hj, upd_same _ _ _, upd_same _ _ _, fun l hl => by rw [upd_same]; exact hR.z i l hi hl hgi, fun h => by omega, fun b h1 h2 h3 h4 => ?_⟩
  rw [blk_setCell_other _ _ _ _ (by show b ≠ sb; rintro rfl; exact h3 hsb), blk_setCell_other _ _ _ _ (by exact h2)]
  exact hb.block b (by omega)

theorem Prep.alike {x : Nat} {G1 : Nat → Option Nat} {C1 : Nat → Nat} {Z1 : Nat → Nat → Int} {S1 : Nat → Bool} (h : Prep B w0 wr w1 bp cb pb po pn n sh size off P G0 Z0 S0 k i G Z S x G1 C1 Z1 S1) :
    Prep B w0 wr w1.drew bp cb pb po pn n sh size off P G0 Z0 S0 k i G Z S x G1 C1 Z1 S1 :=
  ⟨h.mem.alike rfl, h.bel.drew, h.hG, h.hZ, h.hS, h.gi, h.si, h.zi, h.own, h.fr⟩

/-- the copy -/
theorem Prep.done {x m at' : Nat} {G1 : Nat → Option Nat} {C1 : Nat → Nat} {Z1 : Nat → Nat → Int} {S1 : Nat → Bool} {w2 : World}
    (h : Prep B w0 wr w1 bp cb pb po pn n sh size off P G0 Z0 S0 k i G Z S x G1 C1 Z1 S1) (hR : Rel B w0 wr cb n sh size off P G0 Z0 S0 k G Z S)
    (h0 : 0 ≤ size) (hlo : (n : Int) * 65536 < size + 65536) (hi : i < n) (hoff : 0 ≤ off) (hat : off + k = (i : Int) * 65536 + at') (hm : 0 < m) (hml : at' + m ≤ Ln size i)
    (ho : ∀ b, b ≠ x → w2.heap[b]? = w1.heap[b]?) (hb2 : Below B w1 w2)
    (hr : rowHas w2 x 5 (Ln size i) (fun l => .int .u8 (if at' ≤ l ∧ l < at' + m then P (k + (l - at')) else Z1 i l))) :
    ∃ G2 C2 Z2 S2, Mem B w2 bp cb pb po pn n sh size P G2 C2 Z2 S2 ∧ Rel B w0 w2 cb n sh size off P G0 Z0 S0 (k + m) G2 Z2 S2 := by
  refine ⟨G1, C1, upd Z1 i (fun l => if at' ≤ l ∧ l < at' + m then P (k + (l - at')) else Z1 i l), S1, h.mem.content hi h.gi ho hr, ?_⟩
  refine hR.next h0 hlo hi hoff hat hm hml (h.bel.trans hb2) h.hG (fun j hj => by rw [upd_other _ _ _ _ hj]; exact h.hZ j hj) h.hS h.gi h.si (fun l hl => ?_) h.own (fun b h1 h2 h3 h4 => ?_)
  · rw [upd_same, h.zi l hl]
  · rw [ho b h4, h.fr b h1 h2 h3 h4]
end

/-- The row of a chunk behind a copy into it. -/
theorem row_copied {w : World} {x n at' m : Nat} {cur : Array Value} {f : Nat → Int} {g : Nat → Int} (hg : w.heap[x]? = some (.cells cur 5 (0, 0))) (hn : n ≤ cur.size) (hc : ∀ i, i < n → cur[i]? = some (.int .u8 (f i)))
    (cs : List Value) (hcs : cs = (List.range m).map (fun j => .int .u8 (g j))) (hfit : at' + m ≤ n) :
    rowHas (w.setRow x (cur.toList.take at' ++ (cs ++ cur.toList.drop (at' + cs.length))).toArray) x 5 n (fun l => .int .u8 (if at' ≤ l ∧ l < at' + m then g (l - at') else f l)) := by
  refine ⟨_, setRow_heap w x _ _ 5 _ hg, ?_, fun l hl => ?_⟩
  · subst hcs; simp; omega
  · subst hcs
    simp only [List.getElem?_toArray, List.length_map, List.length_range]
    have hcl := hc l hl
    by_cases h1 : l < at'
    · rw [List.getElem?_append_left (by simp; omega), if_neg (by omega), List.getElem?_take_of_lt h1]
      simpa using hcl
    · rw [List.getElem?_append_right (by simp; omega)]
      have e : (List.take at' cur.toList).length = at' := by simp; omega
      rw [e]
      by_cases h2 : l < at' + m
      · rw [List.getElem?_append_left (by simp; omega), if_pos (by omega), List.getElem?_map, List.getElem?_range (by omega)]
        rfl
      · rw [List.getElem?_append_right (by simp; omega), if_neg (by omega)]
        simp only [List.length_map, List.length_range, List.getElem?_drop]
        rw [show at' + m + (l - at' - m) = l by omega]
        simpa using hcl

/-- What append hands back, written out. -/
theorem own_form {w' : World} {B l : Nat} {v' : Value} {f : Nat → Int} (h : w'.ownsRow B 5 1 v' (0 + l) ([] ++ (List.range l).map (fun j => Value.int .u8 (f j)))) (hl : 0 < l) :
    ∃ g cp, v' = .slice (some ⟨g, 0, none⟩) l cp ∧ B ≤ g ∧ l ≤ cp ∧ rowHas w' g 5 l (fun j => .int .u8 (f j)) := by
  obtain ⟨_, h2⟩ := h
  rcases h2 with ⟨_, h0⟩ | ⟨g, cap, cur, hv, hg, hh, hn, _, hs, ht⟩
  · omega
  · simp only [Nat.zero_add, Nat.mul_one, List.nil_append] at *
    refine ⟨g, cap, hv, hg, hn, cur, hh, by omega, fun j hj => ?_⟩
    have e : (cur.toList.take l)[j]? = ((List.range l).map (fun j => Value.int .u8 (f j)))[j]? := by rw [ht]
    rw [List.getElem?_take_of_lt hj, List.getElem?_map, List.getElem?_range hj] at e
    simpa using e

theorem below_of_grown {w w' : World} (h : w.grownBy w' none) : Below w.heap.size w w' := ⟨h.os, h.tape, h.output, h.size, fun k hk => h.block k hk (by simp)⟩

end Go.Proofs.Qxb6628324aFmt
