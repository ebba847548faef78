import Derived.Test.Qxb6628324aFmtClone
import Derived.Test.Qxb6628324aFmtReads
import Derived.Laws.CopyOwn
namespace Go.Proofs.Qxb6628324aFmt
open Go.RowKit Go.Deep
set_option linter.unusedVariables false

/-- Block b is a row of at least n cells of type t, none frozen, cell i holding 'f i'. -/
def rowHas (w : World) (b : Nat) (t : TypeId) (n : Nat) (f : Nat → Value) : Prop :=
  ∃ c : Array Value, w.heap[b]? = some (.cells c t (0, 0)) ∧ n ≤ c.size ∧ ∀ i, i < n → c[i]? = some (f i)

namespace rowHas
variable {w w' : World} {b : Nat} {t : TypeId} {n : Nat} {f g : Nat → Value}
theorem cell (h : rowHas w b t n f) {i : Nat} (hi : i < n) : w.cell? ⟨b, i, none⟩ = some (f i) := by
  obtain ⟨c, hb, _, hc⟩ := h
  simp [World.cell?, hb, hc i hi]
theorem lt (h : rowHas w b t n f) : b < w.heap.size := by
  obtain ⟨c, hb, _, _⟩ := h
  obtain ⟨hlt, _⟩ := Array.getElem?_eq_some_iff.1 hb
  exact hlt
theorem congr (h : rowHas w b t n f) (e : ∀ i, i < n → f i = g i) : rowHas w b t n g := by
  obtain ⟨c, hb, hn, hc⟩ := h
  exact ⟨c, hb, hn, fun i hi => by rw [hc i hi, e i hi]⟩
theorem of_block (h : rowHas w b t n f) (e : w'.heap[b]? = w.heap[b]?) : rowHas w' b t n f := by
  obtain ⟨c, hb, hn, hc⟩ := h
  exact ⟨c, e.trans hb, hn, hc⟩
theorem setOther (h : rowHas w b t n f) {a : Addr} (ha : b ≠ a.block) (v : Value) : rowHas (w.setCell a v) b t n f := h.of_block (blk_setCell_other _ _ _ _ ha)
theorem of_rowIs (h : w.rowIs b t n f) : rowHas w b t n f := by
  obtain ⟨c, hb, hn, hc⟩ := h
  exact ⟨c, hb, by omega, hc⟩
end rowHas

def upd {α : Type} (f : Nat → α) (i : Nat) (v : α) : Nat → α := fun j => if j = i then v else f j
theorem upd_same {α : Type} (f : Nat → α) (i : Nat) (v : α) : upd f i v i = v := by simp [upd]
theorem upd_other {α : Type} (f : Nat → α) (i : Nat) (v : α) (j : Nat) (h : j ≠ i) : upd f i v j = f j := by simp [upd, h]

def Ln (size : Int) (i : Nat) : Nat := (chLen size i).toNat
def shv (sh : Option Nat) (n : Nat) : Value := match sh with | .none => .slice .none 0 0 | .some sb => .slice (.some ⟨sb, 0, .none⟩) n n

structure Mem (B : Nat) (w : World) (bp cb pb po pn n : Nat) (sh : Option Nat) (size : Int) (P : Nat → Int) (G : Nat → Option Nat) (C : Nat → Nat) (Z : Nat → Nat → Int) (S : Nat → Bool) : Prop where
  c0 : w.cell? ⟨bp, 0, none⟩ = some (.int .i64 size)
  c1 : w.cell? ⟨bp, 1, none⟩ = some (.slice (some ⟨cb, 0, none⟩) n n)
  c2 : w.cell? ⟨bp, 2, none⟩ = some (shv sh n)
  p : ∀ j, j < pn → w.cell? ⟨pb, po + j, none⟩ = some (.int .u8 (P j))
  top : w.rowIs cb 24 n (fun i => sv (G i) (Ln size i) (C i))
  shr : ∀ sb, sh = some sb → w.rowIs sb 4 n (fun i => .bool (S i))
  row : ∀ i x, i < n → G i = some x → Ln size i ≤ C i ∧ rowHas w x 5 (Ln size i) (fun j => .int .u8 (Z i j))
  ne : ∀ i x, i < n → G i = some x → x ≠ bp ∧ x ≠ cb ∧ x ≠ pb ∧ sh ≠ some x ∧ B ≤ x
  inj : ∀ i j x, i < n → j < n → G i = some x → G j = some x → i = j
  sep : bp ≠ cb ∧ pb ≠ cb ∧ sh ≠ some bp ∧ sh ≠ some cb ∧ sh ≠ some pb ∧ B ≤ cb ∧ ∀ sb, sh = some sb → B ≤ sb

theorem cell_other {w : World} {a p : Addr} {v u : Value} (h : w.cell? p = some u) (hne : p.block ≠ a.block) : (w.setCell a v).cell? p = some u :=
  (World.cell?_of_block (w := w) (blk_setCell_other _ _ _ _ hne)).trans h

section
variable {B : Nat} {w w1 : World} {bp cb pb po pn n : Nat} {sh : Option Nat} {size : Int} {P : Nat → Int} {G : Nat → Option Nat} {C : Nat → Nat} {Z : Nat → Nat → Int} {S : Nat → Bool}

theorem Mem.alike (h : Mem B w bp cb pb po pn n sh size P G C Z S) (e : w1.heap = w.heap) : Mem B w1 bp cb pb po pn n sh size P G C Z S := by
  have hc : ∀ a, w1.cell? a = w.cell? a := fun a => by simp [World.cell?, e]
  exact ⟨(hc _).trans h.c0, (hc _).trans h.c1, (hc _).trans h.c2, fun j hj => (hc _).trans (h.p j hj), h.top.of_block (by rw [e]), fun sb hs => (h.shr sb hs).of_block (by rw [e]),
    fun i x hi hx => ⟨(h.row i x hi hx).1, (h.row i x hi hx).2.of_block (by rw [e])⟩, h.ne, h.inj, h.sep⟩

/-- A new block is made and stored as chunk i. -/
theorem Mem.fresh (h : Mem B w bp cb pb po pn n sh size P G C Z S) (hpn : 0 < pn) {i g c : Nat} {f : Nat → Int} (hi : i < n) (hb : Below w.heap.size w w1) (hg : w.heap.size ≤ g) (hc : Ln size i ≤ c)
    (hr : rowHas w1 g 5 (Ln size i) (fun j => .int .u8 (f j))) :
    Mem B (w1.setCell ⟨cb, i, none⟩ (.slice (some ⟨g, 0, none⟩) (Ln size i) c)) bp cb pb po pn n sh size P (upd G i (some g)) (upd C i c) (upd Z i f) S := by
  obtain ⟨s1, s2, s3, s4, s5, s6, s7⟩ := h.sep
  have lb : bp < w.heap.size := World.block_lt_of_cell? _ _ h.c0
  have lc : cb < w.heap.size := h.top.lt
  have lp : pb < w.heap.size := by have := World.block_lt_of_cell? _ _ (h.p 0 hpn); exact this
  refine ⟨cell_other (bcell hb h.c0) s1, cell_other (bcell hb h.c1) s1, cell_other (bcell hb h.c2) s1, fun j hj => cell_other (bcell hb (h.p j hj)) s2,
    ((rowIs_below h.top hb lc).set i _).congr (fun j _ => ?_), fun sb hs => (rowIs_below (h.shr sb hs) hb (h.shr sb hs).lt).setOther (by show sb ≠ cb; rintro rfl; exact s4 hs) _,
    fun j x hj hx => ?_, fun j x hj hx => ?_, fun j j' x hj hj' hx hx' => ?_, h.sep⟩
  · by_cases e : j = i
    · subst e; simp [upd, sv]
    · simp [upd, e]
  · by_cases e : j = i
    · subst e
      rw [upd_same] at hx
      cases hx
      rw [upd_same]
      exact ⟨hc, (hr.setOther (by show g ≠ cb; omega) _).congr (fun j' _ => by simp [upd])⟩
    · rw [upd_other _ _ _ _ e] at hx
      obtain ⟨h1, h2⟩ := h.row j x hj hx
      rw [upd_other _ _ _ _ e]
      exact ⟨h1, ((h2.of_block (hb.block x h2.lt)).setOther (by show x ≠ cb; exact (h.ne j x hj hx).2.1) _).congr (fun j' _ => by simp [upd, e])⟩
  · by_cases e : j = i
    · subst e
      rw [upd_same] at hx
      cases hx
      refine ⟨by omega, by omega, by omega, ?_, by omega⟩
      intro hs
      have := (h.shr _ hs).lt
      omega
    · rw [upd_other _ _ _ _ e] at hx
      exact h.ne j x hj hx
  · by_cases e : j = i
    · by_cases e' : j' = i
      · omega
      · subst e
        rw [upd_same] at hx; cases hx
        rw [upd_other _ _ _ _ e'] at hx'
        have := (h.row j' _ hj' hx').2.lt; omega
    · rw [upd_other _ _ _ _ e] at hx
      by_cases e' : j' = i
      · subst e'
        rw [upd_same] at hx'; cases hx'
        have := (h.row j _ hj hx).2.lt; omega
      · rw [upd_other _ _ _ _ e'] at hx'
        exact h.inj j j' x hj hj' hx hx'

/-- The mark of chunk i is struck. -/
theorem Mem.unmark (h : Mem B w bp cb pb po pn n sh size P G C Z S) {i sb : Nat} (hs : sh = some sb) :
    Mem B (w.setCell ⟨sb, i, none⟩ (.bool false)) bp cb pb po pn n sh size P G C Z (upd S i false) := by
  obtain ⟨s1, s2, s3, s4, s5, s6, s7⟩ := h.sep
  have e1 : bp ≠ sb := fun e => s3 (by rw [hs, e])
  have e2 : cb ≠ sb := fun e => s4 (by rw [hs, e])
  have e3 : pb ≠ sb := fun e => s5 (by rw [hs, e])
  refine ⟨cell_other h.c0 e1, cell_other h.c1 e1, cell_other h.c2 e1, fun j hj => cell_other (h.p j hj) e3, h.top.setOther e2 _, fun sb' hs' => ?_, fun j x hj hx => ?_, h.ne, h.inj, h.sep⟩
  · have : sb' = sb := by rw [hs] at hs'; cases hs'; rfl
    subst this
    exact ((h.shr _ hs).set i _).congr (fun j _ => by by_cases e : j = i <;> simp [upd, e])
  · obtain ⟨h1, h2⟩ := h.row j x hj hx
    exact ⟨h1, h2.setOther (by show x ≠ sb; rintro rfl; exact (h.ne j x hj hx).2.2.2.1 hs) _⟩

/-- Chunk i's block is written. -/
theorem Mem.content (h : Mem B w bp cb pb po pn n sh size P G C Z S) {i x : Nat} {f : Nat → Int} (hi : i < n) (hx : G i = some x) (ho : ∀ b, b ≠ x → w1.heap[b]? = w.heap[b]?)
    (hr : rowHas w1 x 5 (Ln size i) (fun j => .int .u8 (f j))) : Mem B w1 bp cb pb po pn n sh size P G C (upd Z i f) S := by
  obtain ⟨n1, n2, n3, n4, n5⟩ := h.ne i x hi hx
  have hc : ∀ a : Addr, a.block ≠ x → w1.cell? a = w.cell? a := fun a ha => World.cell?_of_block (ho _ ha)
  refine ⟨(hc _ (Ne.symm n1)).trans h.c0, (hc _ (Ne.symm n1)).trans h.c1, (hc _ (Ne.symm n1)).trans h.c2, fun j hj => (hc _ (Ne.symm n3)).trans (h.p j hj), h.top.of_block (ho _ (Ne.symm n2)),
    fun sb hs => (h.shr sb hs).of_block (ho _ (by rintro rfl; exact n4 hs)), fun j y hj hy => ?_, h.ne, h.inj, h.sep⟩
  by_cases e : j = i
  · subst e
    rw [hx] at hy; cases hy
    exact ⟨(h.row j x hj hx).1, hr.congr (fun j' _ => by simp [upd])⟩
  · obtain ⟨h1, h2⟩ := h.row j y hj hy
    have hne : y ≠ x := fun e' => e (h.inj j i x hj hi (by rw [hy, e']) hx)
    exact ⟨h1, (h2.of_block (ho _ hne)).congr (fun j' _ => by simp [upd, e])⟩
end

/-! ### how the state stands to the start -/
structure Rel (B : Nat) (w0 wr : World) (cb n : Nat) (sh : Option Nat) (size off : Int) (P : Nat → Int) (G0 : Nat → Option Nat) (Z0 : Nat → Nat → Int) (S0 : Nat → Bool) (k : Nat) (G : Nat → Option Nat) (Z : Nat → Nat → Int) (S : Nat → Bool) : Prop where
  bel : Below B w0 wr
  gn : ∀ i, i < n → (G i = none ↔ G0 i = none ∧ touched size i off k = false)
  z : ∀ i j, i < n → j < Ln size i → G i ≠ none → Z i j = want (G0 i).isSome (Z0 i) off k P i j
  s : ∀ i, i < n → S i = (S0 i && !touched size i off k)
  own : ∀ i x, i < n → G i = some x → x < w0.heap.size → G0 i = some x ∧ (S0 i = true → S i = true)
  frame : ∀ b, b < w0.heap.size → b ≠ cb → sh ≠ some b → (∀ i, i < n → G0 i = some b → S0 i = true) → wr.heap[b]? = w0.heap[b]?

/-! ### plain arithmetic -/
theorem ln_eq {size : Int} {n i : Nat} (h0 : 0 ≤ size) (hlo : (n : Int) * 65536 < size + 65536) (hi : i < n) : (Ln size i : Int) = chLen size i ∧ 0 < Ln size i ∧ Ln size i ≤ 65536 := by
  unfold Ln chLen
  split <;> omega

theorem touched_iff (size off : Int) (i k : Nat) : touched size i off k = true ↔ k ≠ 0 ∧ (i : Int) * 65536 < off + k ∧ off < (i : Int) * 65536 + chLen size i := by
  unfold touched
  simp

theorem touched_zero (size off : Int) (i : Nat) : touched size i off (0 : Nat) = false := by
  unfold touched
  simp

/-- one round: which chunks the write has reached -/
theorem touched_next {size off : Int} {n i k m at' : Nat} (h0 : 0 ≤ size) (hlo : (n : Int) * 65536 < size + 65536) (hi : i < n) (hoff : 0 ≤ off) (hat : off + k = (i : Int) * 65536 + at') (hm : 0 < m) (hml : at' + m ≤ Ln size i) (j : Nat) (hj : j < n) :
    touched size j off (k + m : Nat) = (touched size j off k || decide (j = i)) := by
  have hl := ln_eq h0 hlo hi
  have hl' := ln_eq h0 hlo hj
  rw [Bool.eq_iff_iff, Bool.or_eq_true, touched_iff, touched_iff]
  simp only [decide_eq_true_eq]
  rcases Nat.lt_trichotomy j i with h | h | h
  · have : (j : Int) * 65536 + 65536 ≤ (i : Int) * 65536 := by omega
    have h2 : chLen size j ≤ 65536 := by omega
    omega
  · subst h
    simp only [or_true, iff_true]
    refine ⟨by omega, by omega, by omega⟩
  · have : (i : Int) * 65536 + 65536 ≤ (j : Int) * 65536 := by omega
    omega

theorem want_same {b : Bool} {Z : Nat → Int} {P : Nat → Int} {size off : Int} {n i k m at' : Nat} (h0 : 0 ≤ size) (hlo : (n : Int) * 65536 < size + 65536) (hi : i < n) (hat : off + k = (i : Int) * 65536 + at') (hml : at' + m ≤ Ln size i)
    (j l : Nat) (hj : j < n) (hl : l < Ln size j) (hne : j ≠ i) : want b Z off (k + m) P j l = want b Z off k P j l := by
  have e1 := ln_eq h0 hlo hi
  have e2 := ln_eq h0 hlo hj
  unfold want
  rcases Nat.lt_or_gt_of_ne hne with h | h
  · have : (j : Int) * 65536 + 65536 ≤ (i : Int) * 65536 := by omega
    by_cases c : off ≤ (j : Int) * 65536 + l ∧ (j : Int) * 65536 + l - off < k
    · rw [if_pos c, if_pos (by omega)]
    · rw [if_neg c, if_neg (by omega)]
  · have : (i : Int) * 65536 + 65536 ≤ (j : Int) * 65536 := by omega
    by_cases c : off ≤ (j : Int) * 65536 + l ∧ (j : Int) * 65536 + l - off < k
    · rw [if_pos c, if_pos (by omega)]
    · rw [if_neg c, if_neg (by omega)]

theorem want_here {b : Bool} {Z : Nat → Int} {P : Nat → Int} {off : Int} {i k m at' l : Nat} (hoff : 0 ≤ off) (hat : off + k = (i : Int) * 65536 + at') :
    want b Z off (k + m) P i l = if at' ≤ l ∧ l < at' + m then P (k + (l - at')) else want b Z off k P i l := by
  unfold want
  by_cases c : at' ≤ l ∧ l < at' + m
  · rw [if_pos c, if_pos (by omega)]
    congr 1
    omega
  · rw [if_neg c]
    by_cases d : off ≤ (i : Int) * 65536 + l ∧ (i : Int) * 65536 + l - off < k
    · rw [if_pos d, if_pos (by omega)]
    · rw [if_neg d, if_neg (by omega)]

theorem want_untouched {b : Bool} {Z : Nat → Int} {P : Nat → Int} {size off : Int} {n i k : Nat} (h0 : 0 ≤ size) (hlo : (n : Int) * 65536 < size + 65536) (hi : i < n) (ht : touched size i off k = false) (l : Nat) (hl : l < Ln size i) :
    want b Z off k P i l = if b then Z l else 0 := by
  have e1 := ln_eq h0 hlo hi
  have ht' : ¬ touched size i off k = true := by rw [ht]; simp
  rw [touched_iff] at ht'
  unfold want
  rw [if_neg (by omega)]

theorem Rel.start (B : Nat) (w0 : World) (cb n : Nat) (sh : Option Nat) (size off : Int) (P : Nat → Int) (G0 : Nat → Option Nat) (Z0 : Nat → Nat → Int) (S0 : Nat → Bool) (h0 : 0 ≤ size) (hlo : (n : Int) * 65536 < size + 65536) :
    Rel B w0 w0 cb n sh size off P G0 Z0 S0 0 G0 Z0 S0 := by
  refine ⟨Below.refl _ _, fun i hi => ?_, fun i j hi hj hg => ?_, fun i hi => ?_, fun i x hi hx _ => ⟨hx, fun h => h⟩, fun _ _ _ _ _ => rfl⟩
  · rw [touched_zero]; simp
  · rw [want_untouched h0 hlo hi (touched_zero _ _ _) j hj]
    cases e : G0 i with
    | none => exact absurd e hg
    | some x => simp
  · rw [touched_zero]; simp

theorem Rel.next {B : Nat} {w0 wr w2 : World} {cb n : Nat} {sh : Option Nat} {size off : Int} {P : Nat → Int} {G0 : Nat → Option Nat} {Z0 : Nat → Nat → Int} {S0 : Nat → Bool} {k : Nat} {G : Nat → Option Nat} {Z : Nat → Nat → Int} {S : Nat → Bool}
    (h : Rel B w0 wr cb n sh size off P G0 Z0 S0 k G Z S) {i m at' x : Nat} {G1 : Nat → Option Nat} {Z1 : Nat → Nat → Int} {S1 : Nat → Bool}
    (h0 : 0 ≤ size) (hlo : (n : Int) * 65536 < size + 65536) (hi : i < n) (hoff : 0 ≤ off) (hat : off + k = (i : Int) * 65536 + at') (hm : 0 < m) (hml : at' + m ≤ Ln size i)
    (hb2 : Below B wr w2) (hG : ∀ j, j ≠ i → G1 j = G j) (hZ : ∀ j, j ≠ i → Z1 j = Z j) (hS : ∀ j, j ≠ i → S1 j = S j) (hGi : G1 i = some x) (hSi : S1 i = false)
    (hZi : ∀ l, l < Ln size i → Z1 i l = if at' ≤ l ∧ l < at' + m then P (k + (l - at')) else want (G0 i).isSome (Z0 i) off k P i l)
    (hx : x < w0.heap.size → G0 i = some x ∧ S0 i = false)
    (hfr : ∀ b, b < w0.heap.size → b ≠ cb → sh ≠ some b → b ≠ x → w2.heap[b]? = wr.heap[b]?) :
    Rel B w0 w2 cb n sh size off P G0 Z0 S0 (k + m) G1 Z1 S1 := by
  refine ⟨h.bel.trans hb2, fun j hj => ?_, fun j l hj hl hg => ?_, fun j hj => ?_, fun j y hj hy hlt => ?_, fun b hb h1 h2 h3 => ?_⟩
  · rw [touched_next h0 hlo hi hoff hat hm hml j hj]
    by_cases e : j = i
    · subst e; simp [hGi]
    · rw [hG j e, h.gn j hj]; simp [e]
  · by_cases e : j = i
    · subst e
      rw [hZi l hl, want_here hoff hat]
    · rw [hG j e] at hg
      rw [hZ j e, h.z j l hj hl hg, want_same h0 hlo hi hat hml j l hj hl e]
  · rw [touched_next h0 hlo hi hoff hat hm hml j hj]
    by_cases e : j = i
    · subst e; simp [hSi]
    · rw [hS j e, h.s j hj]; simp [e]
  · by_cases e : j = i
    · subst e
      rw [hGi] at hy; cases hy
      exact ⟨(hx hlt).1, fun hs => by rw [(hx hlt).2] at hs; cases hs⟩
    · rw [hG j e] at hy
      obtain ⟨a1, a2⟩ := h.own j y hj hy hlt
      exact ⟨a1, fun hs => by rw [hS j e]; exact a2 hs⟩
  · rw [hfr b hb h1 h2 ?_, h.frame b hb h1 h2 h3]
    rintro rfl
    obtain ⟨e1, e2⟩ := hx hb
    have := h3 i hi e1
    rw [e2] at this; cases this

end Go.Proofs.Qxb6628324aFmt
