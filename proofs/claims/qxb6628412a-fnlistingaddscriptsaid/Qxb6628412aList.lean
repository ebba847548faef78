import Derived.Test.Qxb6628412aMem
namespace Go.Proofs.Qxb6628412a
open Go.RowKit Go.Deep
set_option linter.unusedVariables false

def upd {α : Type} (f : Nat → α) (i : Nat) (v : α) : Nat → α := fun j => if j = i then v else f j
theorem upd_same {α : Type} (f : Nat → α) (i : Nat) (v : α) : upd f i v i = v := by simp [upd]
theorem upd_other {α : Type} (f : Nat → α) (i : Nat) (v : α) (j : Nat) (h : j ≠ i) : upd f i v j = f j := by simp [upd, h]

def rlCell (p : Option Addr) (ls : Int) : Nat → Value
  | 0 => .pointer p
  | 1 => .int .i64 ls
  | 2 => .int .i64 0
  | 3 => .pointer none
  | 4 => .string { data := #[] }
  | 5 => .string { data := #[] }
  | 6 => .int .i64 0
  | _ => .string { data := #[] }

/-- The listing lies in block lb: k findings, m rules. -/
structure LS (w : World) (lb k m : Nat) (fv rv : Value) (FF : Nat → Nat → Value) (Q : Nat → Option Addr) (C : Nat → Int) : Prop where
  l : w.rowIs lb 38 2 (fun i => if i = 0 then fv else rv)
  fo : Own w (lb + 1) 41 7 fv k FF
  ro : Own w (lb + 1) 52 10 rv m (fun j => rlCell (Q j) (C j))
  sep : ∀ g, fv.ownBlock = some g → rv.ownBlock ≠ some g

/-- w' is w but for the blocks that P names, and new ones. -/
structure Fr (w w' : World) (P : Nat → Prop) : Prop where
  os : w'.os = w.os
  tape : w'.tape = w.tape
  output : w'.output = w.output
  size : w.heap.size ≤ w'.heap.size
  block : ∀ b, b < w.heap.size → ¬ P b → w'.heap[b]? = w.heap[b]?

section
variable {w w1 w2 w3 : World} {lb k m : Nat} {fv rv : Value} {FF : Nat → Nat → Value} {Q : Nat → Option Addr} {C : Nat → Int}

theorem LS.c0 (h : LS w lb k m fv rv FF Q C) : w.cell? ⟨lb, 0, none⟩ = some fv := by simpa using h.l.cell (i := 0) (by omega)
theorem LS.c1 (h : LS w lb k m fv rv FF Q C) : w.cell? ⟨lb, 1, none⟩ = some rv := by simpa using h.l.cell (i := 1) (by omega)

theorem LS.of_blocks (h : LS w lb k m fv rv FF Q C) (e : ∀ b, b < w.heap.size → w1.heap[b]? = w.heap[b]?) : LS w1 lb k m fv rv FF Q C :=
  ⟨h.l.of_block (e _ h.l.lt), h.fo.of_block fun g hg => e g (h.fo.lt hg).1, h.ro.of_block fun g hg => e g (h.ro.lt hg).1, h.sep⟩
theorem LS.later (h : LS w lb k m fv rv FF Q C) (hb : Below w.heap.size w w1) : LS w1 lb k m fv rv FF Q C := h.of_blocks fun b hb' => hb.block b hb'

theorem LS.rl (h : LS w lb k m fv rv FF Q C) {g cap j : Nat} (hv : rv = .slice (some ⟨g, 0, none⟩) m cap) (hj : j < m) : RLAt w g (j * 10) (Q j) (C j) := by
  have := h.ro
  subst hv
  exact ⟨this.cell hj (c := 0) (by omega), this.cell hj (c := 1) (by omega), this.cell hj (c := 2) (by omega), this.cell hj (c := 3) (by omega), this.cell hj (c := 4) (by omega), this.cell hj (c := 5) (by omega), this.cell hj (c := 6) (by omega), this.cell hj (c := 7) (by omega), this.cell hj (c := 8) (by omega), this.cell hj (c := 9) (by omega)⟩

/-- What 'of' finds or makes. -/
def OfRel (m : Nat) (Q : Nat → Option Addr) (C : Nat → Int) (r : Option Addr) (m' : Nat) (Q' : Nat → Option Addr) (C' : Nat → Int) (j : Nat) : Prop :=
  (m' = m ∧ Q' = Q ∧ C' = C ∧ j < m ∧ Q j = r) ∨ (m' = m + 1 ∧ j = m ∧ Q' = upd Q m r ∧ C' = upd C m 0 ∧ ∀ i, i < m → Q i ≠ r)

theorem LS.ofStep (h : LS w lb k m fv rv FF Q C) (hb : Below w.heap.size w w2) {g cap : Nat} {r : Option Addr}
    (hown : w3.ownsRow (lb + 1) 52 10 (.slice (some ⟨g, 0, none⟩) (m + 1) cap) (m + 1) (flat (fun j => rlCell (Q j) (C j)) 10 m ++ (List.range 10).map (rlCell r 0)))
    (hg : w2.grownBy w3 rv.ownBlock) (hat : rv.ownBlock = some g ∨ g = w2.heap.size) :
    LS (w3.setCell ⟨lb, 1, none⟩ (.slice (some ⟨g, 0, none⟩) (m + 1) cap)) lb k (m + 1) fv (.slice (some ⟨g, 0, none⟩) (m + 1) cap) FF (upd Q m r) (upd C m 0) ∧
    Fr w (w3.setCell ⟨lb, 1, none⟩ (.slice (some ⟨g, 0, none⟩) (m + 1) cap)) (fun b => b = lb ∨ rv.ownBlock = some b) ∧ (rv.ownBlock = some g ∨ w.heap.size ≤ g) := by
  have hs : w.heap.size ≤ w2.heap.size := hb.size
  have blk : ∀ b, b < w.heap.size → rv.ownBlock ≠ some b → w3.heap[b]? = w.heap[b]? := fun b hb' hne => (hg.block b (by omega) (fun e => hne e.symm)).trans (hb.block b hb')
  have hlb := h.l.lt
  have hrl : rv.ownBlock ≠ some lb := fun e => by have := (h.ro.lt e).2; omega
  have hO : Own w3 (lb + 1) 52 10 (.slice (some ⟨g, 0, none⟩) (m + 1) cap) (m + 1) (fun j => rlCell (upd Q m r j) (upd C m 0 j)) := by
    refine Own.of_owns ?_ (by decide)
    rw [flat_succ _ _ _ (by decide)]
    have e1 : flat (fun j => rlCell (upd Q m r j) (upd C m 0 j)) 10 m = flat (fun j => rlCell (Q j) (C j)) 10 m := flat_congr (by decide) fun j c hj _ => by
      show rlCell (upd Q m r j) (upd C m 0 j) c = rlCell (Q j) (C j) c
      rw [upd_other _ _ _ _ (by omega), upd_other _ _ _ _ (by omega)]
    have e2 : rlCell (upd Q m r m) (upd C m 0 m) = rlCell r 0 := by rw [upd_same, upd_same]
    rw [e1, e2]
    exact hown
  have hgl : lb + 1 ≤ g := (hO.lt rfl).2
  refine ⟨⟨((h.l.of_block (blk lb hlb hrl)).set 1 _).congr fun i hi => ?_, (h.fo.of_block fun b hb' => ?_), hO.of_block fun b hb' => ?_, fun b hb' => ?_⟩, ⟨?_, ?_, ?_, ?_, fun b hb' hp => ?_⟩, ?_⟩
  · by_cases e : i = 1
    · simp [e]
    · obtain rfl : i = 0 := by omega
      simp
  · have hf := h.fo.lt hb'
    rw [blk_setCell_other _ _ _ _ (show b ≠ lb by omega)]
    exact blk b hf.1 (h.sep b hb')
  · simp [Value.ownBlock] at hb'
    exact blk_setCell_other _ _ _ _ (show b ≠ lb by omega)
  · intro e
    simp [Value.ownBlock] at e
    subst e
    rcases hat with e | e
    · exact h.sep _ hb' e
    · have := (h.fo.lt hb').1
      omega
  · exact hg.os.trans hb.os
  · exact hg.tape.trans hb.tape
  · exact hg.output.trans hb.output
  · have := hg.size
    simp [World.setCell]
    omega
  · rw [blk_setCell_other _ _ _ _ (show b ≠ lb from fun e => hp (.inl e))]
    exact blk b hb' fun e => hp (.inr e)
  · rcases hat with e | e
    · exact .inl e
    · exact .inr (by omega)
end

theorem info52 : (Try.prog.info? 52).map (fun i => (i.zero, i.size, i.bytes)) = some (some (.agg #[.pointer none, .int .i64 0, .int .i64 0, .pointer none, .string { data := #[] }, .string { data := #[] }, .int .i64 0, .string { data := #[] }, .string { data := #[] }, .string { data := #[] }]), 10, 120) := by kernel_rfl
theorem info41 : (Try.prog.info? 41).map (fun i => (i.zero, i.size, i.bytes)) = some (some (.agg #[.pointer none, .string { data := #[] }, .string { data := #[] }, .int .i64 0, .string { data := #[] }, .string { data := #[] }, .string { data := #[] }]), 7, 96) := by kernel_rfl
theorem info_parts {P : Program} {e : TypeId} {z : Value} {s b : Nat} (h : (P.info? e).map (fun i => (i.zero, i.size, i.bytes)) = some (some z, s, b)) : ∃ i, P.info? e = some i ∧ i.zero = some z ∧ i.size = s ∧ i.bytes = b := by
  obtain ⟨i, hi, hzz⟩ := Option.map_eq_some_iff.1 h
  simp only [Prod.mk.injEq] at hzz
  exact ⟨i, hi, hzz.1, hzz.2.1, hzz.2.2⟩

end Go.Proofs.Qxb6628412a
