import Derived.Test.Qxb6628412aList
import Derived.LaidEqlPtr
import Derived.Lib.Builder
namespace Go.Proofs.Qxb6628412a
open Go.RowKit Go.Deep
set_option linter.unusedVariables false

/-- A pointer that is nil, or the head of a live block below lb. -/
def Good (w : World) (lb : Nat) (p : Option Addr) : Prop := p = none ∨ ∃ b c t, p = some ⟨b, 0, none⟩ ∧ b < lb ∧ w.heap[b]? = some (.cells c t (0, 0))

theorem Good.later {w w' : World} {lb : Nat} {p : Option Addr} (h : Good w lb p) (hb : Below lb w w') : Good w' lb p := by
  rcases h with h | ⟨b, c, t, h1, h2, h3⟩
  · exact .inl h
  · exact .inr ⟨b, c, t, h1, h2, (hb.block b h2).trans h3⟩

theorem info33 : (Try.prog.info? 33).map (fun i => i.size) = some 4 ∨ (Try.prog.info? 33).map (fun i => i.size) = some 3 := by right; kernel_rfl

theorem eql29 (w : World) {lb : Nat} {p q : Option Addr} (hp : Good w lb p) (hq : Good w lb q) : (binOp .eql 29 (.pointer p) (.pointer q)).run Try.prog w = .ok (.bool (decide (p = q))) w := by
  obtain ⟨i, hi, hs⟩ : ∃ i, Try.prog.info? 33 = some i ∧ i.size ≠ 0 := by
    rcases info33 with h | h <;> (obtain ⟨i, hi, hs⟩ := Option.map_eq_some_iff.1 h; exact ⟨i, hi, by omega⟩)
  rcases hq with rfl | ⟨b, c, t, rfl, _, hb⟩
  · rw [run_eql_pointer_nil w 29 p Try.underlying29]
    cases p <;> simp
  · rcases hp with rfl | ⟨b', c', t', rfl, _, hb'⟩
    · have h : ∀ d : Nat, (Op.equalIn (d + 1) 29 (.pointer none) (.pointer (some ⟨b, 0, none⟩))).run Try.prog w = .ok false w := fun d => by
        simp [Op.equalIn, run_underlying Try.underlying29]
      simp only [binOp]
      simp [Op.equal, Op.maxDepth, h 9999]
    · by_cases e : b' = b
      · subst e
        rw [run_eql_ptr_same w _ Try.underlying29 hi]
        simp
      · rw [run_eql_ptr_other w Try.underlying29 hi hs (a := ⟨b', 0, none⟩) (b := ⟨b, 0, none⟩) (by intro h; cases h; exact e rfl) hb' hb, decide_eq_false (by intro h; cases h; exact e rfl)]

theorem neq29_same (w : World) (p : Option Addr) : (binOp .neq 29 (.pointer p) (.pointer p)).run Try.prog w = .ok (.bool false) w := by
  obtain ⟨i, hi, hs⟩ : ∃ i, Try.prog.info? 33 = some i ∧ i.size ≠ 0 := by
    rcases info33 with h | h <;> (obtain ⟨i, hi, hs⟩ := Option.map_eq_some_iff.1 h; exact ⟨i, hi, by omega⟩)
  cases p with
  | none => rw [run_neq_pointer_nil w 29 none Try.underlying29]; rfl
  | some a => exact Lib.run_neq_ptr_same w a Try.underlying29 hi

theorem eqIn29_same (w : World) (d : Nat) (p : Option Addr) : (Op.equalIn (d + 1) 29 (.pointer p) (.pointer p)).run Try.prog w = .ok true w := by
  obtain ⟨i, hi, hs⟩ : ∃ i, Try.prog.info? 33 = some i ∧ i.size ≠ 0 := by
    rcases info33 with h | h <;> (obtain ⟨i, hi, hs⟩ := Option.map_eq_some_iff.1 h; exact ⟨i, hi, by omega⟩)
  cases p with
  | none => simp [Op.equalIn, run_underlying Try.underlying29]
  | some a => simp [Op.equalIn, run_underlying Try.underlying29, sizeOf, typeInfo, hi, run_sameAddr_same]

theorem neq41_same (w : World) (p : Option Addr) (s1 s2 s3 s4 s5 : ByteArray) (ln : Int) :
    (binOp .neq 41 (.agg #[.pointer p, .string s1, .string s2, .int .i64 ln, .string s3, .string s4, .string s5]) (.agg #[.pointer p, .string s1, .string s2, .int .i64 ln, .string s3, .string s4, .string s5])).run Try.prog w = .ok (.bool false) w := by
  have e := fun d => eqIn29_same w d p
  go_simp

end Go.Proofs.Qxb6628412a
