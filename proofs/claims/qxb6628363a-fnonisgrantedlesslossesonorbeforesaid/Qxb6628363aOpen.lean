import Derived.Test.Qxb6628363aMade
import Derived.ProofKit
import Derived.OpenShut
import Derived.ShutString
import Derived.ChangeOld
import Derived.Deep.Matrix
namespace Go.Proofs.Qxb6628363a
open Go.ChangeShapes Go.WideShapes Go.ChangeAt Go.RowKit Go.Deep
set_option linter.unusedVariables false

theorem own : ownKnob Try.prog.godebug = none := by kernel_rfl
theorem laidOut : laidOutB Try.prog = true := by kernel_rfl
theorem cells22 : Try.prog.cellsOf 22 = 1 := by kernel_rfl
theorem cells2 : Try.prog.cellsOf 2 = 1 := by kernel_rfl

theorem spot_none {w : World} {a : Addr} {v : Value} (h : w.cell? a = some v) : a.spot = none := by
  unfold World.cell? at h
  cases e : a.spot with
  | none => rfl
  | some s =>
    rw [e] at h
    split at h <;> simp at h

theorem addr_plain {w : World} {a : Addr} {v : Value} (h : w.cell? (a.add 0) = some v) : ∃ b o, a = ⟨b, o, none⟩ := by
  have hs := spot_none h
  obtain ⟨b, o, s⟩ := a
  exact ⟨b, o, by simp [Addr.add] at hs; rw [hs]⟩

theorem isInts_of {w : World} {a : Addr} {n : Nat} {z : List Int} (h : ∀ c, c < n → w.cell? (a.add c) = some (.int .i64 (z.getD c 0))) : IsInts w (some a) n (fun j => z.getD j 0) := by
  intro j hj
  have hc := h j hj
  obtain ⟨b, o, rfl⟩ := addr_plain (h 0 (by omega))
  rw [add_plain] at hc
  exact ⟨b, o, rfl, hc⟩

theorem int_bd {n : Int} (h : (Lit.int .i64 n).wf = true) : -9223372036854775808 ≤ n ∧ n ≤ 9223372036854775807 := by
  simp [Lit.wf, IntKind.min, IntKind.max, IntKind.signed, IntKind.bits] at h
  omega

section
variable {H : Type} {enc : TypeId × Value → H} {W : World} {base : Nat}

theorem open_ints64 {fuel : Nat} {a : Option Addr} {n c : Nat} {x : DataW H × List MemPlace} (h : DataW.trod enc Try.prog W base (fun _ => true) true fuel 22 (Value.slice a n c).cells.toList = some x) :
    ∃ Z, IsInts W a n Z ∧ (a = none → n = 0 ∧ c = 0) ∧ n ≤ 9223372036854775807 ∧ ∀ i, i < n → -9223372036854775808 ≤ Z i ∧ Z i ≤ 9223372036854775807 := by
  rcases open_ints Try.underlying22 Try.underlying2 cells2 h with ⟨hcs, _⟩ | ⟨x, l, c', zs, hcs, _, hl, hm, hz, _, hcell, hwz⟩
  · simp [Value.cells] at hcs
    obtain ⟨rfl, rfl, rfl⟩ := hcs
    exact ⟨fun _ => 0, fun j hj => absurd hj (Nat.not_lt_zero _), fun _ => ⟨rfl, rfl⟩, by omega, fun j hj => absurd hj (Nat.not_lt_zero _)⟩
  · simp [Value.cells] at hcs
    obtain ⟨rfl, rfl, rfl⟩ := hcs
    simp only [if_true] at hz
    unfold maxLen at hm
    refine ⟨fun j => zs.getD j 0, isInts_of (fun i hi => hcell i (by omega)), (fun h => by cases h), by omega, fun i hi => ?_⟩
    refine int_bd (hwz _ ?_)
    have hi' : i < zs.length := by omega
    show zs.getD i 0 ∈ zs
    rw [List.getD_eq_getElem?_getD, List.getElem?_eq_getElem hi']
    exact List.getElem_mem hi'

theorem open_rows64 {fuel : Nat} {a : Option Addr} {n c : Nat} {x : DataW H × List MemPlace} (h : DataW.trod enc Try.prog W base (fun _ => true) true fuel 23 (Value.slice a n c).cells.toList = some x) :
    ∃ A L C Z, IsRows W a n A L C Z ∧ (a = none → n = 0 ∧ c = 0) ∧ n ≤ 9223372036854775807 := by
  rcases open_int_rows Try.underlying23 Try.underlying22 Try.underlying2 cells22 cells2 h with ⟨hcs, _⟩ | ⟨x, l, c', A, L, C, Z, hcs, _, hl, hm, _, hrows⟩
  · simp [Value.cells] at hcs
    obtain ⟨rfl, rfl, rfl⟩ := hcs
    exact ⟨fun _ => none, fun _ => 0, fun _ => 0, fun _ _ => 0, ⟨fun r hr => absurd hr (Nat.not_lt_zero _), fun r hr => absurd hr (Nat.not_lt_zero _), fun r hr => absurd hr (Nat.not_lt_zero _), fun r hr => absurd hr (Nat.not_lt_zero _)⟩, fun _ => ⟨rfl, rfl⟩, by omega⟩
  · simp [Value.cells] at hcs
    obtain ⟨rfl, rfl, rfl⟩ := hcs
    unfold maxLen at hm
    refine ⟨A, L, C, fun r j => (Z r).getD j 0, ⟨fun r hr => ?_, fun r hr => ?_, fun r hr h => ?_, fun r hr j hj => ?_⟩, (fun h => by cases h), by omega⟩
    all_goals obtain ⟨h1, h2, h3, h4, h5, h6, h7⟩ := hrows r (by omega)
    · obtain ⟨b, o, rfl⟩ := addr_plain (hrows 0 (by omega)).1
      rw [add_plain] at h1
      exact ⟨b, o, rfl, h1⟩
    · unfold maxLen at h3; omega
    · have := h6 h; omega
    · cases hA : A r with
      | none => have := h6 hA; omega
      | some ar => exact isInts_of (fun c hc => (h7 ar hA).2 c (by omega)) j hj

end

end Go.Proofs.Qxb6628363a
