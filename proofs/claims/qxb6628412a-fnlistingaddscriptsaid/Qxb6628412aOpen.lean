import Derived.Test.Qxb6628412aBase
import Derived.ProofKit
import Derived.OpenShut
import Derived.ShutString
import Derived.ChangeOld
import Derived.Deep.Strs
namespace Go.Proofs.Qxb6628412a
open Go.ChangeShapes Go.WideShapes Go.ChangeAt Go.RowKit Go.Deep
set_option linter.unusedVariables false

theorem own : ownKnob Try.prog.godebug = none := by kernel_rfl
theorem laidOut : laidOutB Try.prog = true := by kernel_rfl
theorem cells9 : Try.prog.cellsOf 9 = 1 := by kernel_rfl
theorem cells3 : Try.prog.cellsOf 3 = 1 := by kernel_rfl
theorem cells26 : Try.prog.cellsOf 26 = 7 := by kernel_rfl

theorem spot_none {w : World} {a : Addr} {v : Value} (h : w.cell? a = some v) : a.spot = none := by
  unfold World.cell? at h
  cases e : a.spot with
  | none => rfl
  | some s =>
    rw [e] at h
    split at h <;> simp at h

theorem addr_plain {w : World} {a : Addr} {v : Value} (h : w.cell? (a.add 0) = some v) : ∃ b o, a = ⟨b, o, none⟩ := by
  have hs := spot_none h
  obtain ⟨b, o, s⟩ := a
  exact ⟨b, o, by simp [Addr.add] at hs; rw [hs]⟩

theorem int_bd {n : Int} (h : (Lit.int .i64 n).wf = true) : -9223372036854775808 ≤ n ∧ n ≤ 9223372036854775807 := by
  simp [Lit.wf, IntKind.min, IntKind.max, IntKind.signed, IntKind.bits] at h
  omega

section
variable {H : Type} {enc : TypeId × Value → H} {W : World} {base : Nat}

theorem open_strs22 {fuel : Nat} {a : Option Addr} {n c : Nat} {x : DataW H × List MemPlace} (h : DataW.trod enc Try.prog W base (fun _ => true) true fuel 22 (Value.slice a n c).cells.toList = some x) :
    ∃ S, IsStrs W a n S ∧ n ≤ 9223372036854775807 := by
  rcases open_strs Try.underlying22 Try.underlying9 cells9 h with ⟨hcs, _⟩ | ⟨x, l, c', m, Sx, hcs, _, hl, hm, hz, _, hcell⟩
  · simp [Value.cells] at hcs
    obtain ⟨rfl, rfl, rfl⟩ := hcs
    exact ⟨fun _ => { data := #[] }, fun j hj => absurd hj (Nat.not_lt_zero _), by omega⟩
  · simp [Value.cells] at hcs
    obtain ⟨rfl, rfl, rfl⟩ := hcs
    simp only [if_true] at hz
    unfold maxLen at hm
    refine ⟨Sx, fun j hj => ?_, by omega⟩
    have hc := (hcell j (by omega)).1
    obtain ⟨b, o, rfl⟩ := addr_plain (hcell 0 (by omega)).1
    rw [add_plain] at hc
    exact ⟨b, o, rfl, hc⟩

theorem open_add {sp : Nat → Bool} {hd : Bool} {fuel : Nat} {cs : List Value} {x : DataW H × List MemPlace} (h : DataW.trod enc Try.prog W base sp hd fuel 26 cs = some x) :
    ∃ r : AddR, cs = [.int .i64 r.rule, .string r.level, .string r.file, .int .i64 r.line, .string r.kind, .string r.name, .string r.msg] ∧ -9223372036854775808 ≤ r.rule ∧ r.rule ≤ 9223372036854775807 := by
  obtain ⟨xs, n, _, _, hl, hxs, hf⟩ := DataW.trod_struct Try.underlying26 h
  rw [cells26] at hl
  have hx7 : xs.length = 7 := hxs
  have f0 : DataW.trod enc Try.prog W base sp hd n 3 ((cs.drop 0).take (Try.prog.cellsOf 3)) = xs[0]? := hf 0 _ rfl
  have f1 : DataW.trod enc Try.prog W base sp hd n 9 ((cs.drop 1).take (Try.prog.cellsOf 9)) = xs[1]? := hf 1 _ rfl
  have f2 : DataW.trod enc Try.prog W base sp hd n 9 ((cs.drop 2).take (Try.prog.cellsOf 9)) = xs[2]? := hf 2 _ rfl
  have f3 : DataW.trod enc Try.prog W base sp hd n 3 ((cs.drop 3).take (Try.prog.cellsOf 3)) = xs[3]? := hf 3 _ rfl
  have f4 : DataW.trod enc Try.prog W base sp hd n 9 ((cs.drop 4).take (Try.prog.cellsOf 9)) = xs[4]? := hf 4 _ rfl
  have f5 : DataW.trod enc Try.prog W base sp hd n 9 ((cs.drop 5).take (Try.prog.cellsOf 9)) = xs[5]? := hf 5 _ rfl
  have f6 : DataW.trod enc Try.prog W base sp hd n 9 ((cs.drop 6).take (Try.prog.cellsOf 9)) = xs[6]? := hf 6 _ rfl
  rw [List.getElem?_eq_getElem (by omega), cells3] at f0 f3
  rw [List.getElem?_eq_getElem (by omega), cells9] at f1 f2 f4 f5 f6
  match cs, hl with
  | [a, b, c, d, e, f, g], _ =>
  simp at f0 f1 f2 f3 f4 f5 f6
  obtain ⟨r, e0, _, w0⟩ := DataW.trod_int Try.underlying3 f0
  obtain ⟨s1, e1, _⟩ := DataW.trod_string Try.underlying9 f1
  obtain ⟨s2, e2, _⟩ := DataW.trod_string Try.underlying9 f2
  obtain ⟨ln, e3, _⟩ := DataW.trod_int Try.underlying3 f3
  obtain ⟨s4, e4, _⟩ := DataW.trod_string Try.underlying9 f4
  obtain ⟨s5, e5, _⟩ := DataW.trod_string Try.underlying9 f5
  obtain ⟨s6, e6, _⟩ := DataW.trod_string Try.underlying9 f6
  simp at e0 e1 e2 e3 e4 e5 e6
  subst e0 e1 e2 e3 e4 e5 e6
  exact ⟨⟨r, s1, s2, ln, s4, s5, s6⟩, rfl, (int_bd w0).1, (int_bd w0).2⟩

def someAdd : AddR := ⟨0, { data := #[] }, { data := #[] }, 0, { data := #[] }, { data := #[] }, { data := #[] }⟩

theorem open_adds23 {fuel : Nat} {a : Option Addr} {n c : Nat} {x : DataW H × List MemPlace} (h : DataW.trod enc Try.prog W base (fun _ => true) true fuel 23 (Value.slice a n c).cells.toList = some x) :
    ∃ X, IsAdds W a n X ∧ n ≤ 9223372036854775807 ∧ ∀ i, i < n → -9223372036854775808 ≤ (X i).rule ∧ (X i).rule ≤ 9223372036854775807 := by
  rcases open_slice Try.underlying23 h with ⟨hcs, _⟩ | ⟨x, l, c', m, fu, D, Pl, hcs, _, hl, hm, hz, _, hel⟩
  · simp [Value.cells] at hcs
    obtain ⟨rfl, rfl, rfl⟩ := hcs
    exact ⟨fun _ => someAdd, fun j hj => absurd hj (Nat.not_lt_zero _), by omega, fun j hj => absurd hj (Nat.not_lt_zero _)⟩
  · simp [Value.cells] at hcs
    obtain ⟨rfl, rfl, rfl⟩ := hcs
    simp only [if_true] at hz
    unfold maxLen at hm
    rw [cells26] at hel
    have each : ∀ i, i < n → ∃ r : AddR, (∀ j, j < 7 → W.cell? ((x.add (i * 7)).add j) = [Value.int .i64 r.rule, .string r.level, .string r.file, .int .i64 r.line, .string r.kind, .string r.name, .string r.msg][j]?) ∧ -9223372036854775808 ≤ r.rule ∧ r.rule ≤ 9223372036854775807 := fun i hi => by
      obtain ⟨cs', h1, h2⟩ := hel i (by omega)
      obtain ⟨r, rfl, b1, b2⟩ := open_add h2
      obtain ⟨_, _, hcell⟩ := World.cells?_some h1
      exact ⟨r, hcell, b1, b2⟩
    obtain ⟨X, hX⟩ := @choose_lt AddR ⟨someAdd⟩ _ _ each
    refine ⟨X, fun i hi => ?_, by omega, fun i hi => (hX i hi).2⟩
    have h00 := (hX 0 (by omega)).1 0 (by omega)
    rw [Nat.zero_mul] at h00
    obtain ⟨b, o, rfl⟩ : ∃ b o, x = ⟨b, o, none⟩ := addr_plain (v := .int .i64 (X 0).rule) (by simpa [Addr.add] using h00)
    have hc := (hX i hi).1
    refine ⟨b, o, rfl, ?_⟩
    rw [add_plain] at hc
    refine ⟨?_, ?_, ?_, ?_, ?_, ?_, ?_⟩
    · have := hc 0 (by omega); rwa [add_plain] at this
    · have := hc 1 (by omega); rwa [add_plain] at this
    · have := hc 2 (by omega); rwa [add_plain] at this
    · have := hc 3 (by omega); rwa [add_plain] at this
    · have := hc 4 (by omega); rwa [add_plain] at this
    · have := hc 5 (by omega); rwa [add_plain] at this
    · have := hc 6 (by omega); rwa [add_plain] at this

end

end Go.Proofs.Qxb6628412a
