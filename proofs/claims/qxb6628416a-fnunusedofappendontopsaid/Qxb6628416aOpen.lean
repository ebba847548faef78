import Derived.Test.Qxb6628416aBase
import Derived.ProofKit
import Derived.OpenShut
import Derived.ShutString
import Derived.ChangeOld
import Derived.Deep.Slices
namespace Go.Proofs.Qxb6628416a
open Go.ChangeShapes Go.WideShapes Go.ChangeAt Go.RowKit Go.Deep
set_option linter.unusedVariables false

theorem own : ownKnob Try.prog.godebug = none := by kernel_rfl
theorem laidOut : laidOutB Try.prog = true := by kernel_rfl
theorem cells2 : Try.prog.cellsOf 2 = 1 := by kernel_rfl
theorem cells23 : Try.prog.cellsOf 23 = 3 := by kernel_rfl

theorem spot_none {w : World} {a : Addr} {v : Value} (h : w.cell? a = some v) : a.spot = none := by
  unfold World.cell? at h
  cases e : a.spot with
  | none => rfl
  | some s =>
    rw [e] at h
    split at h <;> simp at h

theorem addr_plain {w : World} {a : Addr} {v : Value} (h : w.cell? (a.add 0) = some v) : ∃ b o, a = ⟨b, o, none⟩ := by
  have hs := spot_none h
  obtain ⟨b, o, s⟩ := a
  exact ⟨b, o, by simp [Addr.add] at hs; rw [hs]⟩

theorem int_bd {n : Int} (h : (Lit.int .i64 n).wf = true) : -9223372036854775808 ≤ n ∧ n ≤ 9223372036854775807 := by
  simp [Lit.wf, IntKind.min, IntKind.max, IntKind.signed, IntKind.bits] at h
  omega

section
variable {H : Type} {enc : TypeId × Value → H} {W : World} {base : Nat}

theorem open_triple {sp : Nat → Bool} {hd : Bool} {fuel : Nat} {cs : List Value} {x : DataW H × List MemPlace} (h : DataW.trod enc Try.prog W base sp hd fuel 23 cs = some x) :
    ∃ a b c : Int, cs = [.int .i64 a, .int .i64 b, .int .i64 c] := by
  obtain ⟨xs, m, _, _, hl, hx, hf⟩ := DataW.trod_array Try.underlying23 h
  rw [cells23] at hl
  have f0 := hf 0 (by omega)
  have f1 := hf 1 (by omega)
  have f2 := hf 2 (by omega)
  rw [List.getElem?_eq_getElem (by omega), cells2] at f0 f1 f2
  match cs, hl with
  | [a, b, c], _ =>
  simp at f0 f1 f2
  obtain ⟨x0, e0, _⟩ := DataW.trod_int Try.underlying2 f0
  obtain ⟨x1, e1, _⟩ := DataW.trod_int Try.underlying2 f1
  obtain ⟨x2, e2, _⟩ := DataW.trod_int Try.underlying2 f2
  simp at e0 e1 e2
  subst e0 e1 e2
  exact ⟨x0, x1, x2, rfl⟩

def tri (a b c : Int) : Nat → Int := fun i => if i = 0 then a else if i = 1 then b else c

theorem open_segs {fuel : Nat} {a : Option Addr} {n c : Nat} {x : DataW H × List MemPlace} (h : DataW.trod enc Try.prog W base (fun _ => true) true fuel 22 (Value.slice a n c).cells.toList = some x) :
    ∃ S, IsSegs W a n S ∧ (a = none → n = 0 ∧ c = 0) ∧ n ≤ 9223372036854775807 := by
  rcases open_slice Try.underlying22 h with ⟨hcs, _⟩ | ⟨x, l, c', m, fu, D, Pl, hcs, _, hl, hm, hz, _, hel⟩
  · simp [Value.cells] at hcs
    obtain ⟨rfl, rfl, rfl⟩ := hcs
    exact ⟨fun _ _ => 0, fun j hj => absurd hj (Nat.not_lt_zero _), fun _ => ⟨rfl, rfl⟩, by omega⟩
  · simp [Value.cells] at hcs
    obtain ⟨rfl, rfl, rfl⟩ := hcs
    simp only [if_true] at hz
    unfold maxLen at hm
    rw [cells23] at hel
    have each : ∀ i, i < n → ∃ r : Nat → Int, ∀ j, j < 3 → W.cell? ((x.add (i * 3)).add j) = [Value.int .i64 (r 0), .int .i64 (r 1), .int .i64 (r 2)][j]? := fun i hi => by
      obtain ⟨cs', h1, h2⟩ := hel i (by omega)
      obtain ⟨p, q, r, rfl⟩ := open_triple h2
      obtain ⟨_, _, hcell⟩ := World.cells?_some h1
      exact ⟨tri p q r, hcell⟩
    obtain ⟨S, hS⟩ := @choose_lt (Nat → Int) ⟨fun _ => 0⟩ _ _ each
    refine ⟨S, fun i hi => ?_, (fun h => by cases h), by omega⟩
    have h00 := hS 0 (by omega) 0 (by omega)
    rw [Nat.zero_mul] at h00
    obtain ⟨b, o, rfl⟩ : ∃ b o, x = ⟨b, o, none⟩ := addr_plain (v := .int .i64 (S 0 0)) (by simpa [Addr.add] using h00)
    have hc := hS i hi
    refine ⟨b, o, rfl, ?_⟩
    rw [add_plain] at hc
    refine ⟨?_, ?_, ?_⟩
    · have := hc 0 (by omega); rwa [add_plain] at this
    · have := hc 1 (by omega); rwa [add_plain] at this
    · have := hc 2 (by omega); rwa [add_plain] at this

theorem okWide_tri {r : Reach} {v : Value} (h : Value.okWide Try.prog W r base 23 v) : ∃ cs, v = .agg cs ∧ cs.size = Try.prog.cellsOf 23 := by
  simp only [Value.okWide, Try.underlying23] at h
  obtain ⟨cs, h1, h2, _⟩ := h
  exact ⟨cs, h1, h2⟩

theorem open_tri {fuel : Nat} {cs : Array Value} {x : DataW H × List MemPlace} {sp : Nat → Bool} {hd : Bool} (h : DataW.trod enc Try.prog W base sp hd fuel 23 (Value.agg cs).cells.toList = some x) :
    ∃ a b c : Int, cs = #[.int .i64 a, .int .i64 b, .int .i64 c] := by
  obtain ⟨a, b, c, e⟩ := open_triple h
  refine ⟨a, b, c, ?_⟩
  have : cs.toList = [.int .i64 a, .int .i64 b, .int .i64 c] := e
  cases cs
  simp_all

end

end Go.Proofs.Qxb6628416a
