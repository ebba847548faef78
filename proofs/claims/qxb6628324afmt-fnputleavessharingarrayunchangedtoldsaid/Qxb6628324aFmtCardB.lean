import Derived.Test.Qxb6628324aFmtCards
import Derived.Test.Qxb6628324aFmtLawB
import Derived.ProofKit
import Derived.OpenShut
import Derived.ChangeOld
import Derived.Deep.Matrix
import Derived.Stop.JoinedTold
import Derived.SevenToldRow
namespace Go.Proofs.Qxb6628324aFmt
open Go.ChangeShapes Go.WideShapes Go.ChangeAt Go.RowKit Go.Deep
set_option linter.unusedVariables false

theorem own : ownKnob Tryf.prog.godebug = none := by kernel_rfl
theorem laidOut : laidOutB Tryf.prog = true := by kernel_rfl
theorem cells24 : Tryf.prog.cellsOf 24 = 1 := by kernel_rfl
theorem cells5 : Tryf.prog.cellsOf 5 = 1 := by kernel_rfl
theorem stops : Tryf.pinned.checked.prog.stops = ["fmt.Sprintf"] := by kernel_rfl
theorem stopKnobs : Tryf.pinned.checked.prog.stopKnobs = [] := by kernel_rfl
theorem quiet (os : Os) : Stop.quiet Tryf.pinned.checked.prog os := by
  intro k hk
  rw [stopKnobs] at hk
  cases hk

/-- A cell that is there has no spot. -/
theorem spot_none {w : World} {a : Addr} {v : Value} (h : w.cell? a = some v) : a.spot = none := by
  unfold World.cell? at h
  cases e : a.spot with
  | none => rfl
  | some s =>
    rw [e] at h
    split at h <;> simp at h

theorem addr_plain {w : World} {a : Addr} {v : Value} (h : w.cell? (a.add 0) = some v) : ∃ b o, a = ⟨b, o, none⟩ := by
  have hs := spot_none h
  obtain ⟨b, o, s⟩ := a
  exact ⟨b, o, by simp [Addr.add] at hs; rw [hs]⟩

theorem isBytes_of {w : World} {a : Addr} {n : Nat} {z : List Int} (h : ∀ c, c < n → w.cell? (a.add c) = some (.int .u8 (z.getD c 0))) : IsBytes w (some a) n (fun j => z.getD j 0) := by
  intro j hj
  have hc := h j hj
  obtain ⟨b, o, rfl⟩ := addr_plain (h 0 (by omega))
  rw [add_plain] at hc
  exact ⟨b, o, rfl, hc⟩

section
variable {H : Type} {enc : TypeId × Value → H} {W : World} {base : Nat}

theorem open_bytes {fuel : Nat} {a : Option Addr} {n c : Nat} {x : DataW H × List MemPlace} (h : DataW.trod enc Tryf.prog W base (fun _ => true) true fuel 24 (Value.slice a n c).cells.toList = some x) :
    ∃ Z, IsBytes W a n Z ∧ (a = none → n = 0 ∧ c = 0) ∧ n ≤ 9223372036854775807 := by
  rcases open_ints Tryf.underlying24 Tryf.underlying5 cells5 h with ⟨hcs, _⟩ | ⟨x, l, c', zs, hcs, _, hl, hm, hz, _, hcell, hwz⟩
  · simp [Value.cells] at hcs
    obtain ⟨rfl, rfl, rfl⟩ := hcs
    exact ⟨fun _ => 0, fun j hj => absurd hj (Nat.not_lt_zero _), fun _ => ⟨rfl, rfl⟩, by omega⟩
  · simp [Value.cells] at hcs
    obtain ⟨rfl, rfl, rfl⟩ := hcs
    simp only [if_true] at hz
    unfold maxLen at hm
    refine ⟨fun j => zs.getD j 0, isBytes_of (fun i hi => hcell i (by omega)), (fun h => by cases h), by omega⟩

theorem open_chunks {fuel : Nat} {a : Option Addr} {n c : Nat} {x : DataW H × List MemPlace} (h : DataW.trod enc Tryf.prog W base (fun _ => true) true fuel 22 (Value.slice a n c).cells.toList = some x) :
    ∃ A L C Z, IsRows W a n A L C Z ∧ (a = none → n = 0 ∧ c = 0) ∧ n ≤ 9223372036854775807 := by
  rcases open_int_rows Tryf.underlying22 Tryf.underlying24 Tryf.underlying5 cells24 cells5 h with ⟨hcs, _⟩ | ⟨x, l, c', A, L, C, Z, hcs, _, hl, hm, _, hrows⟩
  · simp [Value.cells] at hcs
    obtain ⟨rfl, rfl, rfl⟩ := hcs
    exact ⟨fun _ => none, fun _ => 0, fun _ => 0, fun _ _ => 0, ⟨fun r hr => absurd hr (Nat.not_lt_zero _), fun r hr => absurd hr (Nat.not_lt_zero _), fun r hr => absurd hr (Nat.not_lt_zero _), fun r hr => absurd hr (Nat.not_lt_zero _)⟩, fun _ => ⟨rfl, rfl⟩, by omega⟩
  · simp [Value.cells] at hcs
    obtain ⟨rfl, rfl, rfl⟩ := hcs
    unfold maxLen at hm
    refine ⟨A, L, C, fun r j => (Z r).getD j 0, ⟨fun r hr => ?_, fun r hr => ?_, fun r hr h => ?_, fun r hr j hj => ?_⟩, (fun h => by cases h), by omega⟩
    all_goals obtain ⟨h1, h2, h3, h4, h5, h6, h7⟩ := hrows r (by omega)
    · obtain ⟨b, o, rfl⟩ := addr_plain (hrows 0 (by omega)).1
      rw [add_plain] at h1
      exact ⟨b, o, rfl, h1⟩
    · unfold maxLen at h3; omega
    · have := h6 h; omega
    · cases hA : A r with
      | none => have := h6 hA; omega
      | some ar => exact isBytes_of (fun c hc => (h7 ar hA).2 c (by omega)) j hj

end

theorem int_bd {n : Int} (h : (Lit.int .i64 n).wf = true) : -9223372036854775808 ≤ n ∧ n ≤ 9223372036854775807 := by
  simp [Lit.wf, IntKind.min, IntKind.max, IntKind.signed, IntKind.bits] at h
  omega

set_option maxRecDepth 100000 in
theorem liftedB (os : Os) (started : os.Started) (H : Type) (enc : TypeId × Value → H) :
    ReturnsInTold none {} Tryf.checked os 4 .any Input.okWide ((OpenSpec.ofChange Rows.fnPutLeavesSharingArrayUnchangedSpec).preRow enc Tryf.prog Tryf.f4 [] false [])
      (fun F => ((OpenSpec.ofChange Rows.fnPutLeavesSharingArrayUnchangedSpec).at F).post enc Tryf.prog Tryf.f4 false true false false) (aloneAtReturn Tryf.prog) nothingAlways := by
  refine returnsInTold_of_row (C := Tryf.checked) (s := OpenSpec.ofChange Rows.fnPutLeavesSharingArrayUnchangedSpec) (by kernel_rfl) own started (by kernel_rfl) Tryf.func4
    (OpenSpec.witness_stopped (enc := enc) (C := Tryf.checked) false ⟨#[], #[.int .i64 0, .slice none 0 0, .int .i64 0, .slice none 0 0], []⟩ 8 (by kernel_rfl) (by kernel_rfl) (by kernel_rfl) (by kernel_rfl)) ?_
  intro F W base args ds gs before _ hF hval0 hW _ _ _ _ _
  have hval : ∀ (j : Nat) t v, Tryf.f4.params[j]? = some t → args[j]? = some v → Value.okWide Tryf.prog W .any base t v := hval0
  have hW' := hW
  obtain ⟨p, q, hA0, hV, rfl, hfz, hnd⟩ := hW
  have hA : DataW.TrodAll enc Tryf.prog W 0 (fun _ => true) true Tryf.f4.params.toList args.toList ds p := hA0
  rw [Tryf.params4] at hA hval
  obtain ⟨v0, vs0, d0, ds0, p0, q0, hargs, rfl, rfl, h0, r0⟩ := trodAll_cons hA
  obtain ⟨v1, vs1, d1, ds1, p1, q1, rfl, rfl, rfl, h1, r1⟩ := trodAll_cons r0
  obtain ⟨v2, vs2, d2, ds2, p2, q2, rfl, rfl, rfl, h2, r2⟩ := trodAll_cons r1
  obtain ⟨v3, vs3, d3, ds3, p3, q3, rfl, rfl, rfl, h3, r3⟩ := trodAll_cons r2
  obtain ⟨rfl, rfl, rfl⟩ := trodAll_nil r3
  obtain rfl : args = #[v0, v1, v2, v3] := by cases args; simp_all
  obtain ⟨rfl, rfl⟩ := trodVars_none hV
  obtain ⟨a0, rfl, rfl, rfl, w0⟩ := open_int Tryf.underlying2 (hval 0 2 v0 rfl rfl) h0
  obtain ⟨a1, len1, cap1, rfl⟩ := okWide_slice Tryf.underlying22 (hval 1 22 v1 rfl rfl)
  have k1 := h1
  have lt1 : ∀ x ∈ p1, x.block < W.heap.size := by obtain ⟨m, hm⟩ := k1; exact DataW.trod_lt m _ _ _ hm
  obtain ⟨A, L, C, Z, hrows, hna, hn⟩ : ∃ A L C Z, IsRows W a1 len1 A L C Z ∧ (a1 = none → len1 = 0 ∧ cap1 = 0) ∧ len1 ≤ 9223372036854775807 := by obtain ⟨m, hm⟩ := h1; exact open_chunks hm
  obtain ⟨a2, rfl, rfl, rfl, w2⟩ := open_int Tryf.underlying2 (hval 2 2 v2 rfl rfl) h2
  obtain ⟨a3, len3, cap3, rfl⟩ := okWide_slice Tryf.underlying24 (hval 3 24 v3 rfl rfl)
  have k3 := h3
  have lt3 : ∀ x ∈ p3, x.block < W.heap.size := by obtain ⟨m, hm⟩ := k3; exact DataW.trod_lt m _ _ _ hm
  obtain ⟨P, hp, hnp, hpn⟩ : ∃ P, IsBytes W a3 len3 P ∧ (a3 = none → len3 = 0 ∧ cap3 = 0) ∧ len3 ≤ 9223372036854775807 := by obtain ⟨m, hm⟩ := h3; exact open_bytes hm
  clear hA0 hval0
  refine (law4_walk W a0 a2 a1 len1 cap1 A L C Z a3 len3 cap3 P hrows hp hna hnp hn hpn (int_bd w0).1 (int_bd w0).2 (int_bd w2).1 (int_bd w2).2).mono fun e W' ⟨he, bel⟩ => ?_
  subst he
  exact ⟨_, rfl, _, _, _, [], _, [], hW', trodAll_mk1 (shut_bool Tryf.underlying4 _),
    (trodAll_cons_mk (shut_int Tryf.underlying2 w0) (trodAll_cons_mk (Below.trod laidOut (by kernel_rfl) (of_decide_eq_true (by kernel_rfl)) k1 bel lt1) (trodAll_cons_mk (shut_int Tryf.underlying2 w2) (trodAll_cons_mk (Below.trod laidOut (by kernel_rfl) (of_decide_eq_true (by kernel_rfl)) k3 bel lt3) trodAll_mk0)))), rfl, bel.frame _, fun h => by cases h⟩

theorem leavesSharing_told : Rows.FnPutLeavesSharingArrayUnchangedToldSaid :=
  Claim7.holds_of_told_any 4 Tryf.f4 "fmt.Sprintf" [] [] _ _ _ (by kernel_rfl) rfl rfl rfl laidOut (by kernel_rfl) rfl ⟨rfl, rfl, rfl, rfl, rfl, rfl, rfl⟩ rfl rfl (by kernel_rfl) (by kernel_rfl) Tryf.func4 (by kernel_rfl)
    (of_decide_eq_true (by kernel_rfl)) (of_decide_eq_true (by kernel_rfl)) stops.symm rfl stopKnobs.symm (by kernel_rfl)
    (by kernel_rfl) (by kernel_rfl) (by kernel_rfl) (by kernel_rfl) (by kernel_rfl) (by kernel_rfl) (by kernel_rfl) (by kernel_rfl) (by kernel_rfl) rfl (by kernel_rfl) rfl rfl
    rfl rfl
    rfl (by kernel_rfl) (by kernel_rfl) (by kernel_rfl) (by decide) (by kernel_rfl)
    (OpenClaim.moreEntering_of (by kernel_rfl) (by kernel_rfl) (by kernel_rfl) (by kernel_rfl) (by kernel_rfl) (by kernel_rfl) (by kernel_rfl) (by kernel_rfl) (by kernel_rfl) (by kernel_rfl))
    ⟨_, WideRow.started_initial, quiet _⟩
    (fun os started _ H enc _ => liftedB os started H enc)

end Go.Proofs.Qxb6628324aFmt
