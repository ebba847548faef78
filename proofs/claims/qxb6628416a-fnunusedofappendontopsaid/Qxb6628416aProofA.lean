import Derived.Test.Qxb6628416aOpen
import Derived.Test.Qxb6628416aWalkA
import Derived.Test.Qxb6628416aWalkN
namespace Go.Proofs.Qxb6628416a
open Go.ChangeShapes Go.WideShapes Go.ChangeAt Go.RowKit Go.Deep
set_option linter.unusedVariables false

theorem lawA_any (w : World) (name : ByteArray) (a : Option Addr) (n c : Nat) (S : Nat → Nat → Int) (x y z : Int) (h : IsSegs w a n S) (ha : a = none → n = 0 ∧ c = 0) (hn : n ≤ 9223372036854775807) :
    Calls Try.prog 3 #[.string name, .slice a n c, .agg #[.int .i64 x, .int .i64 y, .int .i64 z]] w fun e w' => e = .returned (.bool true) ∧ Below w.heap.size w w' := by
  cases a with
  | none =>
    obtain ⟨rfl, rfl⟩ := ha rfl
    exact lawA_nil w name x y z
  | some ad => exact lawA_some w name ad n c S x y z h hn

set_option maxRecDepth 100000 in
theorem liftedA (os : Os) (started : os.Started) (H : Type) (enc : TypeId × Value → H) :
    ReturnsInHanded {} Try.checked os 3 .any (Rows.fnUnusedOfAppendOnTopSpec.pre6 enc Try.prog Try.f3 Rows.fnUnusedOfAppendOnTopRow.domain false) (Rows.fnUnusedOfAppendOnTopSpec.post enc Try.prog Try.f3 false true false false) := by
  refine returnsInHanded_of_change (C := Try.checked) own started (by kernel_rfl) Try.func3
    (ChangeSpec.witness6 (enc := enc) (C := Try.checked) false ⟨#[], #[.string { data := #[] }, .slice none 0 0, .agg #[.int .i64 0, .int .i64 0, .int .i64 0]], []⟩ 8 (by kernel_rfl) (by kernel_rfl) (by kernel_rfl) (by kernel_rfl)) ?_
  intro W base args ds gs before hval0 hW hcnd _
  have hval : ∀ (j : Nat) t v, Try.f3.params[j]? = some t → args[j]? = some v → Value.okWide Try.prog W .any base t v := hval0
  have hW' := hW
  obtain ⟨p, q, hA0, hV, rfl, hfz, hnd⟩ := hW
  have hA : DataW.TrodAll enc Try.prog W 0 (fun _ => true) true Try.f3.params.toList args.toList ds p := hA0
  rw [Try.params3] at hA hval
  obtain ⟨v0, vs0, d0, ds0, p0, q0, hargs, rfl, rfl, h0, r0⟩ := trodAll_cons hA
  obtain ⟨v1, vs1, d1, ds1, p1, q1, rfl, rfl, rfl, h1, r1⟩ := trodAll_cons r0
  obtain ⟨v2, vs2, d2, ds2, p2, q2, rfl, rfl, rfl, h2, r2⟩ := trodAll_cons r1
  obtain ⟨rfl, rfl, rfl⟩ := trodAll_nil r2
  obtain rfl : args = #[v0, v1, v2] := by cases args; simp_all
  obtain ⟨rfl, rfl⟩ := trodVars_none hV
  have lt0 : ∀ x ∈ p0, x.block < W.heap.size := by obtain ⟨m, hm⟩ := h0; exact DataW.trod_lt m _ _ _ hm
  have lt1 : ∀ x ∈ p1, x.block < W.heap.size := by obtain ⟨m, hm⟩ := h1; exact DataW.trod_lt m _ _ _ hm
  have lt2 : ∀ x ∈ p2, x.block < W.heap.size := by obtain ⟨m, hm⟩ := h2; exact DataW.trod_lt m _ _ _ hm
  obtain ⟨name, rfl⟩ := okWide_string Try.underlying9 (hval 0 9 v0 rfl rfl)
  obtain ⟨a1, len1, cap1, rfl⟩ := okWide_slice Try.underlying22 (hval 1 22 v1 rfl rfl)
  obtain ⟨S, hS, hnil, hn1⟩ : ∃ S, IsSegs W a1 len1 S ∧ (a1 = none → len1 = 0 ∧ cap1 = 0) ∧ len1 ≤ 9223372036854775807 := by obtain ⟨m, hm⟩ := h1; exact open_segs hm
  obtain ⟨cs, rfl, _⟩ := okWide_tri (hval 2 23 v2 rfl rfl)
  obtain ⟨x, y, z, rfl⟩ : ∃ a b c : Int, cs = #[.int .i64 a, .int .i64 b, .int .i64 c] := by obtain ⟨m, hm⟩ := h2; exact open_tri hm
  clear hA0 hval0
  refine (lawA_any W name a1 len1 cap1 S x y z hS hnil hn1).mono fun e W' ⟨he, bel⟩ => ?_
  subst he
  exact ⟨_, rfl, _, _, _, [], _, [], hW', trodAll_mk1 (shut_bool Try.underlying4 _), (trodAll_cons_mk (Below.trod laidOut (by kernel_rfl) (of_decide_eq_true (by kernel_rfl)) h0 bel lt0) (trodAll_cons_mk (Below.trod laidOut (by kernel_rfl) (of_decide_eq_true (by kernel_rfl)) h1 bel lt1) (trodAll_cons_mk (Below.trod laidOut (by kernel_rfl) (of_decide_eq_true (by kernel_rfl)) h2 bel lt2) trodAll_mk0))), rfl, bel.frame _, fun h => by cases h⟩

theorem appendOnTop_proved : Rows.FnUnusedOfAppendOnTopSaid :=
  OpenClaim.holds_of_wide 3 Try.f3 rfl rfl rfl rfl rfl rfl rfl ⟨rfl, rfl, rfl, rfl, rfl⟩ rfl rfl rfl rfl rfl (by kernel_rfl) Try.func3 (by kernel_rfl)
    (of_decide_eq_true (by kernel_rfl)) (by unfold Func.isWrapper; first | (rw [if_pos (by decide +kernel)]; kernel_rfl) | (rw [if_neg (by decide +kernel)]; exact ⟨rfl, rfl⟩))
    (fun os started H enc _ => liftedA os started H enc)

end Go.Proofs.Qxb6628416a
