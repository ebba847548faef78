import Derived.Test.Qxb6628363aRows
import Derived.WalkKit
import Derived.WalkSpells
import Derived.WalkLawsBesides
import Derived.Deep.LoopGhost
import Derived.Deep.OwnRows
import Derived.BigQuiet
import Derived.Laws.BitsAllLaws
namespace Go.Proofs.Qxb6628363a
open Go.RowKit Go.Deep

/-! ### the bits of a time's first word -/
theorem and30 (x : Int) (h0 : 0 ≤ x) (h1 : x < 1073741824) : bits .and .u64 x 1073741823 = x := by
  rw [u64_and x 1073741823 h0 (by omega) (by omega) (by omega)]
  rw [show (1073741823 : Int).toNat = 2 ^ 30 - 1 from rfl, Nat.and_two_pow_sub_one_eq_mod, Nat.mod_eq_of_lt (by omega)]
  omega

theorem and_top_nat (n : Nat) (h : n < 1073741824) : n &&& 9223372036854775808 = 0 := by
  rw [show (9223372036854775808 : Nat) = 2 ^ 63 from rfl]
  apply Nat.eq_of_testBit_eq
  intro i
  rw [Nat.testBit_and, Nat.testBit_two_pow, Nat.zero_testBit]
  by_cases e : 63 = i
  · subst e; rw [Nat.testBit_lt_two_pow (by omega)]; rfl
  · simp [e]

theorem and_top (x : Int) (h0 : 0 ≤ x) (h1 : x < 1073741824) : bits .and .u64 x 9223372036854775808 = 0 := by
  rw [u64_and x 9223372036854775808 h0 (by omega) (by omega) (by omega)]
  rw [show (9223372036854775808 : Int).toNat = 9223372036854775808 from rfl, and_top_nat _ (by omega)]
  rfl

theorem and_and_top (x y : Int) (h0 : 0 ≤ x) (h1 : x < 1073741824) (h2 : 0 ≤ y) (h3 : y < 1073741824) : bits .and .u64 (bits .and .u64 x y) 9223372036854775808 = 0 := by
  have hle : x.toNat &&& y.toNat ≤ x.toNat := Nat.and_le_left
  rw [u64_and x y h0 (by omega) h2 (by omega)]
  exact and_top _ (by omega) (by omega)

theorem or_zero (y : Int) (h0 : 0 ≤ y) (h1 : y < 1073741824) : bits .or .u64 0 y = y := by
  rw [u64_or 0 y (by omega) (by omega) h0 (by omega)]
  simp
  omega

theorem andNot_zero : bits .andNot .u64 0 1073741823 = 0 := by decide +kernel

theorem ret_bool {a b : Bool} (h : a = b) : Ending.returned (.bool a) = .returned (.bool b) := by rw [h]
theorem ret_int {k : IntKind} {a b : Int} (h : a = b) : Ending.returned (.int k a) = .returned (.int k b) := by rw [h]

set_option maxHeartbeats 400000 in
theorem nsec_any (b o : Nat) (x : Int) (w : World) (h : w.cell? ⟨b, o, none⟩ = some (.int .u64 x)) (h0 : 0 ≤ x) (h1 : x < 1000000000) :
    Calls Try.prog 16 #[.pointer (some ⟨b, o, none⟩)] w fun e w' => e = .returned (.int .i32 x) ∧ w' = w := by
  go_enter Try.func16, Try.ntmps16
  go_wp2
  go_ret
  exact ⟨ret_int (by show wrap32 (bits BinOp.and IntKind.u64 x 1073741823) = x; rw [and30 x h0 (by omega)]; unfold wrap32; omega), rfl⟩

set_option maxHeartbeats 400000 in
theorem sec_any (b o : Nat) (x y : Int) (w : World) (h : w.cell? ⟨b, o, none⟩ = some (.int .u64 x)) (hy : w.cell? ⟨b, o + 1, none⟩ = some (.int .i64 y)) (h0 : 0 ≤ x) (h1 : x < 1000000000) :
    Calls Try.prog 21 #[.pointer (some ⟨b, o, none⟩)] w fun e w' => e = .returned (.int .i64 y) ∧ w' = w := by
  have ht : (bits BinOp.and IntKind.u64 x 9223372036854775808 != 0) = false := by rw [and_top x h0 (by omega)]; rfl
  go_enter Try.func21, Try.ntmps21
  go_wp2
  go_ret
  exact ⟨rfl, rfl⟩

set_option maxRecDepth 100000 in
set_option maxHeartbeats 400000 in
theorem addSec_any (b o : Nat) (x d : Int) (w : World) (hc : w.cell? ⟨b, o, none⟩ = some (.int .u64 x)) (hy : w.cell? ⟨b, o + 1, none⟩ = some (.int .i64 0)) (hf : w.frozen? ⟨b, o + 1, none⟩ = false) (h0 : 0 ≤ x) (h1 : x < 1000000000) (h2 : -9223372037 ≤ d) (h3 : d ≤ 9223372037) :
    Calls Try.prog 17 #[.pointer (some ⟨b, o, none⟩), .int .i64 d] w fun e w' => e = .returned (.tuple #[]) ∧ w' = w.setCell ⟨b, o + 1, none⟩ (.int .i64 d) := by
  have ht : (bits BinOp.and IntKind.u64 x 9223372036854775808 != 0) = false := by rw [and_top x h0 (by omega)]; rfl
  go_enter Try.func17, Try.ntmps17
  go_wp2
  go_end0
  exact ⟨rfl, rfl⟩

set_option maxRecDepth 100000 in
set_option maxHeartbeats 400000 in
theorem add_pos (d : Int) (w : World) (h0 : 0 ≤ d) (h1 : d ≤ 9223372036854775807) :
    Calls Try.prog 13 #[.agg #[.int .u64 0, .int .i64 0, .pointer none], .int .i64 d] w fun e w' => e = .returned (.agg #[.int .u64 (d % 1000000000), .int .i64 (d / 1000000000), .pointer none]) ∧ Below w.heap.size w w' := by
  go_enter Try.func13, Try.ntmps13
  go_wp2_with fail
  refine (nsec_any _ _ 0 _ ?_ (by omega) (by omega)).mono ?_
  · go_simp
  rintro e w' ⟨rfl, hw⟩
  subst hw
  have hq1 : (0 : Int) ≤ d % 1000000000 := by omega
  have hq2 : d % 1000000000 < 1000000000 := by omega
  have ht : (bits BinOp.and IntKind.u64 (d % 1000000000) 9223372036854775808 != 0) = false := by rw [and_top _ hq1 (by omega)]; rfl
  go_wp2_with fail
  rw [andNot_zero, or_zero _ hq1 (by omega)]
  refine (addSec_any w.heap.size 0 (d % 1000000000) (d / 1000000000) _ ?_ ?_ ?_ hq1 hq2 (by omega) (by omega)).mono ?_
  · go_simp
  · go_simp
  · go_simp
  rintro e w' ⟨rfl, hw⟩
  subst hw
  go_wp2
  exact bodyPost_ret (v := .agg #[.int .u64 (d % 1000000000), .int .i64 (d / 1000000000), .pointer none]) (by simp [results, Try.results13, go_sem]) rfl ⟨rfl, ((Below.refl _ _).alloc (Nat.le_refl _) _).alloc (by simp) _⟩

theorem quo_rem (d : Int) (h : d < 0) : ∃ q r : Int, d.tdiv 1000000000 = q ∧ d.tmod 1000000000 = r ∧ d = q * 1000000000 + r ∧ -1000000000 < r ∧ r ≤ 0 := by
  have e1 : d.tdiv 1000000000 = -((-d) / 1000000000) := by
    have := Int.neg_tdiv (a := -d) (b := 1000000000)
    rw [Int.neg_neg] at this
    rw [this, Int.tdiv_eq_ediv_of_nonneg (by omega)]
  have e2 : d.tmod 1000000000 = -((-d) % 1000000000) := by
    have := Int.neg_tmod (a := -d) (b := 1000000000)
    rw [Int.neg_neg] at this
    rw [this, Int.tmod_eq_emod_of_nonneg (by omega)]
  exact ⟨_, _, e1, e2, by omega, by omega, by omega⟩

set_option maxRecDepth 100000 in
set_option maxHeartbeats 400000 in
theorem add_neg (d : Int) (w : World) (h0 : -9223372036854775808 ≤ d) (h1 : d < 0) :
    Calls Try.prog 13 #[.agg #[.int .u64 0, .int .i64 0, .pointer none], .int .i64 d] w fun e w' => e = .returned (.agg #[.int .u64 (d % 1000000000), .int .i64 (d / 1000000000), .pointer none]) ∧ Below w.heap.size w w' := by
  obtain ⟨q, r, hq, hr, hd, hr0, hr1⟩ := quo_rem d h1
  by_cases hz : r = 0
  · subst hz
    have HD : Hid (d % 1000000000 = 0 ∧ d / 1000000000 = q) := ⟨by omega, by omega⟩
    have hq0 : -9223372037 ≤ q := by omega
    have hq1 : q ≤ 0 := by omega
    have ht : (bits BinOp.and IntKind.u64 0 9223372036854775808 != 0) = false := by rw [and_top _ (by omega) (by omega)]; rfl
    clear hd hr0 hr1
    go_enter Try.func13, Try.ntmps13
    go_wp2_with fail
    refine (nsec_any _ _ 0 _ ?_ (by omega) (by omega)).mono ?_
    · go_simp
    rintro e w' ⟨rfl, hw⟩
    subst hw
    go_wp2_with fail
    rw [andNot_zero, or_zero _ (by omega) (by omega)]
    refine (addSec_any w.heap.size 0 0 q _ ?_ ?_ ?_ (by omega) (by omega) (by omega) (by omega)).mono ?_
    · go_simp
    · go_simp
    · go_simp
    rintro e w' ⟨rfl, hw⟩
    subst hw
    go_wp2
    refine bodyPost_ret (v := .agg #[.int .u64 0, .int .i64 q, .pointer none]) (by simp [results, Try.results13, go_sem]) rfl ⟨by rw [HD.out.1, HD.out.2], ((Below.refl _ _).alloc (Nat.le_refl _) _).alloc (by simp) _⟩
  · have HD : Hid (d % 1000000000 = r + 1000000000 ∧ d / 1000000000 = q - 1) := ⟨by omega, by omega⟩
    have hq0 : -9223372036 ≤ q := by omega
    have hq1 : q ≤ 0 := by omega
    have hr2 : r < 0 := by omega
    have ht : (bits BinOp.and IntKind.u64 (r + 1000000000) 9223372036854775808 != 0) = false := by rw [and_top _ (by omega) (by omega)]; rfl
    clear hd hr1 hz
    go_enter Try.func13, Try.ntmps13
    go_wp2_with fail
    refine (nsec_any _ _ 0 _ ?_ (by omega) (by omega)).mono ?_
    · go_simp
    rintro e w' ⟨rfl, hw⟩
    subst hw
    go_wp2_with fail
    rw [andNot_zero, or_zero _ (by omega) (by omega)]
    refine (addSec_any w.heap.size 0 (r + 1000000000) (q - 1) _ ?_ ?_ ?_ (by omega) (by omega) (by omega) (by omega)).mono ?_
    · go_simp
    · go_simp
    · go_simp
    rintro e w' ⟨rfl, hw⟩
    subst hw
    go_wp2
    refine bodyPost_ret (v := .agg #[.int .u64 (r + 1000000000), .int .i64 (q - 1), .pointer none]) (by simp [results, Try.results13, go_sem]) rfl ⟨by rw [HD.out.1, HD.out.2], ((Below.refl _ _).alloc (Nat.le_refl _) _).alloc (by simp) _⟩

/-- The time that lies d nanoseconds behind the zero time. -/
def tm (d : Int) : Value := .agg #[.int .u64 (d % 1000000000), .int .i64 (d / 1000000000), .pointer none]

theorem add_any (d : Int) (w : World) (h0 : -9223372036854775808 ≤ d) (h1 : d ≤ 9223372036854775807) :
    Calls Try.prog 13 #[.agg #[.int .u64 0, .int .i64 0, .pointer none], .int .i64 d] w fun e w' => e = .returned (.agg #[.int .u64 (d % 1000000000), .int .i64 (d / 1000000000), .pointer none]) ∧ Below w.heap.size w w' := by
  by_cases h : 0 ≤ d
  · exact add_pos d w h h1
  · exact add_neg d w h0 (by omega)

/-! ### After -/
set_option maxRecDepth 100000 in
set_option maxHeartbeats 400000 in
theorem after_any (a b : Int) (w : World) :
    Calls Try.prog 20 #[.agg #[.int .u64 (a % 1000000000), .int .i64 (a / 1000000000), .pointer none], .agg #[.int .u64 (b % 1000000000), .int .i64 (b / 1000000000), .pointer none]] w fun e w' => e = .returned (.bool (decide (b < a))) ∧ Below w.heap.size w w' := by
  have ht : (bits BinOp.and IntKind.u64 (bits BinOp.and IntKind.u64 (a % 1000000000) (b % 1000000000)) 9223372036854775808 != 0) = false := by rw [and_and_top _ _ (by omega) (by omega) (by omega) (by omega)]; rfl
  have key : decide (b < a) = (decide (b / 1000000000 < a / 1000000000) || ((a / 1000000000 == b / 1000000000) && decide (b % 1000000000 < a % 1000000000))) := by
    rw [Bool.eq_iff_iff]
    simp
    omega
  have a0 : 0 ≤ a % 1000000000 := by omega
  have a1 : a % 1000000000 < 1000000000 := by omega
  have b0 : 0 ≤ b % 1000000000 := by omega
  have b1 : b % 1000000000 < 1000000000 := by omega
  rw [key]
  clear key
  generalize a % 1000000000 = an at *
  generalize a / 1000000000 = asx at *
  generalize b % 1000000000 = bn at *
  generalize b / 1000000000 = bsx at *
  have hbel : Below w.heap.size w ((w.alloc (Obj.cells #[Value.int IntKind.u64 an, Value.int IntKind.i64 asx, Value.pointer none] 36)).alloc (Obj.cells #[Value.int IntKind.u64 bn, Value.int IntKind.i64 bsx, Value.pointer none] 36)) := ((Below.refl _ _).alloc (Nat.le_refl _) _).alloc (by simp) _
  have HB : Hid (Below w.heap.size w ((w.alloc (Obj.cells #[Value.int IntKind.u64 an, Value.int IntKind.i64 asx, Value.pointer none] 36)).alloc (Obj.cells #[Value.int IntKind.u64 bn, Value.int IntKind.i64 bsx, Value.pointer none] 36))) := hbel
  clear hbel
  go_enter Try.func20, Try.ntmps20
  go_wp2_with fail
  refine (sec_any w.heap.size 0 an asx _ ?_ ?_ a0 a1).mono ?_
  · go_simp
  · go_simp
  rintro e w' ⟨rfl, hw⟩
  subst hw
  go_wp2_with fail
  refine (sec_any (w.heap.size + 1) 0 bn bsx _ ?_ ?_ b0 b1).mono ?_
  · go_simp
  · go_simp
  rintro e w' ⟨rfl, hw⟩
  subst hw
  by_cases h1 : bsx < asx
  · have d1 : decide (bsx < asx) = true := by simpa using h1
    clear h1
    go_wp2
    go_ret
    exact ⟨ret_bool (by rw [d1]; rfl), HB.out⟩
  · have d1 : decide (bsx < asx) = false := by simpa using h1
    by_cases h2 : asx = bsx
    · have d2 : (asx == bsx) = true := by simpa using h2
      clear h1 h2
      go_wp2_with fail
      refine (nsec_any w.heap.size 0 an _ ?_ a0 a1).mono ?_
      · go_simp
      rintro e w' ⟨rfl, hw⟩
      subst hw
      go_wp2_with fail
      refine (nsec_any (w.heap.size + 1) 0 bn _ ?_ b0 b1).mono ?_
      · go_simp
      rintro e w' ⟨rfl, hw⟩
      subst hw
      go_wp2
      go_ret
      exact ⟨ret_bool (by rw [d1, d2]; simp), HB.out⟩
    · have d2 : (asx == bsx) = false := by simpa using h2
      clear h1 h2
      go_wp2
      go_ret
      exact ⟨ret_bool (by rw [d1, d2]; rfl), HB.out⟩

end Go.Proofs.Qxb6628363a
