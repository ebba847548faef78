import Derived.Test.Qxb6628363aSmall
namespace Go.Proofs.Qxb6628363a
open Go.RowKit Go.Deep
set_option linter.unusedVariables false

set_option maxHeartbeats 400000 in
theorem sclone_zero (w : World) (a : Addr) (cap : Nat) :
    Calls Try.prog 19 #[.slice (some a) 0 cap] w fun e w' => e = .returned (.slice (some ⟨w.heap.size, 0, none⟩) 0 0) ∧ w' = w.alloc (.cells #[] 2) := by
  have q := q22e
  go_enter Try.func19, Try.ntmps19
  go_wp2
  go_ret
  exact ⟨rfl, rfl⟩

theorem sclone_use (w : World) (a : Option Addr) (n cap : Nat) (Z : Nat → Int) (h : IsInts w a n Z) (hn' : n ≤ 1048576) (ha : a = none → n = 0 ∧ cap = 0) :
    Calls Try.prog 19 #[.slice a n cap] w fun e w' => ∃ a' c', e = .returned (.slice a' n c') ∧ Below w.heap.size w w' ∧ (0 < n → ∃ g, a' = some ⟨g, 0, none⟩ ∧ w.heap.size ≤ g ∧ rowHas w' g 2 n (fun j => .int .i64 (Z j))) := by
  cases a with
  | none =>
    obtain ⟨rfl, rfl⟩ := ha rfl
    refine (sclone_nil w).mono ?_
    rintro e w' ⟨rfl, rfl⟩
    exact ⟨none, 0, rfl, Below.refl _ _, fun h => absurd h (Nat.not_lt_zero _)⟩
  | some a =>
    by_cases hn : 0 < n
    · refine (sclone_some w a n cap Z h hn hn').mono ?_
      rintro e w' ⟨g, c', rfl, h1, h2, h3⟩
      exact ⟨_, c', rfl, h2, fun _ => ⟨g, rfl, h1, h3⟩⟩
    · obtain rfl : n = 0 := by omega
      refine (sclone_zero w a cap).mono ?_
      rintro e w' ⟨rfl, rfl⟩
      exact ⟨_, 0, rfl, (Below.refl _ _).alloc (Nat.le_refl _) _, fun h => absurd h (Nat.not_lt_zero _)⟩

/-- A bool is returned; where it is true, p. -/
def RetB (e : Ending) (p : Prop) : Prop := ∃ b, e = .returned (.bool b) ∧ (b = true → p)
theorem retB_false {p : Prop} : RetB (.returned (.bool false)) p := ⟨_, rfl, fun h => by cases h⟩

set_option maxHeartbeats 1000000 in
theorem equal_any (w : World) (a b : Option Addr) (n ca cb : Nat) (X Y : Nat → Int) (ha : IsInts w a n X) (hb : IsInts w b n Y) (hn : n ≤ 1048576) (hXY : ∀ i, i < n → X i = Y i) :
    Calls Try.prog 11 #[.slice a n ca, .slice b n cb] w fun e w' => e = .returned (.bool true) ∧ ∃ m, w' = w.drewN m := by
  go_enter Try.func11, Try.ntmps11
  go_wp2
  go_loopg [5] n (fun g i wr => ∃ k m : Nat, k ≤ n ∧ g = n - k ∧ i = .int .i64 k ∧ wr = w.drewN m)
  case atStart => exact ⟨0, 0, Nat.zero_le _, rfl, rfl, rfl⟩
  case round =>
    obtain ⟨k, m, hk, rfl, rfl, hw⟩ := hrel
    by_cases hlt : k < n
    · obtain ⟨b1, o1, rfl, hc1⟩ := ha k hlt
      obtain ⟨b2, o2, rfl, hc2⟩ := hb k hlt
      have g1 : wr.cell? ⟨b1, o1 + k, none⟩ = some (.int .i64 (X k)) := by rw [hw]; exact hc1
      have g2 : wr.cell? ⟨b2, o2 + k, none⟩ = some (.int .i64 (Y k)) := by rw [hw]; exact hc2
      have ht : (X k != Y k) = false := by simp [hXY k hlt]
      have HW : Hid (wr = w.drewN m) := hw
      clear hw ha hb hc1 hc2 hXY
      go_wp2
      go_quiet (fail)
      go_wp2
      go_roundg (n - (k + 1))
      case measure => omega
      case rel => exact ⟨k + 1, _, by omega, rfl, by go_num, by rw [HW.out, World.drewN_drewN]⟩
    · have HW : Hid (wr = w.drewN m) := hw
      clear hw ha hb hXY
      go_wp2
      go_ret
      exact ⟨rfl, m, HW.out⟩

set_option maxHeartbeats 1000000 in
theorem zzBytes4_any (w : World) (d : Int) (a1 a2 a : Option Addr) (n1 c1 n2 c2 n c : Nat) (A : Nat → Option Addr) (L C : Nat → Nat) (Z : Nat → Nat → Int)
    (hr : IsRows w a n A L C Z) (hn1 : n1 ≤ 9223372036854775807) (hn2 : n2 ≤ 9223372036854775807) (hn : n ≤ 9223372036854775807) :
    Calls Try.prog 5 #[.slice a1 n1 c1, .slice a2 n2 c2, .slice a n c, .int .i64 d] w fun e w' => (∃ b, e = .returned (.bool b)) ∧ w' = w := by
  go_enter Try.func5, Try.ntmps5
  go_wp2
  all_goals first | (go_ret; exact ⟨⟨_, rfl⟩, rfl⟩) | skip
  go_loopg [9, 10] n (fun g t i wr => w = wr ∧ ∃ (k : Nat) (t' : Int), k ≤ n ∧ g = n - k ∧ i = .int .i64 k ∧ t = .int .i64 t' ∧ 0 ≤ t' ∧ t' ≤ 1048576)
  case atStart => exact ⟨rfl, 0, _, Nat.zero_le _, rfl, rfl, rfl, by omega, by omega⟩
  case round =>
    obtain ⟨rfl, k, t, hk, rfl, rfl, rfl, ht0, ht1⟩ := hrel
    by_cases hlt : k < n
    · obtain ⟨b, o, rfl, hc⟩ := hr.top k hlt
      have hl := hr.len k hlt
      clear hr
      go_wp2
      · go_ret
        exact ⟨⟨_, rfl⟩, rfl⟩
      · go_ret
        exact ⟨⟨_, rfl⟩, rfl⟩
      · go_roundg (n - (k + 1))
        case measure => omega
        case rel => exact ⟨rfl, k + 1, _, by omega, rfl, by go_num, rfl, by omega, by omega⟩
    · clear hr
      go_wp2
      all_goals (go_ret; exact ⟨⟨_, rfl⟩, rfl⟩)

set_option maxHeartbeats 1000000 in
theorem zzBytes5_any (w : World) (d d' : Int) (a1 a2 a : Option Addr) (n1 c1 n2 c2 n c : Nat) (A : Nat → Option Addr) (L C : Nat → Nat) (Z : Nat → Nat → Int)
    (hr : IsRows w a n A L C Z) (hn1 : n1 ≤ 9223372036854775807) (hn2 : n2 ≤ 9223372036854775807) (hn : n ≤ 9223372036854775807) :
    Calls Try.prog 12 #[.slice a1 n1 c1, .slice a2 n2 c2, .slice a n c, .int .i64 d, .int .i64 d'] w fun e w' => (∃ b, e = .returned (.bool b)) ∧ w' = w := by
  go_enter Try.func12, Try.ntmps12
  go_wp2
  all_goals first | (go_ret; exact ⟨⟨_, rfl⟩, rfl⟩) | skip
  go_loopg [11, 12] n (fun g t i wr => w = wr ∧ ∃ (k : Nat) (t' : Int), k ≤ n ∧ g = n - k ∧ i = .int .i64 k ∧ t = .int .i64 t' ∧ 0 ≤ t' ∧ t' ≤ 1048576)
  case atStart => exact ⟨rfl, 0, _, Nat.zero_le _, rfl, rfl, rfl, by omega, by omega⟩
  case round =>
    obtain ⟨rfl, k, t, hk, rfl, rfl, rfl, ht0, ht1⟩ := hrel
    by_cases hlt : k < n
    · obtain ⟨b, o, rfl, hc⟩ := hr.top k hlt
      have hl := hr.len k hlt
      clear hr
      go_wp2
      · go_ret
        exact ⟨⟨_, rfl⟩, rfl⟩
      · go_ret
        exact ⟨⟨_, rfl⟩, rfl⟩
      · go_roundg (n - (k + 1))
        case measure => omega
        case rel => exact ⟨rfl, k + 1, _, by omega, rfl, by go_num, rfl, by omega, by omega⟩
    · clear hr
      go_wp2
      all_goals (go_ret; exact ⟨⟨_, rfl⟩, rfl⟩)

/-- What zzWellFormed says where it says yes. -/
structure WF (gn dn n : Nat) (L : Nat → Nat) (D : Nat → Int) : Prop where
  eq : dn = n
  len : ∀ i, i < n → L i = gn
  inc : ∀ i, 1 ≤ i → i < dn → D (i - 1) < D i

set_option maxHeartbeats 1000000 in
theorem wf_any (w : World) (ag ad a : Option Addr) (gn gc dn dc n c : Nat) (A : Nat → Option Addr) (L C : Nat → Nat) (Z : Nat → Nat → Int) (D : Nat → Int)
    (hr : IsRows w a n A L C Z) (hd : IsInts w ad dn D) (hgn : gn ≤ 1048576) (hdn : dn ≤ 1048576) (hn : n ≤ 1048576) :
    Calls Try.prog 6 #[.slice ag gn gc, .slice ad dn dc, .slice a n c] w fun e w' => RetB e (WF gn dn n L D) ∧ ∃ m, w' = w.drewN m := by
  by_cases he : dn = n
  · subst he
    go_enter Try.func6, Try.ntmps6
    go_wp2
    go_loopg [7] dn (fun g i wr => w = wr ∧ ∃ k : Nat, k ≤ dn ∧ g = dn - k ∧ i = .int .i64 k ∧ ∀ i, i < k → L i = gn)
    case atStart => exact ⟨rfl, 0, Nat.zero_le _, rfl, rfl, fun i hi => absurd hi (Nat.not_lt_zero _)⟩
    case round =>
      obtain ⟨rfl, k, hk, rfl, rfl, hI⟩ := hrel
      have HI : Hid (∀ i, i < k → L i = gn) := hI
      clear hI
      by_cases hlt : k < dn
      · obtain ⟨b, o, rfl, hc⟩ := hr.top k hlt
        have hl := hr.len k hlt
        clear hr
        by_cases hlk : L k = gn
        · have ht : ((L k : Int) != (gn : Int)) = false := by simp [hlk]
          have HLK : Hid (L k = gn) := hlk
          clear hlk
          go_wp2
          go_roundg (dn - (k + 1))
          case measure => omega
          case rel =>
            refine ⟨rfl, k + 1, by omega, rfl, by go_num, fun i hi => ?_⟩
            by_cases e : i = k
            · subst e; exact HLK.out
            · exact HI.out i (by omega)
        · have ht : ((L k : Int) != (gn : Int)) = true := by simp; omega
          clear hlk
          go_wp2
          go_ret
          exact ⟨retB_false, 0, rfl⟩
      · have e : k = dn := by omega
        subst e
        clear hr hlt
        go_wp2
        go_loopg [8] (k - 1) (fun g i wr => ∃ j m : Nat, (1 ≤ j ∧ (j ≤ k ∨ j = 1)) ∧ g = k - j ∧ i = .int .i64 j ∧ wr = w.drewN m ∧ ∀ i, 1 ≤ i → i < j → i < k → D (i - 1) < D i)
        case atStart => exact ⟨1, 0, ⟨by omega, by omega⟩, rfl, rfl, rfl, fun i h1 h2 => by omega⟩
        case round =>
          obtain ⟨j, m, ⟨hj1, hj2⟩, rfl, rfl, hw, hJ⟩ := hrel
          have HJ : Hid (∀ i, 1 ≤ i → i < j → i < k → D (i - 1) < D i) := hJ
          clear hJ
          by_cases hlt : j < k
          · obtain ⟨j', rfl⟩ : ∃ j', j = j' + 1 := ⟨j - 1, by omega⟩
            obtain ⟨b, o, rfl, hc⟩ := hd (j' + 1) hlt
            obtain ⟨b', o', he, hc'⟩ := hd j' (by omega)
            cases he
            have g1 : wr.cell? ⟨b, o + j', none⟩ = some (.int .i64 (D j')) := by rw [hw]; exact hc'
            have g2 : wr.cell? ⟨b, o + (j' + 1), none⟩ = some (.int .i64 (D (j' + 1))) := by rw [hw]; exact hc
            have HW : Hid (wr = w.drewN m) := hw
            clear hw hd hc hc' hj2
            by_cases hdd : D (j' + 1) ≤ D j'
            · go_wp2
              go_quiet (fail)
              go_wp2
              go_ret
              exact ⟨retB_false, _, by rw [HW.out, World.drewN_drewN]⟩
            · go_wp2
              go_quiet (fail)
              go_wp2
              go_roundg (k - (j' + 1 + 1))
              case measure => omega
              case rel =>
                refine ⟨j' + 1 + 1, _, ⟨by omega, by omega⟩, rfl, by go_num, by rw [HW.out, World.drewN_drewN], fun i h1 h2 h3 => ?_⟩
                by_cases e : i = j' + 1
                · subst e; rw [Nat.add_sub_cancel]; omega
                · exact HJ.out i h1 (by omega) h3
          · have HW : Hid (wr = w.drewN m) := hw
            clear hw hd
            go_wp2
            go_ret
            exact ⟨⟨_, rfl, fun _ => ⟨rfl, HI.out, fun i h1 h2 => HJ.out i h1 (by omega) h2⟩⟩, m, HW.out⟩
  · have ht : ((dn : Int) != (n : Int)) = true := by simp; omega
    go_enter Try.func6, Try.ntmps6
    go_wp2
    go_ret
    exact ⟨retB_false, 0, rfl⟩

end Go.Proofs.Qxb6628363a
