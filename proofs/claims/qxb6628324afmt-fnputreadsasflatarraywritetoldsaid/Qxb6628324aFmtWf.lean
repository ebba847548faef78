import Derived.Test.Qxb6628324aFmtSmall
namespace Go.Proofs.Qxb6628324aFmt
open Go.RowKit Go.Deep
set_option linter.unusedVariables false

theorem IsRows.drewN {w : World} {a : Option Addr} {n : Nat} {A : Nat → Option Addr} {L C : Nat → Nat} {Z : Nat → Nat → Int} (h : IsRows w a n A L C Z) (m : Nat) : IsRows (w.drewN m) a n A L C Z := ⟨h.top, h.len, h.nil, h.row⟩

set_option maxHeartbeats 1000000 in
theorem zzBytes4_any (w : World) (size off : Int) (a : Option Addr) (n c : Nat) (A : Nat → Option Addr) (L C : Nat → Nat) (Z : Nat → Nat → Int) (pa : Option Addr) (pn pc : Nat)
    (hr : IsRows w a n A L C Z) (hn : n ≤ 9223372036854775807) (hp : pn ≤ 9223372036854775807) :
    Calls Tryf.prog 17 #[.int .i64 size, .slice a n c, .int .i64 off, .slice pa pn pc] w fun e w' => (∃ b, e = .returned (.bool b)) ∧ w' = w := by
  by_cases h1 : (1048576 : Int) < n
  · go_enter Tryf.func17, Tryf.ntmps17
    go_wp2
    go_ret
    exact ⟨⟨_, rfl⟩, rfl⟩
  · go_enter Tryf.func17, Tryf.ntmps17
    go_wp2
    go_loopg [9, 10] n (fun g t i wr => w = wr ∧ ∃ (k : Nat) (t' : Int), k ≤ n ∧ g = n - k ∧ i = .int .i64 k ∧ t = .int .i64 t' ∧ 0 ≤ t' ∧ t' ≤ 1048576)
    case atStart => exact ⟨rfl, 0, n, Nat.zero_le _, rfl, rfl, rfl, by omega, by omega⟩
    case round =>
      obtain ⟨rfl, k, t, hk, rfl, rfl, rfl, ht0, ht1⟩ := hrel
      by_cases hlt : k < n
      · obtain ⟨b, o, rfl, hc⟩ := hr.top k hlt
        have hl := hr.len k hlt
        clear hr
        go_wp2
        · go_ret
          exact ⟨⟨_, rfl⟩, rfl⟩
        · go_ret
          exact ⟨⟨_, rfl⟩, rfl⟩
        · go_roundg (n - (k + 1))
          case measure => omega
          case rel => exact ⟨rfl, k + 1, _, by omega, rfl, by go_num, rfl, by omega, by omega⟩
      · clear hr
        go_wp2
        · go_ret
          exact ⟨⟨_, rfl⟩, rfl⟩
        · go_ret
          exact ⟨⟨_, rfl⟩, rfl⟩
        · go_ret
          exact ⟨⟨_, rfl⟩, rfl⟩

set_option maxHeartbeats 1000000 in
theorem zzBytes5_any (w : World) (size off : Int) (a : Option Addr) (n c : Nat) (A : Nat → Option Addr) (L C : Nat → Nat) (Z : Nat → Nat → Int) (sa : Option Addr) (sn sc : Nat) (pa : Option Addr) (pn pc : Nat)
    (hr : IsRows w a n A L C Z) (hn : n ≤ 9223372036854775807) (hs : sn ≤ 9223372036854775807) (hp : pn ≤ 9223372036854775807) :
    Calls Tryf.prog 5 #[.int .i64 size, .slice a n c, .slice sa sn sc, .int .i64 off, .slice pa pn pc] w fun e w' => (∃ b, e = .returned (.bool b)) ∧ w' = w := by
  by_cases h1 : (1048576 : Int) < n
  · go_enter Tryf.func5, Tryf.ntmps5
    go_wp2
    go_ret
    exact ⟨⟨_, rfl⟩, rfl⟩
  · go_enter Tryf.func5, Tryf.ntmps5
    go_wp2
    go_loopg [11, 12] n (fun g t i wr => w = wr ∧ ∃ (k : Nat) (t' : Int), k ≤ n ∧ g = n - k ∧ i = .int .i64 k ∧ t = .int .i64 t' ∧ 0 ≤ t' ∧ t' ≤ 1048576)
    case atStart => exact ⟨rfl, 0, n, Nat.zero_le _, rfl, rfl, rfl, by omega, by omega⟩
    case round =>
      obtain ⟨rfl, k, t, hk, rfl, rfl, rfl, ht0, ht1⟩ := hrel
      by_cases hlt : k < n
      · obtain ⟨b, o, rfl, hc⟩ := hr.top k hlt
        have hl := hr.len k hlt
        clear hr
        go_wp2
        · go_ret
          exact ⟨⟨_, rfl⟩, rfl⟩
        · go_ret
          exact ⟨⟨_, rfl⟩, rfl⟩
        · go_roundg (n - (k + 1))
          case measure => omega
          case rel => exact ⟨rfl, k + 1, _, by omega, rfl, by go_num, rfl, by omega, by omega⟩
      · clear hr
        go_wp2
        all_goals (go_ret; exact ⟨⟨_, rfl⟩, rfl⟩)

/-- What putWellFormed says where it says yes. -/
structure WF (size : Int) (n : Nat) (A : Nat → Option Addr) (L : Nat → Nat) (off : Int) (pn : Nat) : Prop where
  size0 : 0 ≤ size
  lo : (n : Int) * 65536 < size + 65536
  hi : size ≤ (n : Int) * 65536
  len : ∀ i, i < n → A i ≠ none → (L i : Int) = chLen size i
  off0 : 0 ≤ off
  fit : (pn : Int) ≤ size - off

/-- A bool is returned; where it is true, p. -/
def RetB (e : Ending) (p : Prop) : Prop := ∃ b, e = .returned (.bool b) ∧ (b = true → p)

theorem retB_false {p : Prop} : RetB (.returned (.bool false)) p := ⟨_, rfl, fun h => by cases h⟩

theorem wf_cases (size : Int) (n : Nat) :
    ((size % 65536 != 0) = true ∧ ((n : Int) != size / 65536 + 1) = true) ∨ ((size % 65536 != 0) = false ∧ ((n : Int) != size / 65536) = true) ∨
    ((size % 65536 != 0) = true ∧ ((n : Int) != size / 65536 + 1) = false ∧ (n : Int) * 65536 < size + 65536 ∧ size ≤ (n : Int) * 65536) ∨
    ((size % 65536 != 0) = false ∧ ((n : Int) != size / 65536) = false ∧ (n : Int) * 65536 < size + 65536 ∧ size ≤ (n : Int) * 65536) := by
  simp only [bne_iff_ne, bne_eq_false_iff_eq]
  omega

set_option maxHeartbeats 2000000 in
theorem wf_nil (w : World) (size off : Int) (a : Option Addr) (n c : Nat) (A : Nat → Option Addr) (L C : Nat → Nat) (Z : Nat → Nat → Int) (pa : Option Addr) (pn pc : Nat)
    (hr : IsRows w a n A L C Z) (hn : n ≤ 65536) (hp : pn ≤ 1048576) (hs0 : -9223372036854775808 ≤ size) (hs1 : size ≤ 9223372036854775807) (ho0 : -9223372036854775808 ≤ off) (ho1 : off ≤ 9223372036854775807) :
    Calls Tryf.prog 6 #[.int .i64 size, .slice a n c, .slice none 0 0, .int .i64 off, .slice pa pn pc] w fun e w' => RetB e (WF size n A L off pn) ∧ ∃ m, w' = w.drewN m := by
  have q := q24n
  have q3 := q23n
  by_cases h1 : size < 0
  · go_enter Tryf.func6, Tryf.ntmps6
    go_wp2
    go_ret
    exact ⟨retB_false, 0, rfl⟩
  have h1' : 0 ≤ size := by omega
  rcases wf_cases size n with ⟨hz, hq⟩ | ⟨hz, hq⟩ | ⟨hz, hq, hlo, hhi⟩ | ⟨hz, hq, hlo, hhi⟩
  · go_enter Tryf.func6, Tryf.ntmps6
    go_wp2
    go_ret
    exact ⟨retB_false, 0, rfl⟩
  · go_enter Tryf.func6, Tryf.ntmps6
    go_wp2
    go_ret
    exact ⟨retB_false, 0, rfl⟩
  all_goals
    go_enter Tryf.func6, Tryf.ntmps6
    go_wp2
    go_loopg [12] n (fun g i wr => ∃ k m : Nat, k ≤ n ∧ g = n - k ∧ i = .int .i64 k ∧ wr = w.drewN m ∧ ∀ i, i < k → A i ≠ none → (L i : Int) = chLen size i)
    case atStart => exact ⟨0, 0, Nat.zero_le _, rfl, rfl, rfl, fun i hi => absurd hi (Nat.not_lt_zero _)⟩
    case round =>
      obtain ⟨k, m, hk, rfl, rfl, hw, hI⟩ := hrel
      have hr' : IsRows wr a n A L C Z := by rw [hw]; exact hr.drewN m
      have HW : Hid (wr = w.drewN m) := hw
      clear hw
      have HI : Hid (∀ i, i < k → A i ≠ none → (L i : Int) = chLen size i) := hI
      clear hI
      by_cases hlt : k < n
      · obtain ⟨b, o, rfl, hc⟩ := hr'.top k hlt
        have hl := hr.len k hlt
        cases hA : A k with
        | none =>
          obtain ⟨hL0, hC0⟩ := hr.nil k hlt hA
          rw [hA, hL0, hC0] at hc
          have HA : Hid (A k = none) := hA
          clear hA hL0 hC0 hr hr'
          go_wp2
          go_quiet (fail)
          go_wp2
          go_roundg (n - (k + 1))
          case measure => omega
          case rel =>
            refine ⟨k + 1, _, by omega, rfl, by go_num, by rw [HW.out, World.drewN_drewN], fun i hi hne => ?_⟩
            by_cases e : i = k
            · subst e; exact absurd HA.out hne
            · exact HI.out i (by omega) hne
        | some ak =>
          rw [hA] at hc
          have HA : Hid (A k = some ak) := hA
          clear hA hr hr'
          go_wp2
          go_quiet ((go_at_call 18; exact Calls.quiet_of_same (chunkLen_any size (k : Int) _ (by omega) (by omega) (by omega) (by omega))))
          go_wp2
          · go_ret
            exact ⟨retB_false, _, by rw [HW.out, World.drewN_drewN]⟩
          · go_roundg (n - (k + 1))
            case measure => omega
            case rel =>
              refine ⟨k + 1, _, by omega, rfl, by go_num, by rw [HW.out, World.drewN_drewN], fun i hi hne => ?_⟩
              by_cases e : i = k
              · subst e
                have ht : ((L i : Int) != chLen size i) = false := by assumption
                simpa using ht
              · exact HI.out i (by omega) hne
      · have e : k = n := by omega
        subst e
        clear hr hr'
        go_wp2
        · go_ret
          exact ⟨retB_false, _, HW.out⟩
        · have ht : 0 ≤ off ∧ (pn : Int) ≤ size - off := by assumption
          go_ret
          exact ⟨⟨_, rfl, fun _ => ⟨h1', hlo, hhi, HI.out, ht.1, ht.2⟩⟩, _, HW.out⟩
        · go_ret
          exact ⟨retB_false, _, HW.out⟩

set_option maxHeartbeats 2000000 in
theorem wf_some (w : World) (size off : Int) (a : Option Addr) (n c : Nat) (A : Nat → Option Addr) (L C : Nat → Nat) (Z : Nat → Nat → Int) (sa : Addr) (sn sc : Nat) (S : Nat → Bool) (pa : Option Addr) (pn pc : Nat)
    (hr : IsRows w a n A L C Z) (hS : IsBools w (some sa) sn S) (hsn : sn ≤ 9223372036854775807) (hn : n ≤ 65536) (hp : pn ≤ 1048576) (hs0 : -9223372036854775808 ≤ size) (hs1 : size ≤ 9223372036854775807) (ho0 : -9223372036854775808 ≤ off) (ho1 : off ≤ 9223372036854775807) :
    Calls Tryf.prog 6 #[.int .i64 size, .slice a n c, .slice (some sa) sn sc, .int .i64 off, .slice pa pn pc] w fun e w' => RetB e (WF size n A L off pn ∧ sn = n ∧ ∀ i, i < n → S i = true → A i ≠ none) ∧ ∃ m, w' = w.drewN m := by
  have q := q24n
  have q3 := q23n
  have q4 := q24e
  by_cases h1 : size < 0
  · go_enter Tryf.func6, Tryf.ntmps6
    go_wp2
    go_ret
    exact ⟨retB_false, 0, rfl⟩
  have h1' : 0 ≤ size := by omega
  rcases wf_cases size n with ⟨hz, hq⟩ | ⟨hz, hq⟩ | ⟨hz, hq, hlo, hhi⟩ | ⟨hz, hq, hlo, hhi⟩
  · go_enter Tryf.func6, Tryf.ntmps6
    go_wp2
    go_ret
    exact ⟨retB_false, 0, rfl⟩
  · go_enter Tryf.func6, Tryf.ntmps6
    go_wp2
    go_ret
    exact ⟨retB_false, 0, rfl⟩
  all_goals
    go_enter Tryf.func6, Tryf.ntmps6
    go_wp2
    go_loopg [12] n (fun g i wr => ∃ k m : Nat, k ≤ n ∧ g = n - k ∧ i = .int .i64 k ∧ wr = w.drewN m ∧ ∀ i, i < k → A i ≠ none → (L i : Int) = chLen size i)
    case atStart => exact ⟨0, 0, Nat.zero_le _, rfl, rfl, rfl, fun i hi => absurd hi (Nat.not_lt_zero _)⟩
    case round =>
      obtain ⟨k, m, hk, rfl, rfl, hw, hI⟩ := hrel
      have hr' : IsRows wr a n A L C Z := by rw [hw]; exact hr.drewN m
      have HW : Hid (wr = w.drewN m) := hw
      clear hw
      have HI : Hid (∀ i, i < k → A i ≠ none → (L i : Int) = chLen size i) := hI
      clear hI
      by_cases hlt : k < n
      · obtain ⟨b, o, rfl, hc⟩ := hr'.top k hlt
        have hl := hr.len k hlt
        cases hA : A k with
        | none =>
          obtain ⟨hL0, hC0⟩ := hr.nil k hlt hA
          rw [hA, hL0, hC0] at hc
          have HA : Hid (A k = none) := hA
          clear hA hL0 hC0 hr hr'
          go_wp2
          go_quiet (fail)
          go_wp2
          go_roundg (n - (k + 1))
          case measure => omega
          case rel =>
            refine ⟨k + 1, _, by omega, rfl, by go_num, by rw [HW.out, World.drewN_drewN], fun i hi hne => ?_⟩
            by_cases e : i = k
            · subst e; exact absurd HA.out hne
            · exact HI.out i (by omega) hne
        | some ak =>
          rw [hA] at hc
          have HA : Hid (A k = some ak) := hA
          clear hA hr hr'
          go_wp2
          go_quiet ((go_at_call 18; exact Calls.quiet_of_same (chunkLen_any size (k : Int) _ (by omega) (by omega) (by omega) (by omega))))
          go_wp2
          · go_ret
            exact ⟨retB_false, _, by rw [HW.out, World.drewN_drewN]⟩
          · go_roundg (n - (k + 1))
            case measure => omega
            case rel =>
              refine ⟨k + 1, _, by omega, rfl, by go_num, by rw [HW.out, World.drewN_drewN], fun i hi hne => ?_⟩
              by_cases e : i = k
              · subst e
                have ht : ((L i : Int) != chLen size i) = false := by assumption
                simpa using ht
              · exact HI.out i (by omega) hne
      · have e : k = n := by omega
        subst e
        clear hr
        by_cases hsk : sn = k
        · have hsk' : ((sn : Int) != (k : Int)) = false := by simp [hsk]
          have hS' : IsBools wr (some sa) sn S := by have e := HW.out; rw [e]; exact hS
          clear hS hlt
          have HSK : Hid (sn = k) := hsk
          clear hsk
          go_wp2
          go_loopg [13] sn (fun g i wx => wr = wx ∧ ∃ j : Nat, j ≤ sn ∧ g = sn - j ∧ i = .int .i64 j ∧ ∀ i, i < j → S i = true → A i ≠ none)
          case atStart => exact ⟨rfl, 0, Nat.zero_le _, rfl, rfl, fun i hi => absurd hi (Nat.not_lt_zero _)⟩
          case round =>
            obtain ⟨rfl, j, hj, rfl, rfl, hJ⟩ := hrel
            have HJ : Hid (∀ i, i < j → S i = true → A i ≠ none) := hJ
            clear hJ
            by_cases hlt : j < sn
            · obtain ⟨b, o, hsa, hc⟩ := hS' j hlt
              cases hsa
              have hjk : j < k := by have e := HSK.out; omega
              obtain ⟨b', o', rfl, hc'⟩ := hr'.top j hjk
              cases hSj : S j with
              | false =>
                rw [hSj] at hc
                have HSj : Hid (S j = false) := hSj
                clear hSj hr' hS' hc'
                go_wp2
                go_roundg (sn - (j + 1))
                case measure => omega
                case rel =>
                  refine ⟨rfl, j + 1, by omega, rfl, by go_num, fun i hi hne => ?_⟩
                  by_cases e : i = j
                  · subst e; rw [HSj.out] at hne; cases hne
                  · exact HJ.out i (by omega) hne
              | true =>
                rw [hSj] at hc
                clear hSj
                cases hA : A j with
                | none =>
                  rw [hA] at hc'
                  clear hA hr' hS'
                  go_wp2
                  go_ret
                  exact ⟨retB_false, _, HW.out⟩
                | some aj =>
                  rw [hA] at hc'
                  have HA : Hid (A j = some aj) := hA
                  clear hA hr' hS'
                  go_wp2
                  go_roundg (sn - (j + 1))
                  case measure => omega
                  case rel =>
                    refine ⟨rfl, j + 1, by omega, rfl, by go_num, fun i hi hne => ?_⟩
                    by_cases e : i = j
                    · subst e; rw [HA.out]; simp
                    · exact HJ.out i (by omega) hne
            · have e : j = sn := by omega
              clear hr' hS'
              have HE : Hid (j = sn) := e
              clear e
              go_wp2
              · go_ret
                exact ⟨retB_false, _, HW.out⟩
              · have ht : 0 ≤ off ∧ (pn : Int) ≤ size - off := by assumption
                go_ret
                exact ⟨⟨_, rfl, fun _ => ⟨⟨h1', hlo, hhi, HI.out, ht.1, ht.2⟩, HSK.out, fun i hi => HJ.out i (by have e1 := HE.out; have e2 := HSK.out; omega)⟩⟩, _, HW.out⟩
              · go_ret
                exact ⟨retB_false, _, HW.out⟩
        · have hsk' : ((sn : Int) != (k : Int)) = true := by simp; omega
          clear hr' hS
          go_wp2
          go_ret
          exact ⟨retB_false, _, HW.out⟩

end Go.Proofs.Qxb6628324aFmt
