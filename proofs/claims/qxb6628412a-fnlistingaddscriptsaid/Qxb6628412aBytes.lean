import Derived.Test.Qxb6628412aBase
namespace Go.Proofs.Qxb6628412a
open Go.RowKit Go.Deep
set_option linter.unusedVariables false

set_option maxRecDepth 100000 in
set_option maxHeartbeats 4000000 in
theorem zzBytes_any (w : World) (ar aa : Option Addr) (rn rc an ac : Nat) (S : Nat → ByteArray) (X : Nat → AddR)
    (hs : IsStrs w ar rn S) (hx : IsAdds w aa an X) (hrn : rn ≤ 9223372036854775807) (han : an ≤ 9223372036854775807) :
    Calls Try.prog 4 #[.slice ar rn rc, .slice aa an ac] w fun e w' => (∃ b, e = .returned (.bool b)) ∧ w' = w := by
  go_enter Try.func4, Try.ntmps4
  go_wp2
  all_goals first | (go_ret; exact ⟨⟨_, rfl⟩, rfl⟩) | skip
  go_loopg [5, 6] rn (fun g t i wr => w = wr ∧ ∃ (k : Nat) (t' : Int), k ≤ rn ∧ g = rn - k ∧ i = .int .i64 k ∧ t = .int .i64 t' ∧ 0 ≤ t' ∧ t' ≤ 1048576)
  case atStart => exact ⟨rfl, 0, _, Nat.zero_le _, rfl, rfl, rfl, by omega, by omega⟩
  case round =>
    obtain ⟨rfl, k, t, hk, rfl, rfl, rfl, ht0, ht1⟩ := hrel
    by_cases hlt : k < rn
    · obtain ⟨b, o, rfl, hc⟩ := hs k hlt
      obtain ⟨s, hsz⟩ : ∃ s, s = S k := ⟨_, rfl⟩
      rw [← hsz] at hc
      clear hs hsz hx
      go_wp2
      · go_ret
        exact ⟨⟨_, rfl⟩, rfl⟩
      · go_ret
        exact ⟨⟨_, rfl⟩, rfl⟩
      · go_roundg (rn - (k + 1))
        case measure => omega
        case rel => exact ⟨rfl, k + 1, _, by omega, rfl, by go_num, rfl, by omega, by omega⟩
    · clear hs
      go_wp2
      all_goals first | (go_ret; exact ⟨⟨_, rfl⟩, rfl⟩) | skip
      go_loopg [5, 7] an (fun g t i wr => w = wr ∧ ∃ (k : Nat) (t' : Int), k ≤ an ∧ g = an - k ∧ i = .int .i64 k ∧ t = .int .i64 t' ∧ 0 ≤ t' ∧ t' ≤ 1048576)
      case atStart => exact ⟨rfl, 0, _, Nat.zero_le _, rfl, rfl, rfl, by omega, by omega⟩
      case round =>
        obtain ⟨rfl, k2, t2, hk2, rfl, rfl, rfl, ht20, ht21⟩ := hrel
        by_cases hlt2 : k2 < an
        · obtain ⟨b, o, rfl, hc⟩ := hx k2 hlt2
          obtain ⟨x, hxx⟩ : ∃ x, x = X k2 := ⟨_, rfl⟩
          rw [← hxx] at hc
          clear hx hxx
          have c1 := hc.c1
          have c2 := hc.c2
          have c4 := hc.c4
          have c5 := hc.c5
          have c6 := hc.c6
          clear hc
          go_wp2
          all_goals first | (go_ret; exact ⟨⟨_, rfl⟩, rfl⟩) | skip
          go_roundg (an - (k2 + 1))
          case measure => omega
          case rel => exact ⟨rfl, k2 + 1, _, by omega, rfl, by go_num, rfl, by omega, by omega⟩
        · clear hx
          go_wp2
          all_goals (go_ret; exact ⟨⟨_, rfl⟩, rfl⟩)

end Go.Proofs.Qxb6628412a
