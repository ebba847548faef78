import Derived.Test.Qxb6628324aFmtWf
namespace Go.Proofs.Qxb6628324aFmt
open Go.RowKit Go.Deep
set_option linter.unusedVariables false

theorem IsBytes.drewN {w : World} {a : Option Addr} {n : Nat} {Z : Nat → Int} (h : IsBytes w a n Z) (m : Nat) : IsBytes (w.drewN m) a n Z := h

/-- What putReadsAs asks of chunk i. -/
structure Reads (size : Int) (GA OA : Nat → Option Addr) (GL OL : Nat → Nat) (GZ OZ : Nat → Nat → Int) (off : Int) (pn : Nat) (P : Nat → Int) (i : Nat) : Prop where
  nil : GA i = none → OA i = none ∧ touched size i off pn = false
  new : GA i ≠ none → OA i = none → touched size i off pn = true
  len : GA i ≠ none → (GL i : Int) = chLen size i
  old : GA i ≠ none → OA i ≠ none → OL i = GL i
  val : GA i ≠ none → ∀ j, j < GL i → GZ i j = want (OA i).isSome (OZ i) off pn P i j

set_option maxHeartbeats 4000000 in
theorem readsAs_any (w : World) (size off : Int) (ga oa : Option Addr) (n gc oc : Nat) (GA OA : Nat → Option Addr) (GL OL GC OC : Nat → Nat) (GZ OZ : Nat → Nat → Int) (pa : Option Addr) (pn pc : Nat) (P : Nat → Int)
    (hg : IsRows w ga n GA GL GC GZ) (ho : IsRows w oa n OA OL OC OZ) (hp : IsBytes w pa pn P)
    (hs0 : 0 ≤ size) (hs1 : size ≤ 4294967296) (hn : n ≤ 65536) (hf0 : 0 ≤ off) (hf1 : off ≤ 4294967296) (hpn : pn ≤ 1048576)
    (hR : ∀ i, i < n → Reads size GA OA GL OL GZ OZ off pn P i) :
    Calls Tryf.prog 13 #[.int .i64 size, .slice ga n gc, .slice oa n oc, .int .i64 off, .slice pa pn pc] w fun e w' => e = .returned (.bool true) ∧ ∃ m, w' = w.drewN m := by
  have q := q24n
  have q4 := q24e
  go_enter Tryf.func13, Tryf.ntmps13
  go_wp2
  go_loopg [11] n (fun g i wr => ∃ k m : Nat, k ≤ n ∧ g = n - k ∧ i = .int .i64 k ∧ wr = w.drewN m)
  case atStart => exact ⟨0, 0, Nat.zero_le _, rfl, rfl, rfl⟩
  case round =>
    obtain ⟨wo, hwo⟩ : ∃ x, x = wr := ⟨_, rfl⟩
    subst hwo
    obtain ⟨k, m, hk, rfl, rfl, hw⟩ := hrel
    have hg' : IsRows wo ga n GA GL GC GZ := by rw [hw]; exact hg.drewN m
    have ho' : IsRows wo oa n OA OL OC OZ := by rw [hw]; exact ho.drewN m
    have hp' : IsBytes wo pa pn P := by rw [hw]; exact hp.drewN m
    have HW : Hid (wo = w.drewN m) := hw
    clear hw hg ho hp
    by_cases hlt : k < n
    · have hRk := hR k hlt
      clear hR
      obtain ⟨gb, go, rfl, hgc⟩ := hg'.top k hlt
      obtain ⟨ob, oo, rfl, hoc⟩ := ho'.top k hlt
      cases hGA : GA k with
      | none =>
        obtain ⟨hOA, ht⟩ := hRk.nil hGA
        obtain ⟨e1, e2⟩ := hg'.nil k hlt hGA
        obtain ⟨e3, e4⟩ := ho'.nil k hlt hOA
        rw [hGA, e1, e2] at hgc
        rw [hOA, e3, e4] at hoc
        clear hGA hOA e1 e2 e3 e4 hRk hg' ho' hp'
        go_wp2_with (go_at_call 16; refine (touched_any _ _ _ _ _ (by omega) (by omega) (by omega) (by omega) (by omega) (by omega) (by omega) (by omega)).mono ?_; rintro e w' ⟨rfl, hw'⟩; obtain rfl : wo = w' := hw'.symm)
        go_roundg (n - (k + 1))
        case measure => omega
        case rel => exact ⟨k + 1, m, by omega, rfl, by go_num, HW.out⟩
      | some gk =>
        have hne : GA k ≠ none := by simp [hGA]
        have hlen := hRk.len hne
        have hcl := chLen_bd size k hs0 hs1 (by omega) (by omega)
        have hGL : GL k ≤ 65536 := by omega
        have hlt' : ((GL k : Int) != chLen size (k : Int)) = false := by simp [hlen]
        have hnew := hRk.new hne
        have hold := hRk.old hne
        have hval := hRk.val hne
        have hgrow := hg'.row k hlt
        rw [hGA] at hgc hgrow
        have HN : Hid (OA k = none → touched size k off pn = true) := hnew
        have HO : Hid (OA k ≠ none → OL k = GL k) := hold
        have HV : Hid (∀ j, j < GL k → GZ k j = want (OA k).isSome (OZ k) off pn P k j) := hval
        have HR : Hid (IsBytes wo (some gk) (GL k) (GZ k)) := hgrow
        have HG : Hid (IsRows wo (some ⟨ob, oo, none⟩) n OA OL OC OZ) := ho'
        have HP : Hid (IsBytes wo pa pn P) := hp'
        clear hGA hne hRk hlen hcl hnew hold hval hg' hgrow hp'
        cases hOA : OA k with
        | none =>
          have ht : touched size k off pn = true := HN.out hOA
          obtain ⟨e3, e4⟩ := ho'.nil k hlt hOA
          rw [hOA, e3, e4] at hoc
          have HE : Hid (OA k = none) := hOA
          clear hOA e3 e4 ho'
          go_wp2_with (go_at_call 16; refine (touched_any _ _ _ _ _ (by omega) (by omega) (by omega) (by omega) (by omega) (by omega) (by omega) (by omega)).mono ?_; rintro e w' ⟨rfl, hw'⟩; obtain rfl : wo = w' := hw'.symm)
          go_quiet ((go_at_call 18; exact Calls.quiet_of_same (chunkLen_any size (k : Int) _ (by omega) (by omega) (by omega) (by omega))))
          go_wp2
          go_loopg [13] (GL k) (fun g i wx => ∃ j m' : Nat, j ≤ GL k ∧ g = GL k - j ∧ i = .int .i64 j ∧ wx = wo.drewN m')
          case atStart => exact ⟨0, _, Nat.zero_le _, rfl, rfl, rfl⟩
          case round =>
            obtain ⟨j, m', hj, rfl, rfl, hw'⟩ := hrel
            have HX : Hid (wo = w.drewN m ∧ wr = wo.drewN m') := ⟨HW.out, hw'⟩
            have ho'' : IsRows wr (some ⟨ob, oo, none⟩) n OA OL OC OZ := by rw [hw']; exact HG.out.drewN m'
            have hp'' : IsBytes wr pa pn P := by rw [hw']; exact HP.out.drewN m'
            have hgc'' : wr.cell? ⟨gb, go + k, none⟩ = some (.slice (some gk) (GL k) (GC k)) := by rw [hw']; exact hgc
            have hrr : IsBytes wr (some gk) (GL k) (GZ k) := by rw [hw']; exact HR.out.drewN m'
            clear hw' hgc hoc ht HR
            by_cases hjl : j < GL k
            · obtain ⟨b, o, he, hc⟩ := hrr j hjl
              cases he
              have hv : (GZ k j != want (OA k).isSome (OZ k) off pn P k j) = false := by simp [HV.out j hjl]
              have HOO : Hid (IsRows wr (some ⟨ob, oo, none⟩) n OA OL OC OZ ∧ IsBytes wr pa pn P) := ⟨ho'', hp''⟩
              clear hrr ho'' hp''
              go_wp2
              go_quiet ((go_at_call 20; exact Calls.quiet_of_same (want_any _ _ n oc OA OL OC OZ off pa pn pc P k j (HOO.out.1.drewN _) (HOO.out.2.drewN _) hlt (by omega) (by omega) (fun h => absurd HE.out h) (by omega) (by omega) (by omega))))
              go_wp2
              go_roundg (GL k - (j + 1))
              case measure => omega
              case rel => exact ⟨j + 1, _, by omega, rfl, by go_num, by rw [HX.out.2, World.drewN_drewN]⟩
            · have e : j = GL k := by omega
              clear hrr ho'' hp''
              go_wp2
              go_roundg (n - (k + 1))
              case measure => omega
              case rel => exact ⟨k + 1, _, by omega, rfl, by go_num, by rw [HX.out.2, HX.out.1, World.drewN_drewN]⟩
        | some ok =>
          have hOL : OL k = GL k := HO.out (by simp [hOA])
          rw [hOA] at hoc
          have HE : Hid (OA k = some ok ∧ OL k = GL k) := ⟨hOA, hOL⟩
          have ht : True := trivial
          clear hOA hOL ho'
          go_wp2_with (go_at_call 16; refine (touched_any _ _ _ _ _ (by omega) (by omega) (by omega) (by omega) (by omega) (by omega) (by omega) (by omega)).mono ?_; rintro e w' ⟨rfl, hw'⟩; obtain rfl : wo = w' := hw'.symm)
          go_quiet ((go_at_call 18; exact Calls.quiet_of_same (chunkLen_any size (k : Int) _ (by omega) (by omega) (by omega) (by omega))))
          go_wp2
          go_loopg [13] (GL k) (fun g i wx => ∃ j m' : Nat, j ≤ GL k ∧ g = GL k - j ∧ i = .int .i64 j ∧ wx = wo.drewN m')
          case atStart => exact ⟨0, _, Nat.zero_le _, rfl, rfl, rfl⟩
          case round =>
            obtain ⟨j, m', hj, rfl, rfl, hw'⟩ := hrel
            have HX : Hid (wo = w.drewN m ∧ wr = wo.drewN m') := ⟨HW.out, hw'⟩
            have ho'' : IsRows wr (some ⟨ob, oo, none⟩) n OA OL OC OZ := by rw [hw']; exact HG.out.drewN m'
            have hp'' : IsBytes wr pa pn P := by rw [hw']; exact HP.out.drewN m'
            have hgc'' : wr.cell? ⟨gb, go + k, none⟩ = some (.slice (some gk) (GL k) (GC k)) := by rw [hw']; exact hgc
            have hrr : IsBytes wr (some gk) (GL k) (GZ k) := by rw [hw']; exact HR.out.drewN m'
            clear hw' hgc hoc ht HR
            by_cases hjl : j < GL k
            · obtain ⟨b, o, he, hc⟩ := hrr j hjl
              cases he
              have hv : (GZ k j != want (OA k).isSome (OZ k) off pn P k j) = false := by simp [HV.out j hjl]
              have HOO : Hid (IsRows wr (some ⟨ob, oo, none⟩) n OA OL OC OZ ∧ IsBytes wr pa pn P) := ⟨ho'', hp''⟩
              clear hrr ho'' hp''
              go_wp2
              go_quiet ((go_at_call 20; exact Calls.quiet_of_same (want_any _ _ n oc OA OL OC OZ off pa pn pc P k j (HOO.out.1.drewN _) (HOO.out.2.drewN _) hlt (by omega) (by omega) (fun _ => by rw [HE.out.2]; exact hjl) (by omega) (by omega) (by omega))))
              go_wp2
              go_roundg (GL k - (j + 1))
              case measure => omega
              case rel => exact ⟨j + 1, _, by omega, rfl, by go_num, by rw [HX.out.2, World.drewN_drewN]⟩
            · have e : j = GL k := by omega
              clear hrr ho'' hp''
              go_wp2
              go_roundg (n - (k + 1))
              case measure => omega
              case rel => exact ⟨k + 1, _, by omega, rfl, by go_num, by rw [HX.out.2, HX.out.1, World.drewN_drewN]⟩
    · clear hR hg' ho' hp'
      go_wp2
      go_ret
      exact ⟨rfl, m, HW.out⟩

end Go.Proofs.Qxb6628324aFmt
