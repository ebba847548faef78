import Derived.Test.Qxb6628363aOn
namespace Go.Proofs.Qxb6628363a
open Go.RowKit Go.Deep
set_option linter.unusedVariables false

/-! ### from the ledger as it is built to the ledger as it is read -/
theorem losses_length (D : Nat → Int) (A : Nat → Option Addr) (L C : Nat → Nat) (k : Nat) : (losses D A L C k).length = k * 4 := by
  induction k with
  | zero => rfl
  | succ k ih => rw [losses_succ, List.length_append, ih]; simp [lossOf]; omega

theorem losses_get (D : Nat → Int) (A : Nat → Option Addr) (L C : Nat → Nat) (n i r : Nat) (hi : i < n) (hr : r < 4) : (losses D A L C n)[i * 4 + r]? = (lossOf (D i) (A i) (L i) (C i))[r]? := by
  induction n with
  | zero => omega
  | succ n ih =>
    rw [losses_succ]
    by_cases e : i = n
    · subst e
      rw [List.getElem?_append_right (by rw [losses_length]; omega), losses_length]
      congr 1
      omega
    · rw [List.getElem?_append_left (by rw [losses_length]; omega)]
      exact ih (by omega)

theorem led_of {w w' : World} {ag : Option Addr} {gn gc n : Nat} {v : Value} {G D : Nat → Int} {A : Nat → Option Addr} {L C : Nat → Nat} {Z : Nat → Nat → Int} (h : NI w w' (.slice ag gn gc) v n D A L C) (hL : ∀ i, i < n → L i = gn)
    (hg : IsInts w ag gn G) (hgn : ag = none → gn = 0 ∧ gc = 0) (hrow : ∀ i, i < n → IsInts w (A i) gn (Z i)) : ∃ lo lc, Led w' w.heap.size ag gn gc lo n lc G D A C Z := by
  obtain ⟨lo, lc, rfl⟩ := own_slice h.own
  have hcell : ∀ j, w'.cell? ⟨w.heap.size, j, none⟩ = (#[.int .u64 0, .int .i64 0, .pointer none, .slice ag gn gc, .slice lo n lc] : Array Value)[j]? := fun j => by
    unfold World.cell?
    rw [h.blk]
    rfl
  refine ⟨lo, lc, hcell 3, hcell 4, hg.later h.below, hgn, fun i hi => ?_, fun i hi => (hrow i hi).later h.below⟩
  rcases h.own.2 with ⟨_, h0⟩ | ⟨g, cap, cur, hv, hgb, hh, hn, _, hs, ht⟩
  · omega
  · simp at hv
    obtain ⟨rfl, rfl⟩ := hv
    have hc : ∀ r, r < 4 → w'.cell? ⟨g, i * 4 + r, none⟩ = (lossOf (D i) (A i) (L i) (C i))[r]? := by
      intro r hr
      rw [← losses_get D A L C n i r hi hr, ← ht, List.getElem?_take_of_lt (by omega)]
      unfold World.cell?
      rw [hh]
      simp
    refine ⟨g, rfl, by simpa [lossOf] using hc 0 (by omega), by simpa [lossOf] using hc 1 (by omega), by simpa [lossOf] using hc 2 (by omega), ?_⟩
    have := hc 3 (by omega)
    rw [hL i hi] at this
    simpa [lossOf] using this

/-! ### ZZon -/
set_option maxHeartbeats 1000000 in
theorem zon_any (w : World) (xb : Nat) (ag : Option Addr) (gn gc : Nat) (lo : Option Addr) (n lc : Nat) (G : Nat → Int) (D : Nat → Int) (A : Nat → Option Addr) (C : Nat → Nat) (Z : Nat → Nat → Int) (day : Int)
    (hL : Led w xb ag gn gc lo n lc G D A C Z) (hgn : gn ≤ 1048576) (hn : n ≤ 1048576) (h0 : -9223372036854775808 ≤ day) (h1 : day ≤ 9223372036854775807) :
    Calls Try.prog 10 #[.pointer (some ⟨xb, 0, none⟩), .int .i64 day] w fun e w' =>
      ∃ a' c' g m, e = .returned (.slice a' gn c') ∧ (0 < gn → a' = some ⟨g, 0, none⟩) ∧ OnI w w' g gn m G Z ∧ m ≤ n ∧ (∀ i, i < m → D i ≤ day) ∧ (m < n → day < D m) := by
  have HL : Hid (Led w xb ag gn gc lo n lc G D A C Z) := hL
  clear hL
  go_enter Try.func10, Try.ntmps10
  go_wp2_with fail
  refine (add_any day _ h0 h1).mono ?_
  rintro e w1 ⟨rfl, hB⟩
  have HB : Hid (Below w.heap.size w w1) := hB
  clear hB
  go_wp2_with fail
  refine (on_any w1 xb ag gn gc lo n lc G D A C Z day (HL.out.later HB.out) hgn hn).mono ?_
  rintro e w2 ⟨a', c', g, m, rfl, r1, r2, r3, r4, r5⟩
  have HR : Hid ((0 < gn → a' = some ⟨g, 0, none⟩) ∧ OnI w w2 g gn m G Z ∧ m ≤ n ∧ (∀ i, i < m → D i ≤ day) ∧ (m < n → day < D m)) := ⟨r1, r2.base HB.out, r3, r4, r5⟩
  clear r1 r2 r3 r4 r5
  go_wp2
  go_ret
  exact ⟨a', c', g, m, rfl, HR.out⟩

/-! ### plain laws -/
def wantv (G D : Nat → Int) (Z : Nat → Nat → Int) (day : Int) : Nat → Nat → Int
  | 0, j => G j
  | i + 1, j => if D i ≤ day then wrap64 (wantv G D Z day i j - Z i j) else wantv G D Z day i j

theorem inc_all {D : Nat → Int} {n : Nat} (hinc : ∀ i, 1 ≤ i → i < n → D (i - 1) < D i) (m : Nat) : ∀ i, m ≤ i → i < n → D m ≤ D i := by
  intro i hmi hin
  induction i with
  | zero => have : m = 0 := by omega
            subst this; omega
  | succ i ih =>
    by_cases e : m = i + 1
    · subst e; omega
    · have h1 := ih (by omega) (by omega)
      have h2 := hinc (i + 1) (by omega) hin
      simp at h2
      omega

theorem want_on {G D : Nat → Int} {Z : Nat → Nat → Int} {day : Int} {n m : Nat} (hinc : ∀ i, 1 ≤ i → i < n → D (i - 1) < D i) (hm : m ≤ n) (h1 : ∀ i, i < m → D i ≤ day) (h2 : m < n → day < D m) (j : Nat) : wantv G D Z day n j = onv G Z m j := by
  have lo : ∀ i, i ≤ m → wantv G D Z day i j = onv G Z i j := by
    intro i hi
    induction i with
    | zero => rfl
    | succ i ih =>
      simp only [wantv, onv]
      rw [if_pos (h1 i (by omega)), ih (by omega)]
  have hi : ∀ i, m ≤ i → i ≤ n → wantv G D Z day i j = onv G Z m j := by
    intro i hmi hin
    induction i with
    | zero => have : m = 0 := by omega
              subst this; rfl
    | succ i ih =>
      by_cases e : m = i + 1
      · rw [← e]; exact lo m (Nat.le_refl _)
      · simp only [wantv]
        have h3 := inc_all hinc m i (by omega) (by omega)
        have h4 := h2 (by omega)
        rw [if_neg (by omega)]
        exact ih (by omega) (by omega)
  exact hi n hm (Nat.le_refl _)

def sumv (D : Nat → Int) (Z : Nat → Nat → Int) (a b : Int) : Nat → Nat → Int
  | 0, _ => 0
  | i + 1, j => if a < D i ∧ D i ≤ b then wrap64 (sumv D Z a b i j + Z i j) else sumv D Z a b i j

def tot (Z : Nat → Nat → Int) : Nat → Nat → Int
  | 0, _ => 0
  | i + 1, j => tot Z i j + Z i j

theorem onv_mod (G : Nat → Int) (Z : Nat → Nat → Int) (m j : Nat) : (onv G Z m j - (G j - tot Z m j)) % 18446744073709551616 = 0 := by
  induction m with
  | zero => simp [onv, tot]
  | succ m ih =>
    simp only [onv, tot]
    unfold wrap64
    omega

theorem wrap_eq {x y : Int} (h : (x - y) % 18446744073709551616 = 0) : wrap64 x = wrap64 y := by
  unfold wrap64
  omega

theorem wrap_add (x y : Int) : wrap64 (wrap64 x + y) = wrap64 (x + y) := by
  unfold wrap64
  omega

theorem sum_tot {D : Nat → Int} {Z : Nat → Nat → Int} {a b : Int} {n ma mb : Nat} (hab : ma ≤ mb) (hmb : mb ≤ n) (h1 : ∀ i, i < ma → D i ≤ a) (h2 : ∀ i, ma ≤ i → i < n → a < D i) (h3 : ∀ i, i < mb → D i ≤ b) (h4 : ∀ i, mb ≤ i → i < n → b < D i) (j : Nat) :
    sumv D Z a b n j = wrap64 (tot Z mb j - tot Z ma j) := by
  have key : ∀ i, i ≤ n → sumv D Z a b i j = wrap64 (tot Z (max ma (min i mb)) j - tot Z ma j) := by
    intro i hi
    induction i with
    | zero =>
      have : max ma (min 0 mb) = ma := by omega
      rw [this]
      simp [sumv, wrap64]
    | succ i ih =>
      have ih := ih (by omega)
      simp only [sumv]
      by_cases c1 : i < ma
      · have := h1 i c1
        rw [if_neg (by omega), ih]
        congr 2
        rw [show max ma (min i mb) = max ma (min (i + 1) mb) by omega]
      · by_cases c2 : i < mb
        · rw [if_pos ⟨h2 i (by omega) (by omega), h3 i c2⟩, ih, wrap_add]
          rw [show max ma (min i mb) = i by omega, show max ma (min (i + 1) mb) = i + 1 by omega]
          simp only [tot]
          congr 1
          omega
        · have := h4 i (by omega) (by omega)
          rw [if_neg (by omega), ih]
          rw [show max ma (min i mb) = max ma (min (i + 1) mb) by omega]
  rw [key n (Nat.le_refl _), show max ma (min n mb) = mb by omega]

theorem change_eq {G D : Nat → Int} {Z : Nat → Nat → Int} {a b : Int} {n ma mb : Nat} (hle : a ≤ b) (hinc : ∀ i, 1 ≤ i → i < n → D (i - 1) < D i) (hma : ma ≤ n) (a1 : ∀ i, i < ma → D i ≤ a) (a2 : ma < n → a < D ma) (hmb : mb ≤ n) (b1 : ∀ i, i < mb → D i ≤ b) (b2 : mb < n → b < D mb) (j : Nat) :
    wrap64 (onv G Z ma j - onv G Z mb j) = sumv D Z a b n j := by
  have a3 : ∀ i, ma ≤ i → i < n → a < D i := fun i h1 h2 => by have := a2 (by omega); have := inc_all hinc ma i h1 h2; omega
  have b3 : ∀ i, mb ≤ i → i < n → b < D i := fun i h1 h2 => by have := b2 (by omega); have := inc_all hinc mb i h1 h2; omega
  have hab : ma ≤ mb := by
    rcases Nat.lt_or_ge mb ma with h | h
    · have := a1 mb h; have := b3 mb (Nat.le_refl _) (by omega); omega
    · exact h
  rw [sum_tot hab hmb a1 a3 b1 b3 j]
  apply wrap_eq
  have e1 := onv_mod G Z ma j
  have e2 := onv_mod G Z mb j
  omega

end Go.Proofs.Qxb6628363a
