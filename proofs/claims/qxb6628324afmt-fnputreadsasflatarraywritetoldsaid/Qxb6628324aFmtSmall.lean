import Derived.Test.Qxb6628324aFmtBase
namespace Go.Proofs.Qxb6628324aFmt
open Go.RowKit Go.Deep

/-! ### plain functions -/
def chLen (size i : Int) : Int := if size - i * 65536 > 65536 then 65536 else size - i * 65536

def touched (size i off n : Int) : Bool := decide (n ≠ 0) && (decide (i * 65536 < off + n) && decide (off < i * 65536 + chLen size i))

set_option maxHeartbeats 400000 in
theorem chunkLen_any (size i : Int) (w : World) (h0 : 0 ≤ size) (h1 : size ≤ 4294967296) (h2 : 0 ≤ i) (h3 : i ≤ 65536) :
    Calls Tryf.prog 18 #[.int .i64 size, .int .i64 i] w fun e w' => e = .returned (.int .i64 (chLen size i)) ∧ w' = w := by
  unfold chLen
  go_enter Tryf.func18, Tryf.ntmps18
  go_wp2
  · go_ret
    exact ⟨rfl, rfl⟩
  · go_ret
    exact ⟨rfl, rfl⟩

theorem chLen_bd (size i : Int) (h0 : 0 ≤ size) (h1 : size ≤ 4294967296) (h2 : 0 ≤ i) (h3 : i ≤ 65536) : -4294967296 ≤ chLen size i ∧ chLen size i ≤ 65536 := by
  unfold chLen; split <;> omega

theorem ret_bool {a b : Bool} (h : a = b) : Ending.returned (.bool a) = .returned (.bool b) := by rw [h]

set_option maxHeartbeats 400000 in
theorem touched_any (size i off n : Int) (w : World) (h0 : 0 ≤ size) (h1 : size ≤ 4294967296) (h2 : 0 ≤ i) (h3 : i ≤ 65536) (h4 : 0 ≤ off) (h5 : off ≤ 4294967296) (h6 : 0 ≤ n) (h7 : n ≤ 1048576) :
    Calls Tryf.prog 16 #[.int .i64 size, .int .i64 i, .int .i64 off, .int .i64 n] w fun e w' => e = .returned (.bool (touched size i off n)) ∧ w' = w := by
  have hb := chLen_bd size i h0 h1 h2 h3
  unfold touched
  by_cases hn : n = 0
  · subst hn
    go_enter Tryf.func16, Tryf.ntmps16
    go_wp2
    go_ret
    exact ⟨rfl, rfl⟩
  · have hn' : (n == 0) = false := by simpa using hn
    by_cases hc : i * 65536 < off + n
    · go_enter Tryf.func16, Tryf.ntmps16
      go_wp2_with (go_at_call 18; refine (chunkLen_any _ _ _ (by omega) (by omega) (by omega) (by omega)).mono ?_; rintro e w' ⟨rfl, rfl⟩)
      go_ret
      exact ⟨ret_bool (by simp [hn, hc]), rfl⟩
    · have hd : decide (i * 65536 < off + n) = false := by simpa using hc
      go_enter Tryf.func16, Tryf.ntmps16
      go_wp2_with (go_at_call 18; refine (chunkLen_any _ _ _ (by omega) (by omega) (by omega) (by omega)).mono ?_; rintro e w' ⟨rfl, rfl⟩)
      go_ret
      exact ⟨ret_bool (by simp [hd]), rfl⟩

theorem newBytes_any (size : Int) (v s : Value) (w : World) (hv : ∃ a n c, v = .slice a n c) (hs : ∃ a n c, s = .slice a n c) :
    Calls Tryf.prog 10 #[.int .i64 size, v, s] w fun e w' => e = .returned (.pointer (some ⟨w.heap.size, 0, none⟩)) ∧ w' = w.alloc (.cells #[.int .i64 size, v, s] 40) := by
  obtain ⟨a, n, c, rfl⟩ := hv
  obtain ⟨a', n', c', rfl⟩ := hs
  go_enter Tryf.func10, Tryf.ntmps10
  go_wp2
  go_ret
  exact ⟨rfl, rfl⟩

theorem zzsize_any (b : Nat) (v : Int) (w : World) (h : w.cell? ⟨b, 0, none⟩ = some (.int .i64 v)) :
    Calls Tryf.prog 12 #[.pointer (some ⟨b, 0, none⟩)] w fun e w' => e = .returned (.int .i64 v) ∧ w' = w := by
  go_enter Tryf.func12, Tryf.ntmps12
  go_wp2
  go_ret
  exact ⟨rfl, rfl⟩

theorem zzchunks_any (b : Nat) (a : Option Addr) (n c : Nat) (w : World) (h : w.cell? ⟨b, 1, none⟩ = some (.slice a n c)) :
    Calls Tryf.prog 14 #[.pointer (some ⟨b, 0, none⟩)] w fun e w' => e = .returned (.slice a n c) ∧ w' = w := by
  go_enter Tryf.func14, Tryf.ntmps14
  go_wp2
  go_ret
  exact ⟨rfl, rfl⟩

theorem zzshared_any (b : Nat) (a : Option Addr) (n c : Nat) (w : World) (h : w.cell? ⟨b, 2, none⟩ = some (.slice a n c)) :
    Calls Tryf.prog 15 #[.pointer (some ⟨b, 0, none⟩)] w fun e w' => e = .returned (.slice a n c) ∧ w' = w := by
  go_enter Tryf.func15, Tryf.ntmps15
  go_wp2
  go_ret
  exact ⟨rfl, rfl⟩

theorem check_any (b : Nat) (size off : Int) (a : Option Addr) (n c : Nat) (w : World) (h : w.cell? ⟨b, 0, none⟩ = some (.int .i64 size)) (h0 : 0 ≤ off) (h1 : (n : Int) ≤ size - off) (h2 : size ≤ 4294967296) :
    Calls Tryf.prog 19 #[.pointer (some ⟨b, 0, none⟩), .int .i64 off, .slice a n c] w fun e w' => e = .returned (.tuple #[]) ∧ w' = w := by
  go_enter Tryf.func19, Tryf.ntmps19
  go_wp2
  go_end0
  exact ⟨rfl, rfl⟩

/-! ### the want -/
def want (w0 : Bool) (Z : Nat → Int) (off : Int) (n : Nat) (P : Nat → Int) (i j : Nat) : Int :=
  if off ≤ (i : Int) * 65536 + j ∧ (i : Int) * 65536 + j - off < n then P ((i : Int) * 65536 + j - off).toNat else if w0 then Z j else 0

set_option maxHeartbeats 1000000 in
theorem want_any (w : World) (a : Option Addr) (n c : Nat) (A : Nat → Option Addr) (L C : Nat → Nat) (Z : Nat → Nat → Int) (off : Int) (pa : Option Addr) (pn pc : Nat) (P : Nat → Int) (i j : Nat)
    (hr : IsRows w a n A L C Z) (hp : IsBytes w pa pn P) (hi : i < n) (hi' : i ≤ 65536) (hj : j ≤ 65536) (hA : A i ≠ none → j < L i) (h0 : 0 ≤ off) (h1 : off ≤ 4294967296) (h2 : pn ≤ 1048576) :
    Calls Tryf.prog 20 #[.slice a n c, .int .i64 off, .slice pa pn pc, .int .i64 i, .int .i64 j] w fun e w' =>
      e = .returned (.int .u8 (want (A i).isSome (Z i) off pn P i j)) ∧ w' = w := by
  have q := q24n
  obtain ⟨b, o, rfl, hc⟩ := hr.top i hi
  unfold want
  by_cases hx : off ≤ (i : Int) * 65536 + j
  · by_cases hy : (i : Int) * 65536 + j - off < pn
    · rw [if_pos ⟨hx, hy⟩]
      obtain ⟨k, hk⟩ : ∃ k : Nat, (i : Int) * 65536 + j - off = k := ⟨_, (Int.toNat_of_nonneg (by omega)).symm⟩
      obtain ⟨pb, po, rfl, hpc⟩ := hp k (by omega)
      have hpc' : w.cell? ⟨pb, po + ((i : Int) * 65536 + j - off).toNat, none⟩ = some (.int .u8 (P ((i : Int) * 65536 + j - off).toNat)) := by rw [hk]; simpa using hpc
      clear hr hp hk hpc
      go_enter Tryf.func20, Tryf.ntmps20
      go_wp2
      go_ret
      exact ⟨rfl, rfl⟩
    · rw [if_neg (fun h => hy h.2)]
      cases hAi : A i with
      | none =>
        obtain ⟨hL0, hC0⟩ := hr.nil i hi hAi
        rw [hAi, hL0, hC0] at hc
        clear hr hp hAi hL0 hC0 hA
        go_enter Tryf.func20, Tryf.ntmps20
        go_wp2
        go_ret
        exact ⟨rfl, rfl⟩
      | some ai =>
        have hjl := hA (by simp [hAi])
        obtain ⟨b', o', he, hz⟩ := hr.row i hi j hjl
        rw [he] at hAi hc
        cases hAi
        clear hr hp hA he
        go_enter Tryf.func20, Tryf.ntmps20
        go_wp2
        go_ret
        exact ⟨rfl, rfl⟩
  · rw [if_neg (fun h => hx h.1)]
    have hd : decide (off ≤ (i : Int) * 65536 + j) = false := by simpa using hx
    cases hAi : A i with
    | none =>
      obtain ⟨hL0, hC0⟩ := hr.nil i hi hAi
      rw [hAi, hL0, hC0] at hc
      clear hr hp hAi hL0 hC0 hA
      go_enter Tryf.func20, Tryf.ntmps20
      go_wp2
      go_ret
      exact ⟨rfl, rfl⟩
    | some ai =>
      have hjl := hA (by simp [hAi])
      obtain ⟨b', o', he, hz⟩ := hr.row i hi j hjl
      rw [he] at hAi hc
      cases hAi
      clear hr hp hA he
      go_enter Tryf.func20, Tryf.ntmps20
      go_wp2
      go_ret
      exact ⟨rfl, rfl⟩

end Go.Proofs.Qxb6628324aFmt
