import Derived.Test.Qxb6628412aBase
import Derived.Deep.RegionHeld3
import Derived.Deep.RegionLaw
import Derived.BigRegion
namespace Go.Proofs.Qxb6628412a
open Go.RowKit Go.Deep
set_option linter.unusedVariables false

set_option maxHeartbeats 1000000 in
theorem ruleAt_any (w : World) (rb rn : Nat) (p : Option Addr) (i : Int) (h : (i < 0 ∧ p = none) ∨ (∃ k : Nat, i = k ∧ k < rn ∧ w.cell? ⟨rb, k, none⟩ = some (.pointer p))) :
    Calls Try.prog 10 #[.slice (some ⟨rb, 0, none⟩) rn rn, .int .i64 i] w fun e w' => e = .returned (.pointer p) ∧ w' = w := by
  rcases h with ⟨h1, rfl⟩ | ⟨k, rfl, h2, h3⟩
  · go_enter Try.func10, Try.ntmps10
    go_wp2
    go_ret
    exact ⟨rfl, rfl⟩
  · go_enter Try.func10, Try.ntmps10
    go_wp2
    go_ret
    exact ⟨rfl, rfl⟩

theorem findings_any (w : World) (lb : Nat) (v : Value) (a : Option Addr) (n c : Nat) (hv : v = .slice a n c) (h : w.cell? ⟨lb, 0, none⟩ = some v) :
    Calls Try.prog 7 #[.pointer (some ⟨lb, 0, none⟩)] w fun e w' => e = .returned v ∧ w' = w := by
  subst hv
  go_enter Try.func7, Try.ntmps7
  go_wp2
  go_ret
  exact ⟨rfl, rfl⟩

theorem ruleCount_any (w : World) (lb : Nat) (a : Option Addr) (n c : Nat) (h : w.cell? ⟨lb, 1, none⟩ = some (.slice a n c)) :
    Calls Try.prog 8 #[.pointer (some ⟨lb, 0, none⟩)] w fun e w' => e = .returned (.int .i64 n) ∧ w' = w := by
  go_enter Try.func8, Try.ntmps8
  go_wp2
  go_ret
  exact ⟨rfl, rfl⟩

set_option maxHeartbeats 4000000 in
theorem makeFinding_any (w : World) (rb rn : Nat) (p : Option Addr) (i ln : Int) (s1 s2 s3 s4 s5 : ByteArray) (h : (i < 0 ∧ p = none) ∨ (∃ k : Nat, i = k ∧ k < rn ∧ w.cell? ⟨rb, k, none⟩ = some (.pointer p))) :
    Calls Try.prog 6 #[.slice (some ⟨rb, 0, none⟩) rn rn, .agg #[.int .i64 i, .string s1, .string s2, .int .i64 ln, .string s3, .string s4, .string s5]] w
      fun e w' => e = .returned (.agg #[.pointer p, .string s1, .string s2, .int .i64 ln, .string s3, .string s4, .string s5]) ∧ Below w.heap.size w w' := by
  have C : ∀ w1, Below w.heap.size w w1 → Calls Try.prog 10 #[.slice (some ⟨rb, 0, none⟩) rn rn, .int .i64 i] w1 fun e w' => e = .returned (.pointer p) ∧ w' = w1 := fun w1 hb => by
    refine ruleAt_any w1 rb rn p i ?_
    rcases h with h | ⟨k, h1, h2, h3⟩
    · exact .inl h
    · exact .inr ⟨k, h1, h2, bcell hb h3⟩
  clear h
  go_enter Try.func6, Try.ntmps6
  go_wp2
  go_region_held3 (fun w' => w'.cell? ⟨w.heap.size, 0, none⟩ = some (.int .i64 i) ∧ w'.cell? ⟨w.heap.size, 1, none⟩ = some (.string s1) ∧ w'.cell? ⟨w.heap.size, 2, none⟩ = some (.string s2) ∧ w'.cell? ⟨w.heap.size, 3, none⟩ = some (.int .i64 ln) ∧ w'.cell? ⟨w.heap.size, 4, none⟩ = some (.string s3) ∧ w'.cell? ⟨w.heap.size, 5, none⟩ = some (.string s4) ∧ w'.cell? ⟨w.heap.size, 6, none⟩ = some (.string s5)) (go_keep)
    (first | (go_at_call 10; refine (C _ ?_).mono ?_; (exact (((Below.refl _ _).alloc (Nat.le_refl _) _).alloc (by simp) _).drew); rintro e w' ⟨rfl, rfl⟩))
  go_wp2
  refine bodyPost_ret (v := .agg #[.pointer p, .string s1, .string s2, .int .i64 ln, .string s3, .string s4, .string s5]) (by simp [results, Try.results6, go_sem]) rfl ⟨rfl, ?_⟩
  exact (((Below.refl _ _).alloc (Nat.le_refl _) _).alloc (by simp) _).drew

/-- The cells of one rule's entry: its rule, the count, none left out, no first one. -/
structure RLAt (w : World) (b o : Nat) (p : Option Addr) (ls : Int) : Prop where
  c0 : w.cell? ⟨b, o, none⟩ = some (.pointer p)
  c1 : w.cell? ⟨b, o + 1, none⟩ = some (.int .i64 ls)
  c2 : w.cell? ⟨b, o + 2, none⟩ = some (.int .i64 0)
  c3 : w.cell? ⟨b, o + 3, none⟩ = some (.pointer none)
  c4 : w.cell? ⟨b, o + 4, none⟩ = some (.string { data := #[] })
  c5 : w.cell? ⟨b, o + 5, none⟩ = some (.string { data := #[] })
  c6 : w.cell? ⟨b, o + 6, none⟩ = some (.int .i64 0)
  c7 : w.cell? ⟨b, o + 7, none⟩ = some (.string { data := #[] })
  c8 : w.cell? ⟨b, o + 8, none⟩ = some (.string { data := #[] })
  c9 : w.cell? ⟨b, o + 9, none⟩ = some (.string { data := #[] })

set_option maxHeartbeats 4000000 in
theorem ruleAt2_any (w : World) (lb g n c j : Nat) (p : Option Addr) (ls : Int) (hl : w.cell? ⟨lb, 1, none⟩ = some (.slice (some ⟨g, 0, none⟩) n c)) (hj : j < n) (h : RLAt w g (j * 10) p ls) :
    Calls Try.prog 9 #[.pointer (some ⟨lb, 0, none⟩), .int .i64 j] w fun e w' => e = .returned (.tuple #[.pointer p, .int .i64 ls, .int .i64 0, .agg #[.pointer none, .string { data := #[] }, .string { data := #[] }, .int .i64 0, .string { data := #[] }, .string { data := #[] }, .string { data := #[] }]]) ∧ Below w.heap.size w w' := by
  obtain ⟨h0, h1, h2, h3, h4, h5, h6, h7, h8, h9⟩ := h
  have l1 : ∀ o, (w.alloc o).cell? ⟨lb, 1, none⟩ = some (.slice (some ⟨g, 0, none⟩) n c) := fun o => bcell ((Below.refl _ _).alloc (Nat.le_refl _) _) hl
  have a0 : ∀ o, (w.alloc o).cell? ⟨g, j * 10, none⟩ = some (.pointer p) := fun o => bcell ((Below.refl _ _).alloc (Nat.le_refl _) _) h0
  have a1 : ∀ o, (w.alloc o).cell? ⟨g, j * 10 + 1, none⟩ = _ := fun o => bcell ((Below.refl _ _).alloc (Nat.le_refl _) _) h1
  have a2 : ∀ o, (w.alloc o).cell? ⟨g, j * 10 + 2, none⟩ = _ := fun o => bcell ((Below.refl _ _).alloc (Nat.le_refl _) _) h2
  have a3 : ∀ o, (w.alloc o).cell? ⟨g, j * 10 + 3, none⟩ = _ := fun o => bcell ((Below.refl _ _).alloc (Nat.le_refl _) _) h3
  have a4 : ∀ o, (w.alloc o).cell? ⟨g, j * 10 + 4, none⟩ = _ := fun o => bcell ((Below.refl _ _).alloc (Nat.le_refl _) _) h4
  have a5 : ∀ o, (w.alloc o).cell? ⟨g, j * 10 + 5, none⟩ = _ := fun o => bcell ((Below.refl _ _).alloc (Nat.le_refl _) _) h5
  have a6 : ∀ o, (w.alloc o).cell? ⟨g, j * 10 + 6, none⟩ = _ := fun o => bcell ((Below.refl _ _).alloc (Nat.le_refl _) _) h6
  have a7 : ∀ o, (w.alloc o).cell? ⟨g, j * 10 + 7, none⟩ = _ := fun o => bcell ((Below.refl _ _).alloc (Nat.le_refl _) _) h7
  have a8 : ∀ o, (w.alloc o).cell? ⟨g, j * 10 + 8, none⟩ = _ := fun o => bcell ((Below.refl _ _).alloc (Nat.le_refl _) _) h8
  have a9 : ∀ o, (w.alloc o).cell? ⟨g, j * 10 + 9, none⟩ = _ := fun o => bcell ((Below.refl _ _).alloc (Nat.le_refl _) _) h9
  clear hl h0 h1 h2 h3 h4 h5 h6 h7 h8 h9
  go_enter Try.func9, Try.ntmps9
  go_wp2
  go_region_held3 (fun w' => w'.cell? ⟨w.heap.size + 1, 0, none⟩ = some (.pointer p) ∧ w'.cell? ⟨w.heap.size + 1, 1, none⟩ = some (.int .i64 ls) ∧ w'.cell? ⟨w.heap.size + 1, 2, none⟩ = some (.int .i64 0) ∧ w'.cell? ⟨w.heap.size + 1, 3, none⟩ = some (.pointer none) ∧ w'.cell? ⟨w.heap.size + 1, 4, none⟩ = some (.string { data := #[] }) ∧ w'.cell? ⟨w.heap.size + 1, 5, none⟩ = some (.string { data := #[] }) ∧ w'.cell? ⟨w.heap.size + 1, 6, none⟩ = some (.int .i64 0) ∧ w'.cell? ⟨w.heap.size + 1, 7, none⟩ = some (.string { data := #[] }) ∧ w'.cell? ⟨w.heap.size + 1, 8, none⟩ = some (.string { data := #[] }) ∧ w'.cell? ⟨w.heap.size + 1, 9, none⟩ = some (.string { data := #[] })) (go_keep) (fail)
  go_wp2
  refine bodyPost_ret (v := .tuple #[.pointer p, .int .i64 ls, .int .i64 0, .agg #[.pointer none, .string { data := #[] }, .string { data := #[] }, .int .i64 0, .string { data := #[] }, .string { data := #[] }, .string { data := #[] }]]) (by simp [results, Try.results9, go_sem]) rfl ⟨rfl, ?_⟩
  exact (((Below.refl _ _).alloc (Nat.le_refl _) _).alloc (by simp) _).drew

end Go.Proofs.Qxb6628412a
