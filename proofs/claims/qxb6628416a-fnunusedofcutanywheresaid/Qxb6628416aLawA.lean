import Derived.Test.Qxb6628416aZZ
import Derived.Deep.DeepCutAuto
import Derived.Deep.CutBlock
namespace Go.Proofs.Qxb6628416a
open Go.RowKit Go.Deep
set_option linter.unusedVariables false

theorem q22n (w : World) (a : Option Addr) (n c n' c' : Nat) : (binOp .neq 22 (.slice a n c) (.slice none n' c')).run Try.prog w = .ok (.bool (!a.isNone)) w := run_neq_slice_nil_any w _ _ a n c n' c' Try.underlying22

def flat3 (S : Nat → Nat → Int) (n : Nat) : List Value := (List.range (n * 3)).map fun i => .int .i64 (S (i / 3) (i % 3))

/-- A copy of the segments: a new row. -/
theorem copied (w : World) (ad : Addr) (n c : Nat) (S : Nat → Nat → Int) (h : IsSegs w (some ad) n S) :
    (∀ ty, (Builtin.copy_ #[22, 22] ty #[.slice (some ⟨w.heap.size, 0, none⟩) n n, .slice (some ad) n c]).run Try.prog (w.alloc (.cells (madeCells #[.int .i64 0, .int .i64 0, .int .i64 0] (n * 3)) 23)) =
      .ok (goInt n) ((w.alloc (.cells (madeCells #[.int .i64 0, .int .i64 0, .int .i64 0] (n * 3)) 23)).setRow w.heap.size (flat3 S n).toArray)) ∧
    Below w.heap.size w ((w.alloc (.cells (madeCells #[.int .i64 0, .int .i64 0, .int .i64 0] (n * 3)) 23)).setRow w.heap.size (flat3 S n).toArray) ∧
    Row ((w.alloc (.cells (madeCells #[.int .i64 0, .int .i64 0, .int .i64 0] (n * 3)) 23)).setRow w.heap.size (flat3 S n).toArray) w.heap.size 23 n S := by
  have hb1 : Below w.heap.size w (w.alloc (.cells (madeCells #[.int .i64 0, .int .i64 0, .int .i64 0] (n * 3)) 23)) := (Below.refl _ _).alloc (Nat.le_refl _) _
  have hblk := blk_alloc_new w (.cells (madeCells #[.int .i64 0, .int .i64 0, .int .i64 0] (n * 3)) 23)
  refine ⟨fun ty => run_copy3 _ ty w.heap.size n c ad _ 23 (flat3 S n) hblk (by simp [flat3]) (fun i v hv => ?_) (size_madeCells _ _) (fun v hv => ?_), ?_, ?_⟩
  · by_cases hi : i < n * 3
    · simp only [flat3, List.getElem?_map, List.getElem?_range hi, Option.map_some] at hv
      cases hv
      have hi3 : i / 3 < n := by omega
      obtain ⟨b, o, e, c0, c1, c2⟩ := h (i / 3) hi3
      cases e
      have hadd : (⟨b, o, none⟩ : Addr).add i = ⟨b, o + i, none⟩ := by unfold Addr.add; split <;> simp_all
      rw [hadd]
      refine bcell hb1 ?_
      have hm : i % 3 < 3 := Nat.mod_lt _ (by decide)
      match hq : i % 3, hm with
      | 0, _ => rw [show o + i = o + i / 3 * 3 by omega]; exact c0
      | 1, _ => rw [show o + i = o + i / 3 * 3 + 1 by omega]; exact c1
      | 2, _ => rw [show o + i = o + i / 3 * 3 + 2 by omega]; exact c2
    · rw [List.getElem?_eq_none (by simp [flat3]; omega)] at hv
      cases hv
  · simp only [flat3, List.mem_map] at hv
    obtain ⟨i, _, rfl⟩ := hv
    rfl
  · exact hb1.trans ⟨rfl, rfl, rfl, by simp [World.setRow], fun k hk => setRow_other _ _ k _ (by omega)⟩
  · refine ⟨(flat3 S n).toArray, setRow_heap _ _ _ _ _ _ hblk, by simp [flat3], fun j c hj hc => ?_⟩
    have hi : j * 3 + c < n * 3 := by omega
    have e1 : (j * 3 + c) / 3 = j := by omega
    have e2 : (j * 3 + c) % 3 = c := by omega
    simp only [flat3, List.getElem?_toArray, List.getElem?_map, List.getElem?_range hi, Option.map_some, e1, e2]

/-- While 'grown' is laid. -/
structure GS (w2 wr : World) (n k : Nat) (S : Nat → Nat → Int) : Prop where
  bel : Below w2.heap.size w2 wr
  row : Row wr w2.heap.size 23 (n + 1) (fun j c => if j < k then S j c else 0)

theorem GS.start (w2 : World) (n : Nat) (S : Nat → Nat → Int) : GS w2 (w2.alloc (.cells (madeCells #[.int .i64 0, .int .i64 0, .int .i64 0] ((n + 1) * 3)) 23)) n 0 S :=
  ⟨(Below.refl _ _).alloc (Nat.le_refl _) _, (Row.made w2 23 (n + 1)).congr fun j c _ _ => by simp⟩

theorem GS.step {w2 wr : World} {n k : Nat} {S : Nat → Nat → Int} (h : GS w2 wr n k S) :
    GS w2 (((wr.setCell ⟨w2.heap.size, k * 3, none⟩ (.int .i64 (S k 0))).setCell ⟨w2.heap.size, k * 3 + 1, none⟩ (.int .i64 (S k 1))).setCell ⟨w2.heap.size, k * 3 + 2, none⟩ (.int .i64 (S k 2))) n (k + 1) S := by
  refine ⟨(((h.bel.setCell (Nat.le_refl _) _).setCell (Nat.le_refl _) _).setCell (Nat.le_refl _) _), (h.row.set3 k (S k 0) (S k 1) (S k 2)).congr fun j c hj hc => ?_⟩
  by_cases e : j = k
  · subst e
    match c, hc with
    | 0, _ => simp
    | 1, _ => simp
    | 2, _ => simp
  · by_cases e' : j < k
    · simp [e, e', show j < k + 1 by omega]
    · simp [e, e', show ¬ j < k + 1 by omega]

/-- segs with (x, y, z) on top. -/
def top3 (S : Nat → Nat → Int) (n : Nat) (x y z : Int) : Nat → Nat → Int := fun j c => if j < n then S j c else if c = 0 then x else if c = 1 then y else z

theorem GS.done {w2 wr : World} {n : Nat} {S : Nat → Nat → Int} (h : GS w2 wr n n S) (x y z : Int) :
    Below w2.heap.size w2 (((wr.setCell ⟨w2.heap.size, n * 3, none⟩ (.int .i64 x)).setCell ⟨w2.heap.size, n * 3 + 1, none⟩ (.int .i64 y)).setCell ⟨w2.heap.size, n * 3 + 2, none⟩ (.int .i64 z)) ∧
    Row (((wr.setCell ⟨w2.heap.size, n * 3, none⟩ (.int .i64 x)).setCell ⟨w2.heap.size, n * 3 + 1, none⟩ (.int .i64 y)).setCell ⟨w2.heap.size, n * 3 + 2, none⟩ (.int .i64 z)) w2.heap.size 23 (n + 1) (top3 S n x y z) := by
  refine ⟨(((h.bel.setCell (Nat.le_refl _) _).setCell (Nat.le_refl _) _).setCell (Nat.le_refl _) _), (h.row.set3 n x y z).congr fun j c hj hc => ?_⟩
  by_cases e : j = n
  · subst e
    simp [top3]
  · simp [top3, e, show j < n by omega]

theorem runOf_top_old (S : Nat → Nat → Int) (n : Nat) (x y z : Int) (j : Nat) (hj : j < n) : runOf (top3 S n x y z) j = runOf S j := by
  induction j with
  | zero => rfl
  | succ j ih =>
    unfold runOf
    rw [ih (by omega)]
    simp [top3, hj, show j < n by omega]

/-- The answer on top of a gap, or of nothing. -/
theorem back_gap (S : Nat → Nat → Int) (n : Nat) (x y z : Int) (h : n = 0 ∨ S (n - 1) 2 ≠ x) : top3 S n x y z (runOf (top3 S n x y z) n) 1 = y := by
  have : runOf (top3 S n x y z) n = n := by
    cases n with
    | zero => rfl
    | succ m =>
      refine runOf_stop ?_
      rcases h with h | h
      · omega
      · simpa [top3] using h
  rw [this]
  simp [top3]

/-- .. where it follows on. -/
theorem back_join (S : Nat → Nat → Int) (m : Nat) (x y z : Int) (h : S m 2 = x) : top3 S (m + 1) x y z (runOf (top3 S (m + 1) x y z) (m + 1)) 1 = S (runOf S m) 1 := by
  have e : runOf (top3 S (m + 1) x y z) (m + 1) = runOf S m := by
    rw [runOf_go (by simpa [top3] using h), runOf_top_old _ _ _ _ _ _ (by omega)]
  have := runOf_le S m
  rw [e]
  simp [top3, show runOf S m < m + 1 by omega]

theorem top_end (S : Nat → Nat → Int) (n : Nat) (x y z : Int) : top3 S n x y z (n + 1 - 1) 2 = z := by simp [top3]

end Go.Proofs.Qxb6628416a
