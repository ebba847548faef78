import Derived.Test.Qxb6628416aRows
import Derived.WalkKit
import Derived.WalkSpells
import Derived.WalkLawsBesides
import Derived.Deep.LoopGhost
import Derived.Deep.OwnRows
import Derived.BigQuiet
import Derived.BigRegion
import Derived.Deep.RegionHeld3
import Derived.Laws.CopyRow
namespace Go.Proofs.Qxb6628416a
open Go.RowKit Go.Deep
set_option linter.unusedVariables false

theorem hid_of {p : Prop} (h : p) : Hid p := h

/-- A slice of triples. -/
def IsSegs (w : World) (a : Option Addr) (n : Nat) (S : Nat → Nat → Int) : Prop :=
  ∀ j, j < n → ∃ b o, a = some ⟨b, o, none⟩ ∧ w.cell? ⟨b, o + j * 3, none⟩ = some (.int .i64 (S j 0)) ∧ w.cell? ⟨b, o + j * 3 + 1, none⟩ = some (.int .i64 (S j 1)) ∧ w.cell? ⟨b, o + j * 3 + 2, none⟩ = some (.int .i64 (S j 2))

theorem bcell {W w1 : World} (hb : Below W.heap.size W w1) {a : Addr} {v : Value} (h : W.cell? a = some v) : w1.cell? a = some v := cell_later hb h

theorem IsSegs.later {W w1 : World} {a : Option Addr} {n : Nat} {S : Nat → Nat → Int} (h : IsSegs W a n S) (hb : Below W.heap.size W w1) : IsSegs w1 a n S := by
  intro j hj
  obtain ⟨b, o, e, h0, h1, h2⟩ := h j hj
  exact ⟨b, o, e, bcell hb h0, bcell hb h1, bcell hb h2⟩

theorem below_drewN {B : Nat} {a w : World} (h : Below B a w) (m : Nat) : Below B a (w.drewN m) := ⟨h.os, h.tape, h.output, h.size, h.block⟩

/-- Block g is a row of n triples of numbers. -/
def Row (w : World) (g : Nat) (t : TypeId) (n : Nat) (S : Nat → Nat → Int) : Prop :=
  ∃ cur, w.heap[g]? = some (.cells cur t (0, 0)) ∧ cur.size = n * 3 ∧ ∀ j c, j < n → c < 3 → cur[j * 3 + c]? = some (.int .i64 (S j c))

namespace Row
variable {w w' : World} {g : Nat} {t : TypeId} {n : Nat} {S T : Nat → Nat → Int}
theorem cell (h : Row w g t n S) {j c : Nat} (hj : j < n) (hc : c < 3) : w.cell? ⟨g, j * 3 + c, none⟩ = some (.int .i64 (S j c)) := by
  obtain ⟨cur, hh, _, hF⟩ := h
  simp [World.cell?, hh, hF j c hj hc]
theorem frozen (h : Row w g t n S) (o : Nat) : w.frozen? ⟨g, o, none⟩ = false := by
  obtain ⟨cur, hh, _, hF⟩ := h
  simp [World.frozen?, hh]
theorem lt (h : Row w g t n S) : g < w.heap.size := by
  obtain ⟨cur, hh, _, hF⟩ := h
  exact (Array.getElem?_eq_some_iff.1 hh).1
theorem congr (h : Row w g t n S) (e : ∀ j c, j < n → c < 3 → S j c = T j c) : Row w g t n T := by
  obtain ⟨cur, hh, hs, hF⟩ := h
  exact ⟨cur, hh, hs, fun j c hj hc => by rw [hF j c hj hc, e j c hj hc]⟩
theorem of_block (h : Row w g t n S) (e : w'.heap[g]? = w.heap[g]?) : Row w' g t n S := by
  obtain ⟨cur, hh, hs, hF⟩ := h
  exact ⟨cur, e.trans hh, hs, hF⟩
theorem later (h : Row w g t n S) (hb : Below w.heap.size w w') : Row w' g t n S := h.of_block (hb.block g h.lt)
theorem set (h : Row w g t n S) (j c : Nat) (hc : c < 3) (x : Int) : Row (w.setCell ⟨g, j * 3 + c, none⟩ (.int .i64 x)) g t n (fun j' c' => if j' = j ∧ c' = c then x else S j' c') := by
  obtain ⟨cur, hh, hs, hF⟩ := h
  refine ⟨cur.setIfInBounds (j * 3 + c) (.int .i64 x), by simp [World.setCell, Array.getElem?_modify, hh], by simpa using hs, fun j' c' hj' hc' => ?_⟩
  rw [Array.getElem?_setIfInBounds]
  by_cases e : j' = j ∧ c' = c
  · obtain ⟨rfl, rfl⟩ := e
    simp
    omega
  · rw [if_neg (fun he => e (by omega))]
    show cur[j' * 3 + c']? = some (.int .i64 (if j' = j ∧ c' = c then x else S j' c'))
    rw [if_neg e]
    exact hF j' c' hj' hc'
theorem segs (h : Row w g t n S) : IsSegs w (some ⟨g, 0, none⟩) n S := fun j hj => ⟨g, 0, rfl, by simpa using h.cell hj (c := 0) (by omega), by simpa using h.cell hj (c := 1) (by omega), by simpa using h.cell hj (c := 2) (by omega)⟩
/-- Three cells written: element j anew. -/
theorem set3 (h : Row w g t n S) (j : Nat) (x y z : Int) :
    Row (((w.setCell ⟨g, j * 3, none⟩ (.int .i64 x)).setCell ⟨g, j * 3 + 1, none⟩ (.int .i64 y)).setCell ⟨g, j * 3 + 2, none⟩ (.int .i64 z)) g t n (fun j' c' => if j' = j then (if c' = 0 then x else if c' = 1 then y else z) else S j' c') := by
  refine (((h.set j 0 (by decide) x).set j 1 (by decide) y).set j 2 (by decide) z).congr fun j' c' hj' hc' => ?_
  by_cases e : j' = j
  · subst e
    match c', hc' with
    | 0, _ => simp
    | 1, _ => simp
    | 2, _ => simp
  · simp [e]
end Row

theorem made3 (m i : Nat) (hi : i < m) : (madeCells #[Value.int .i64 0, .int .i64 0, .int .i64 0] m)[i]? = some (.int .i64 0) := by
  have h3 : i % 3 < 3 := Nat.mod_lt _ (by decide)
  simp [madeCells, hi]
  match h : i % 3, h3 with
  | 0, _ => rfl
  | 1, _ => rfl
  | 2, _ => rfl

theorem Row.made (w : World) (t : TypeId) (n : Nat) : Row (w.alloc (.cells (madeCells #[.int .i64 0, .int .i64 0, .int .i64 0] (n * 3)) t)) w.heap.size t n (fun _ _ => 0) :=
  ⟨_, blk_alloc_new w _, size_madeCells _ _, fun j c hj hc => made3 _ _ (by omega)⟩

theorem info_parts {P : Program} {e : TypeId} {z : Value} {s b : Nat} (h : (P.info? e).map (fun i => (i.zero, i.size, i.bytes)) = some (some z, s, b)) : ∃ i, P.info? e = some i ∧ i.zero = some z ∧ i.size = s ∧ i.bytes = b := by
  obtain ⟨i, hi, hzz⟩ := Option.map_eq_some_iff.1 h
  simp only [Prod.mk.injEq] at hzz
  exact ⟨i, hi, hzz.1, hzz.2.1, hzz.2.2⟩
theorem info23 : (Try.prog.info? 23).map (fun i => (i.zero, i.size, i.bytes)) = some (some (.agg #[.int .i64 0, .int .i64 0, .int .i64 0]), 3, 24) := by kernel_rfl
theorem info31 : (Try.prog.info? 31).map (fun i => (i.zero, i.size, i.bytes)) = some (some (.agg #[.int .i64 0, .int .i64 0, .int .i64 0]), 3, 24) := by kernel_rfl

/-- 'make([]T, n)', T three numbers. -/
theorem run_make3 (t e : TypeId) (ht : Try.prog.underlying t = some (.slice e)) (hinfo : (Try.prog.info? e).map (fun i => (i.zero, i.size, i.bytes)) = some (some (.agg #[.int .i64 0, .int .i64 0, .int .i64 0]), 3, 24)) (n : Nat) (hn : n ≤ 1048577) (w : World) :
    (Instr.makeSlice t (.int .i64 (n : Int)) (.int .i64 (n : Int))).run Try.prog w = .ok (.slice (some ⟨w.heap.size, 0, none⟩) n n) (w.alloc (.cells (madeCells #[.int .i64 0, .int .i64 0, .int .i64 0] (n * 3)) e)) := by
  obtain ⟨i, hi, hz, hs, hb⟩ := info_parts hinfo
  have hr := run_make (P := Try.prog) w t e i _ ht hi hz .i64 .i64 n n (by omega) (by omega) (by rw [hb]; omega) (by omega)
  simp only [Int.toNat_natCast, hs] at hr
  exact hr

/-- copy of n triples onto a row of n triples. -/
theorem run_copy3 (w : World) (ty : TypeId) (g n sCap : Nat) (a : Addr) (cur : Array Value) (t : TypeId) (cs : List Value)
    (hg : w.heap[g]? = some (.cells cur t (0, 0))) (hn : cs.length = n * 3) (hsrc : ∀ j v, cs[j]? = some v → w.cell? (a.add j) = some v) (hfit : cur.size = n * 3) (h1 : ∀ v ∈ cs, v.oneCell' = true) :
    (Builtin.copy_ #[22, 22] ty #[.slice (some ⟨g, 0, none⟩) n n, .slice (some a) n sCap]).run Try.prog w = .ok (goInt n) (w.setRow g cs.toArray) := by
  obtain ⟨i, hi, hz, hs, hb⟩ := info_parts info23
  have hl := run_loadCells_list (P := Try.prog) w a cs hsrc
  have hst := run_storeCells_at Try.prog g 0 t cs 0 cur w hg (by omega) h1
  have e : (cur.toList.take (0 + 0) ++ cs ++ cur.toList.drop (0 + 0 + cs.length)).toArray = cs.toArray := by
    rw [List.drop_eq_nil_of_le (by simp; omega)]
    simp
  rw [e] at hst
  simp [Builtin.copy_, run_underlying Try.underlying22, Builtin.lenOf, Builtin.firstCells, sizeOf, typeInfo, hi, hs, ← hn, hl, hst]

end Go.Proofs.Qxb6628416a
