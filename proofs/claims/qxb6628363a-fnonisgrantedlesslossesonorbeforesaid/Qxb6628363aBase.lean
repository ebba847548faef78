import Derived.Test.Qxb6628363aTime
import Derived.WalkKit
import Derived.WalkSpells
import Derived.WalkLawsBesides
import Derived.Deep.LoopGhost
import Derived.Deep.OwnRows
import Derived.BigQuiet
namespace Go.Proofs.Qxb6628363a
open Go.RowKit Go.Deep

theorem q23e (w : World) (a : Option Addr) (n c n' c' : Nat) : (binOp .eql 23 (.slice a n c) (.slice none n' c')).run Try.prog w = .ok (.bool a.isNone) w := Lib.run_eql_slice_nil w _ _ a n c n' c' Try.underlying23
theorem q22e (w : World) (a : Option Addr) (n c n' c' : Nat) : (binOp .eql 22 (.slice a n c) (.slice none n' c')).run Try.prog w = .ok (.bool a.isNone) w := Lib.run_eql_slice_nil w _ _ a n c n' c' Try.underlying22
theorem q23n (w : World) (a : Option Addr) (n c n' c' : Nat) : (binOp .neq 23 (.slice a n c) (.slice none n' c')).run Try.prog w = .ok (.bool (!a.isNone)) w := run_neq_slice_nil_any w _ _ a n c n' c' Try.underlying23
theorem q22n (w : World) (a : Option Addr) (n c n' c' : Nat) : (binOp .neq 22 (.slice a n c) (.slice none n' c')).run Try.prog w = .ok (.bool (!a.isNone)) w := run_neq_slice_nil_any w _ _ a n c n' c' Try.underlying22

theorem info2 : (Try.prog.info? 2).map (fun i => (i.zero, i.size, i.bytes)) = some (some (.int .i64 0), 1, 8) := by kernel_rfl
theorem info22 : (Try.prog.info? 22).map (fun i => (i.zero, i.size, i.bytes)) = some (some (.slice none 0 0), 1, 24) := by kernel_rfl

/-- A slice of bytes: its elements. -/
def IsInts (w : World) (a : Option Addr) (n : Nat) (Z : Nat → Int) : Prop :=
  ∀ j, j < n → ∃ b o, a = some ⟨b, o, none⟩ ∧ w.cell? ⟨b, o + j, none⟩ = some (.int .i64 (Z j))

/-- A slice of slices of bytes. -/
structure IsRows (w : World) (a : Option Addr) (n : Nat) (A : Nat → Option Addr) (L C : Nat → Nat) (Z : Nat → Nat → Int) : Prop where
  top : ∀ r, r < n → ∃ b o, a = some ⟨b, o, none⟩ ∧ w.cell? ⟨b, o + r, none⟩ = some (.slice (A r) (L r) (C r))
  len : ∀ r, r < n → L r ≤ 9223372036854775807
  nil : ∀ r, r < n → A r = none → L r = 0 ∧ C r = 0
  row : ∀ r, r < n → IsInts w (A r) (L r) (Z r)

theorem bcell {W w1 : World} (hb : Below W.heap.size W w1) {a : Addr} {v : Value} (h : W.cell? a = some v) : w1.cell? a = some v := cell_later hb h

theorem IsInts.later {W w1 : World} {a : Option Addr} {n : Nat} {Z : Nat → Int} (h : IsInts W a n Z) (hb : Below W.heap.size W w1) : IsInts w1 a n Z := by
  intro j hj
  obtain ⟨b, o, e, hc⟩ := h j hj
  exact ⟨b, o, e, bcell hb hc⟩

theorem IsRows.later {W w1 : World} {a : Option Addr} {n : Nat} {A : Nat → Option Addr} {L C : Nat → Nat} {Z : Nat → Nat → Int} (h : IsRows W a n A L C Z) (hb : Below W.heap.size W w1) : IsRows w1 a n A L C Z :=
  ⟨fun r hr => by obtain ⟨b, o, e, hc⟩ := h.top r hr; exact ⟨b, o, e, bcell hb hc⟩, h.len, h.nil, fun r hr => (h.row r hr).later hb⟩

theorem below_drewN {B : Nat} {a w : World} (h : Below B a w) (m : Nat) : Below B a (w.drewN m) := ⟨h.os, h.tape, h.output, h.size, h.block⟩

theorem rowIs_below {w w' : World} {B b t n : Nat} {f : Nat → Value} (h : w.rowIs b t n f) (hb : Below B w w') (hlt : b < B) : w'.rowIs b t n f := h.of_block (hb.block b hlt)

theorem IsInts.drewN {w : World} {a : Option Addr} {n : Nat} {Z : Nat → Int} (h : IsInts w a n Z) (m : Nat) : IsInts (w.drewN m) a n Z := h
theorem IsRows.drewN {w : World} {a : Option Addr} {n : Nat} {A : Nat → Option Addr} {L C : Nat → Nat} {Z : Nat → Nat → Int} (h : IsRows w a n A L C Z) (m : Nat) : IsRows (w.drewN m) a n A L C Z := ⟨h.top, h.len, h.nil, h.row⟩

end Go.Proofs.Qxb6628363a
