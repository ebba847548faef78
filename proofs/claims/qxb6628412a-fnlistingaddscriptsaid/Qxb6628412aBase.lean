import Derived.Test.Qxb6628412aRows
import Derived.WalkKit
import Derived.WalkSpells
import Derived.WalkLawsBesides
import Derived.Deep.LoopGhost
import Derived.Deep.OwnRows
import Derived.BigQuiet
namespace Go.Proofs.Qxb6628412a
open Go.RowKit Go.Deep

/-- One line of the script. -/
structure AddR where
  rule : Int
  level : ByteArray
  file : ByteArray
  line : Int
  kind : ByteArray
  name : ByteArray
  msg : ByteArray

/-- A slice of strings: its elements. -/
def IsStrs (w : World) (a : Option Addr) (n : Nat) (S : Nat → ByteArray) : Prop :=
  ∀ j, j < n → ∃ b o, a = some ⟨b, o, none⟩ ∧ w.cell? ⟨b, o + j, none⟩ = some (.string (S j))

structure AddAt (w : World) (b o : Nat) (x : AddR) : Prop where
  c0 : w.cell? ⟨b, o, none⟩ = some (.int .i64 x.rule)
  c1 : w.cell? ⟨b, o + 1, none⟩ = some (.string x.level)
  c2 : w.cell? ⟨b, o + 2, none⟩ = some (.string x.file)
  c3 : w.cell? ⟨b, o + 3, none⟩ = some (.int .i64 x.line)
  c4 : w.cell? ⟨b, o + 4, none⟩ = some (.string x.kind)
  c5 : w.cell? ⟨b, o + 5, none⟩ = some (.string x.name)
  c6 : w.cell? ⟨b, o + 6, none⟩ = some (.string x.msg)

/-- A slice of lines of the script. -/
def IsAdds (w : World) (a : Option Addr) (n : Nat) (X : Nat → AddR) : Prop :=
  ∀ j, j < n → ∃ b o, a = some ⟨b, o, none⟩ ∧ AddAt w b (o + j * 7) (X j)

theorem bcell {W w1 : World} (hb : Below W.heap.size W w1) {a : Addr} {v : Value} (h : W.cell? a = some v) : w1.cell? a = some v := cell_later hb h

theorem IsStrs.later {W w1 : World} {a : Option Addr} {n : Nat} {S : Nat → ByteArray} (h : IsStrs W a n S) (hb : Below W.heap.size W w1) : IsStrs w1 a n S := by
  intro j hj
  obtain ⟨b, o, e, hc⟩ := h j hj
  exact ⟨b, o, e, bcell hb hc⟩

theorem AddAt.later {W w1 : World} {b o : Nat} {x : AddR} (h : AddAt W b o x) (hb : Below W.heap.size W w1) : AddAt w1 b o x :=
  ⟨bcell hb h.c0, bcell hb h.c1, bcell hb h.c2, bcell hb h.c3, bcell hb h.c4, bcell hb h.c5, bcell hb h.c6⟩

theorem IsAdds.later {W w1 : World} {a : Option Addr} {n : Nat} {X : Nat → AddR} (h : IsAdds W a n X) (hb : Below W.heap.size W w1) : IsAdds w1 a n X := by
  intro j hj
  obtain ⟨b, o, e, hc⟩ := h j hj
  exact ⟨b, o, e, hc.later hb⟩

theorem below_drewN {B : Nat} {a w : World} (h : Below B a w) (m : Nat) : Below B a (w.drewN m) := ⟨h.os, h.tape, h.output, h.size, h.block⟩

theorem rowIs_below {w w' : World} {B b t n : Nat} {f : Nat → Value} (h : w.rowIs b t n f) (hb : Below B w w') (hlt : b < B) : w'.rowIs b t n f := h.of_block (hb.block b hlt)

theorem info3 : (Try.prog.info? 3).map (fun i => (i.zero, i.size, i.bytes)) = some (some (.int .i64 0), 1, 8) := by kernel_rfl
theorem info4 : (Try.prog.info? 4).map (fun i => (i.zero, i.size, i.bytes)) = some (some (.bool false), 1, 1) := by kernel_rfl
theorem info29 : (Try.prog.info? 29).map (fun i => (i.zero, i.size, i.bytes)) = some (some (.pointer none), 1, 8) := by kernel_rfl

end Go.Proofs.Qxb6628412a
