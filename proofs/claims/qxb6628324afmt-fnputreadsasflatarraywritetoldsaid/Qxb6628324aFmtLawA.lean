import Derived.Test.Qxb6628324aFmtUse
namespace Go.Proofs.Qxb6628324aFmt
open Go.RowKit Go.Deep
set_option linter.unusedVariables false

/-- putWellFormed, shared nil or not. -/
theorem wf_use (w : World) (size off : Int) (a : Option Addr) (n c : Nat) (A : Nat → Option Addr) (L C : Nat → Nat) (Z : Nat → Nat → Int) (sa : Option Addr) (sn sc : Nat) (S : Nat → Bool) (pa : Option Addr) (pn pc : Nat)
    (hr : IsRows w a n A L C Z) (hS : IsBools w sa sn S) (hsn : sn ≤ 9223372036854775807) (hsa : sa = none → sn = 0 ∧ sc = 0) (hn : n ≤ 65536) (hp : pn ≤ 1048576) (hs0 : -9223372036854775808 ≤ size) (hs1 : size ≤ 9223372036854775807) (ho0 : -9223372036854775808 ≤ off) (ho1 : off ≤ 9223372036854775807) :
    Calls Tryf.prog 6 #[.int .i64 size, .slice a n c, .slice sa sn sc, .int .i64 off, .slice pa pn pc] w fun e w' => RetB e (WF size n A L off pn ∧ (sa ≠ none → sn = n ∧ ∀ i, i < n → S i = true → A i ≠ none)) ∧ ∃ m, w' = w.drewN m := by
  cases sa with
  | none =>
    obtain ⟨rfl, rfl⟩ := hsa rfl
    refine (wf_nil w size off a n c A L C Z pa pn pc hr hn hp hs0 hs1 ho0 ho1).mono ?_
    rintro e w' ⟨⟨b, rfl, hb⟩, hw⟩
    exact ⟨⟨b, rfl, fun h => ⟨hb h, fun h' => absurd rfl h'⟩⟩, hw⟩
  | some sa =>
    refine (wf_some w size off a n c A L C Z sa sn sc S pa pn pc hr hS hsn hn hp hs0 hs1 ho0 ho1).mono ?_
    rintro e w' ⟨⟨b, rfl, hb⟩, hw⟩
    exact ⟨⟨b, rfl, fun h => ⟨(hb h).1, fun _ => (hb h).2⟩⟩, hw⟩

/-- which block bears the marks -/
def shOf (a : Option Addr) (b : Nat) : Option Nat := if a = none then none else some b

/-- which block bears the chunks: none, where there are none -/
def cbOf (n x y : Nat) : Nat := if 0 < n then x else y
theorem cbOf_pos {n x y : Nat} (h : 0 < n) : cbOf n x y = x := by simp [cbOf, h]

section
variable {wa w1 w2 w3 w4 w5 w6 w7 w8 : World} {size off : Int} {a a1 a2 a3 a4 pa sa b1 b2 : Option Addr} {n pn sn : Nat} {A : Nat → Option Addr} {L C : Nat → Nat} {Z : Nat → Nat → Int} {S : Nat → Bool} {P : Nat → Int} {G1 G3 : Nat → Option Nat}

/-- What the six clones have left. -/
structure Cl (wa w1 w2 w3 w4 w5 w6 : World) (a1 a2 a3 a4 sa b1 b2 : Option Addr) (n pn sn : Nat) (A : Nat → Option Addr) (L : Nat → Nat) (Z : Nat → Nat → Int) (S : Nat → Bool) (P : Nat → Int) (G1 G3 : Nat → Option Nat) : Prop where
  B1 : Below wa.heap.size wa w1
  C1 : 0 < n → a1 = some ⟨wa.heap.size, 0, none⟩ ∧ CloC wa w1 n n A L Z G1
  B2 : Below w1.heap.size w1 w2
  N2 : sa = none → b1 = none ∧ w2 = w1
  C2 : sa ≠ none → b1 = some ⟨w1.heap.size, 0, none⟩ ∧ CloB w1 w2 sn sn S
  B3 : Below w2.heap.size w2 w3
  C3 : 0 < pn → a2 = some ⟨w2.heap.size, 0, none⟩ ∧ Clo w2 w3 pn pn P
  B4 : Below w3.heap.size w3 w4
  C4 : 0 < n → a3 = some ⟨w3.heap.size, 0, none⟩ ∧ CloC w3 w4 n n A L Z G3
  B5 : Below w4.heap.size w4 w5
  N5 : sa = none → b2 = none ∧ w5 = w4
  C5 : sa ≠ none → b2 = some ⟨w4.heap.size, 0, none⟩ ∧ CloB w4 w5 sn sn S
  B6 : Below w5.heap.size w5 w6
  C6 : 0 < pn → a4 = some ⟨w5.heap.size, 0, none⟩ ∧ Clo w5 w6 pn pn P

theorem Cl.G (h : Cl wa w1 w2 w3 w4 w5 w6 a1 a2 a3 a4 sa b1 b2 n pn sn A L Z S P G1 G3) {i : Nat} (hi : i < n) : G1 i = none ↔ G3 i = none :=
  ((h.C1 (by omega)).2.nil i hi).trans ((h.C4 (by omega)).2.nil i hi).symm

theorem law3_mem (h : Cl wa w1 w2 w3 w4 w5 w6 a1 a2 a3 a4 sa b1 b2 n pn sn A L Z S P G1 G3) (hsn : sa ≠ none → sn = n) (hsn0 : sa = none → sn = 0)
    (HW7 : w7 = w6.alloc (.cells #[.int .i64 size, .slice a3 n n, .slice b2 sn sn] 40)) (hL : ∀ i, i < n → A i ≠ none → L i = Ln size i) :
    w7.cell? ⟨w6.heap.size, 0, none⟩ = some (.int .i64 size) ∧
    (0 < n → ∃ pb, (0 < pn → a4 = some ⟨pb, 0, none⟩) ∧ Mem w3.heap.size w7 w6.heap.size (cbOf n w3.heap.size w7.heap.size) pb 0 pn n (shOf sa w4.heap.size) size P G3 L Z S) ∧
    (∀ i, i < n → (ga G1 i = none ↔ G3 i = none)) ∧ (∀ i, i < n → ga G1 i ≠ none → gl G1 L i = Ln size i) := by
  have z45 := h.B5.size
  have z56 := h.B6.size
  have b7 : Below w6.heap.size w6 w7 := by rw [HW7]; exact (Below.refl _ _).alloc (Nat.le_refl _) _
  have s7 : w7.heap.size = w6.heap.size + 1 := by rw [HW7]; simp
  have hblk : w7.heap[w6.heap.size]? = some (.cells #[.int .i64 size, .slice a3 n n, .slice b2 sn sn] 40) := by rw [HW7]; exact blk_alloc_new _ _
  have c0 : w7.cell? ⟨w6.heap.size, 0, none⟩ = some (.int .i64 size) := by simp [World.cell?, hblk]
  have c1 : w7.cell? ⟨w6.heap.size, 1, none⟩ = some (.slice a3 n n) := by simp [World.cell?, hblk]
  have c2 : w7.cell? ⟨w6.heap.size, 2, none⟩ = some (shv (shOf sa w4.heap.size) n) := by
    have e : w7.cell? ⟨w6.heap.size, 2, none⟩ = some (.slice b2 sn sn) := by simp [World.cell?, hblk]
    rw [e]
    cases hsa : sa with
    | none => rw [(h.N5 hsa).1, hsn0 hsa]; rfl
    | some x => rw [(h.C5 (by simp [hsa])).1, hsn (by simp [hsa])]; rfl
  have b57 : Below w5.heap.size w5 w7 := h.B6.trans (b7.mono (by omega))
  have b47 : Below w4.heap.size w4 w7 := h.B5.trans (b57.mono (by omega))
  refine ⟨c0, fun hn => ?_, fun i hi => ?_, fun i hi hg => ?_⟩
  · obtain ⟨ha3, hC4⟩ := h.C4 hn
    rw [ha3] at c1
    rw [cbOf_pos hn]
    have hsh : ∀ sb, shOf sa w4.heap.size = some sb → sb = w4.heap.size ∧ w7.rowIs sb 4 n (fun i => .bool (S i)) ∧ sb < w5.heap.size := by
      intro sb hs
      cases hsa : sa with
      | none => rw [hsa] at hs; simp [shOf] at hs
      | some x =>
        rw [hsa] at hs
        simp [shOf] at hs
        subst hs
        obtain ⟨_, hC5⟩ := h.C5 (by simp [hsa])
        have s5 := hC5.size
        have e := hsn (by simp [hsa])
        have hrow := hC5.row
        rw [e] at hrow
        exact ⟨rfl, (rowIs_below hrow b57 (by omega)).congr (fun j hj => by rw [if_pos hj]), by omega⟩
    by_cases hp0 : 0 < pn
    · obtain ⟨ha4, hC6⟩ := h.C6 hp0
      have s6 := hC6.size
      refine ⟨w5.heap.size, fun _ => ha4, mem_of hC4 b47 hL c0 c1 c2 (by omega) (fun sb hs => ?_) (by omega) (fun j hj => ?_)⟩
      · obtain ⟨e1, e2, e3⟩ := hsh sb hs
        exact ⟨by omega, e2, by omega, by omega⟩
      · rw [Nat.zero_add]
        have := hC6.row.cell hj
        simp only [if_pos hj] at this
        exact bcell b7 this
    · obtain rfl : pn = 0 := by omega
      refine ⟨w7.heap.size, fun h => absurd h (Nat.not_lt_zero _), mem_of hC4 b47 hL c0 c1 c2 (by omega) (fun sb hs => ?_) (by omega) (fun j hj => absurd hj (Nat.not_lt_zero _))⟩
      obtain ⟨e1, e2, e3⟩ := hsh sb hs
      exact ⟨by omega, e2, by omega, by omega⟩
  · rw [ga_none]; exact h.G hi
  · have hne : G1 i ≠ none := fun e => hg (ga_none.2 e)
    have := ((h.C1 (by omega)).2.nil i hi)
    rw [← hL i hi (fun e => hne (this.2 e))]
    cases e : G1 i with
    | none => exact absurd e hne
    | some x => simp [gl, e]

theorem law3_facts (h : Cl wa w1 w2 w3 w4 w5 w6 a1 a2 a3 a4 sa b1 b2 n pn sn A L Z S P G1 G3) (hsn : sa ≠ none → sn = n)
    (HW7 : w7 = w6.alloc (.cells #[.int .i64 size, .slice a3 n n, .slice b2 sn sn] 40)) (hL' : ∀ i, i < n → L i ≤ 65536)
    (hAP : AfterPut w3.heap.size w7 w8 a3 (cbOf n w3.heap.size w7.heap.size) n (shOf sa w4.heap.size) size off pn P G3 Z S (ga G1) (gl G1 L)) :
    w8.cell? ⟨w6.heap.size, 0, none⟩ = some (.int .i64 size) ∧ w8.cell? ⟨w6.heap.size, 1, none⟩ = some (.slice a3 n n) ∧ w8.cell? ⟨w6.heap.size, 2, none⟩ = some (.slice b2 sn sn) ∧
    IsRows w8 a1 n (ga G1) (gl G1 L) (gl G1 L) Z ∧ IsBytes w8 a2 pn P ∧
    (sa ≠ none → ∀ i, i < n → w8.cell? ⟨w1.heap.size, i, none⟩ = some (.bool (S i)) ∧ w8.cell? ⟨w4.heap.size, i, none⟩ = some (.bool (S i && !touched size i off pn))) ∧ Below wa.heap.size wa w8 := by
  have za1 := h.B1.size
  have z12 := h.B2.size
  have z23 := h.B3.size
  have z34 := h.B4.size
  have z45 := h.B5.size
  have z56 := h.B6.size
  have b7 : Below w6.heap.size w6 w7 := by rw [HW7]; exact (Below.refl _ _).alloc (Nat.le_refl _) _
  have s7 : w7.heap.size = w6.heap.size + 1 := by rw [HW7]; simp
  have hblk : w7.heap[w6.heap.size]? = some (.cells #[.int .i64 size, .slice a3 n n, .slice b2 sn sn] 40) := by rw [HW7]; exact blk_alloc_new _ _
  have b57 : Below w5.heap.size w5 w7 := h.B6.trans (b7.mono (by omega))
  have b47 : Below w4.heap.size w4 w7 := h.B5.trans (b57.mono (by omega))
  have b37 : Below w3.heap.size w3 w7 := h.B4.trans (b47.mono (by omega))
  have b38 : Below w3.heap.size w3 w8 := b37.trans hAP.bel
  have b28 : Below w2.heap.size w2 w8 := h.B3.trans (b38.mono (by omega))
  have b18 : Below w1.heap.size w1 w8 := h.B2.trans (b28.mono (by omega))
  have ba8 : Below wa.heap.size wa w8 := h.B1.trans (b18.mono (by omega))
  have hshlt : shOf sa w4.heap.size ≠ some w6.heap.size := by
    intro hs
    cases hsa : sa with
    | none => rw [hsa] at hs; simp [shOf] at hs
    | some x =>
      rw [hsa] at hs
      simp [shOf] at hs
      have s5 := (h.C5 (by simp [hsa])).2.size
      omega
  have e1 : w8.heap[w6.heap.size]? = some (.cells #[.int .i64 size, .slice a3 n n, .slice b2 sn sn] 40) := by
    have hcb : w6.heap.size ≠ cbOf n w3.heap.size w7.heap.size := by
      unfold cbOf
      split
      · rename_i hn; have := (h.C4 hn).2.lt; omega
      · omega
    rw [hAP.fr w6.heap.size (by omega) hcb hshlt (fun i hi hg => ?_)]
    · exact hblk
    · have := ((h.C4 (by omega)).2.row i _ hi hg).2.1; omega
  refine ⟨by simp [World.cell?, e1], by simp [World.cell?, e1], by simp [World.cell?, e1], (CloC.rows h.C1 (fun i hi => by have := hL' i hi; omega)).later b18, (Clo.bytes h.C3).later b38, fun hsa i hi => ⟨?_, ?_⟩, ba8⟩
  · obtain ⟨_, hC2⟩ := h.C2 hsa
    have e := hsn hsa
    have := hC2.row.cell (i := i) (by omega)
    rw [if_pos (by omega)] at this
    exact bcell b28 this
  · have hs : shOf sa w4.heap.size = some w4.heap.size := by simp [shOf, hsa]
    exact (hAP.marks _ hs (by omega)).cell hi
end

end Go.Proofs.Qxb6628324aFmt
