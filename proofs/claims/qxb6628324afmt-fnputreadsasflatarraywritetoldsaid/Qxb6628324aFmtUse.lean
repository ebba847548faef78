import Derived.Test.Qxb6628324aFmtPut
namespace Go.Proofs.Qxb6628324aFmt
open Go.RowKit Go.Deep
set_option linter.unusedVariables false

/-! ### rows that lie at the head of blocks of their own -/
def ga (G : Nat → Option Nat) (i : Nat) : Option Addr := (G i).map fun x => ⟨x, 0, none⟩
def gl (G : Nat → Option Nat) (l : Nat → Nat) (i : Nat) : Nat := if (G i).isSome then l i else 0

theorem ga_none {G : Nat → Option Nat} {i : Nat} : ga G i = none ↔ G i = none := by simp [ga]
theorem sv_eq (G : Nat → Option Nat) (l c : Nat → Nat) (i : Nat) : sv (G i) (l i) (c i) = .slice (ga G i) (gl G l i) (gl G c i) := by
  cases h : G i <;> simp [sv, ga, gl, h]

theorem rows_of {w : World} {cb n : Nat} {G : Nat → Option Nat} {l c : Nat → Nat} {Z : Nat → Nat → Int} {a : Option Addr} (ha : 0 < n → a = some ⟨cb, 0, none⟩)
    (top : 0 < n → w.rowIs cb 24 n (fun i => sv (G i) (l i) (c i))) (hl : ∀ i, i < n → l i ≤ 9223372036854775807) (row : ∀ i x, i < n → G i = some x → rowHas w x 5 (l i) (fun j => .int .u8 (Z i j))) :
    IsRows w a n (ga G) (gl G l) (gl G c) Z := by
  refine ⟨fun r hr => ⟨cb, 0, ha (by omega), ?_⟩, fun r hr => ?_, fun r hr h => ?_, fun r hr j hj => ?_⟩
  · rw [Nat.zero_add, (top (by omega)).cell hr, sv_eq]
  · unfold gl; have := hl r hr; split <;> omega
  · rw [ga_none] at h; simp [gl, h]
  · cases h : G r with
    | none => simp [gl, h] at hj
    | some x =>
      simp [gl, h] at hj
      exact ⟨x, 0, by simp [ga, h], by rw [Nat.zero_add]; exact (row r x hr h).cell hj⟩

/-! ### Put, wherever it is called -/
structure AfterPut (B : Nat) (w0 w' : World) (a : Option Addr) (cb n : Nat) (sh : Option Nat) (size off : Int) (pn : Nat) (P : Nat → Int) (G0 : Nat → Option Nat) (Z0 : Nat → Nat → Int) (S0 : Nat → Bool) (OA : Nat → Option Addr) (OL : Nat → Nat) : Prop where
  bel : Below B w0 w'
  fr : ∀ b, b < w0.heap.size → b ≠ cb → sh ≠ some b → (∀ i, i < n → G0 i = some b → S0 i = true) → w'.heap[b]? = w0.heap[b]?
  rows : ∃ GA GL GC GZ, IsRows w' a n GA GL GC GZ ∧ ∀ i, i < n → Reads size GA OA GL OL GZ Z0 off pn P i
  marks : ∀ sb, sh = some sb → 0 < n → w'.rowIs sb 4 n (fun i => .bool (S0 i && !touched size i off pn))

theorem after_of {B : Nat} {w0 w' : World} {a : Option Addr} {bp cb pb po pn n : Nat} {sh : Option Nat} {size off : Int} {P : Nat → Int} {G0 G : Nat → Option Nat} {C : Nat → Nat} {Z0 Z : Nat → Nat → Int} {S0 S : Nat → Bool} {OA : Nat → Option Addr} {OL : Nat → Nat}
    (h0 : 0 ≤ size) (hlo : (n : Int) * 65536 < size + 65536) (ha : 0 < n → a = some ⟨cb, 0, none⟩) (hO : ∀ i, i < n → (OA i = none ↔ G0 i = none)) (hOL : ∀ i, i < n → OA i ≠ none → OL i = Ln size i)
    (hM : Mem B w' bp cb pb po pn n sh size P G C Z S) (hR : Rel B w0 w' cb n sh size off P G0 Z0 S0 pn G Z S) : AfterPut B w0 w' a cb n sh size off pn P G0 Z0 S0 OA OL := by
  refine ⟨hR.bel, hR.frame, ⟨ga G, gl G (Ln size), gl G C, Z, rows_of ha (fun _ => hM.top) (fun i hi => by have := ln_eq h0 hlo hi; omega) (fun i x hi hx => (hM.row i x hi hx).2), fun i hi => ?_⟩, fun sb hs hn => (hM.shr sb hs).congr (fun i hi => by rw [hR.s i hi])⟩
  have hl := ln_eq h0 hlo hi
  have hg : ga G i ≠ none → G i ≠ none := fun h e => h (ga_none.2 e)
  have hgl : ga G i ≠ none → gl G (Ln size) i = Ln size i := fun h => by
    cases e : G i with
    | none => exact absurd (ga_none.2 e) h
    | some x => simp [gl, e]
  have hsome : (OA i).isSome = (G0 i).isSome := by
    have := hO i hi
    cases e1 : OA i <;> cases e2 : G0 i <;> simp_all
  refine ⟨fun h => ?_, fun h h' => ?_, fun h => by rw [hgl h]; exact hl.1, fun h h' => by rw [hgl h]; exact hOL i hi h', fun h j hj => ?_⟩
  · obtain ⟨e1, e2⟩ := (hR.gn i hi).1 (ga_none.1 h)
    exact ⟨(hO i hi).2 e1, e2⟩
  · have e0 := (hO i hi).1 h'
    cases e : touched size i off pn with
    | true => rfl
    | false => exact absurd ((hR.gn i hi).2 ⟨e0, e⟩) (hg h)
  · rw [hgl h] at hj
    rw [hR.z i j hi hj (hg h), hsome]

theorem put_use (B : Nat) (w : World) (a pa : Option Addr) (bp cb pn n : Nat) (sh : Option Nat) (size off : Int) (P : Nat → Int) (G0 : Nat → Option Nat) (C0 : Nat → Nat) (Z0 : Nat → Nat → Int) (S0 : Nat → Bool) (OA : Nat → Option Addr) (OL : Nat → Nat)
    (hc0 : w.cell? ⟨bp, 0, none⟩ = some (.int .i64 size)) (hM : 0 < n → ∃ pb, (0 < pn → pa = some ⟨pb, 0, none⟩) ∧ Mem B w bp cb pb 0 pn n sh size P G0 C0 Z0 S0)
    (ha : 0 < n → a = some ⟨cb, 0, none⟩) (hO : ∀ i, i < n → (OA i = none ↔ G0 i = none)) (hOL : ∀ i, i < n → OA i ≠ none → OL i = Ln size i)
    (hpn' : pn ≤ 1048576) (hn : n ≤ 65536) (h0 : 0 ≤ size) (hlo : (n : Int) * 65536 < size + 65536) (hhi : size ≤ (n : Int) * 65536)
    (hoff : 0 ≤ off) (hfit : (pn : Int) ≤ size - off) (hS0 : sh = none → ∀ i, i < n → S0 i = false) (hS1 : ∀ i, i < n → S0 i = true → G0 i ≠ none) :
    Calls Tryf.prog 11 #[.pointer (some ⟨bp, 0, none⟩), .int .i64 off, .slice pa pn pn] w fun e w' => e = .returned (.tuple #[]) ∧ AfterPut B w w' a cb n sh size off pn P G0 Z0 S0 OA OL := by
  by_cases hn0 : 0 < n
  · obtain ⟨pb, hpa, hMM⟩ := hM hn0
    by_cases hp : 0 < pn
    · obtain rfl := hpa hp
      refine (put_any B w bp cb pb 0 pn n sh size off P G0 C0 Z0 S0 hMM hp hpn' hn h0 hlo hhi hoff hfit hS0 hS1).mono ?_
      rintro e w' ⟨rfl, G, C, Z, S, h1, h2⟩
      exact ⟨rfl, after_of h0 hlo ha hO hOL h1 h2⟩
    · obtain rfl : pn = 0 := by omega
      refine (put_empty w bp size off pa 0 hc0 hoff (by omega) (by omega)).mono ?_
      rintro e w' ⟨rfl, rfl⟩
      exact ⟨rfl, after_of h0 hlo ha hO hOL hMM (Rel.start B w' cb n sh size off P G0 Z0 S0 h0 hlo)⟩
  · obtain rfl : n = 0 := by omega
    obtain rfl : pn = 0 := by omega
    refine (put_empty w bp size off pa 0 hc0 hoff (by omega) (by omega)).mono ?_
    rintro e w' ⟨rfl, rfl⟩
    refine ⟨rfl, Below.refl _ _, fun _ _ _ _ _ => rfl, ⟨OA, OL, OL, Z0, ⟨fun r hr => absurd hr (Nat.not_lt_zero _), fun r hr => absurd hr (Nat.not_lt_zero _), fun r hr => absurd hr (Nat.not_lt_zero _), fun r hr => absurd hr (Nat.not_lt_zero _)⟩, fun r hr => absurd hr (Nat.not_lt_zero _)⟩, fun sb hs hn => absurd hn (Nat.not_lt_zero _)⟩

/-! ### the clones, nil or not -/
theorem cloneBytes_use (w : World) (a : Option Addr) (n cap : Nat) (Z : Nat → Int) (h : IsBytes w a n Z) (hn : n ≤ 281474976710656) (ha : a = none → n = 0 ∧ cap = 0) :
    Calls Tryf.prog 9 #[.slice a n cap] w fun e w' => ∃ a', e = .returned (.slice a' n n) ∧ Below w.heap.size w w' ∧ (0 < n → a' = some ⟨w.heap.size, 0, none⟩ ∧ Clo w w' n n Z) := by
  cases a with
  | none =>
    obtain ⟨rfl, rfl⟩ := ha rfl
    refine (cloneBytes_nil w).mono ?_
    rintro e w' ⟨rfl, rfl⟩
    exact ⟨none, rfl, Below.refl _ _, fun h => absurd h (Nat.not_lt_zero _)⟩
  | some a =>
    refine (cloneBytes_some w a n cap Z h hn).mono ?_
    rintro e w' ⟨rfl, hC⟩
    exact ⟨_, rfl, hC.below, fun _ => ⟨rfl, hC⟩⟩

theorem cloneBools_use (w : World) (a : Option Addr) (n cap : Nat) (Z : Nat → Bool) (h : IsBools w a n Z) (hn : n ≤ 281474976710656) (ha : a = none → n = 0 ∧ cap = 0) :
    Calls Tryf.prog 8 #[.slice a n cap] w fun e w' => ∃ a', e = .returned (.slice a' n n) ∧ Below w.heap.size w w' ∧ (a = none → a' = none ∧ w' = w) ∧ (a ≠ none → a' = some ⟨w.heap.size, 0, none⟩ ∧ CloB w w' n n Z) := by
  cases a with
  | none =>
    obtain ⟨rfl, rfl⟩ := ha rfl
    refine (cloneBools_nil w).mono ?_
    rintro e w' ⟨rfl, rfl⟩
    exact ⟨none, rfl, Below.refl _ _, fun _ => ⟨rfl, rfl⟩, fun h => absurd rfl h⟩
  | some a =>
    refine (cloneBools_some w a n cap Z h hn).mono ?_
    rintro e w' ⟨rfl, hC⟩
    exact ⟨_, rfl, hC.below, (fun h => by cases h), fun _ => ⟨rfl, hC⟩⟩

theorem cloneChunks_use (w : World) (a : Option Addr) (n cap : Nat) (A : Nat → Option Addr) (L C : Nat → Nat) (Z : Nat → Nat → Int) (h : IsRows w a n A L C Z) (hn : n ≤ 1048576) (hL : ∀ r, r < n → L r ≤ 281474976710656) (ha : a = none → n = 0 ∧ cap = 0) :
    Calls Tryf.prog 7 #[.slice a n cap] w fun e w' => ∃ a' G, e = .returned (.slice a' n n) ∧ Below w.heap.size w w' ∧ (0 < n → a' = some ⟨w.heap.size, 0, none⟩ ∧ CloC w w' n n A L Z G) := by
  cases a with
  | none =>
    obtain ⟨rfl, rfl⟩ := ha rfl
    refine (cloneChunks_nil w).mono ?_
    rintro e w' ⟨rfl, rfl⟩
    exact ⟨none, fun _ => none, rfl, Below.refl _ _, fun h => absurd h (Nat.not_lt_zero _)⟩
  | some a =>
    refine (cloneChunks_some w a n cap A L C Z h hn hL).mono ?_
    rintro e w' ⟨rfl, G, hC⟩
    exact ⟨_, G, rfl, hC.below, fun _ => ⟨rfl, hC⟩⟩

theorem CloC.rows {w w' : World} {n : Nat} {A : Nat → Option Addr} {L : Nat → Nat} {Z : Nat → Nat → Int} {G : Nat → Option Nat} {a' : Option Addr} (h : 0 < n → a' = some ⟨w.heap.size, 0, none⟩ ∧ CloC w w' n n A L Z G) (hL : ∀ i, i < n → L i ≤ 9223372036854775807) :
    IsRows w' a' n (ga G) (gl G L) (gl G L) Z :=
  rows_of (cb := w.heap.size) (fun hn => (h hn).1) (fun hn => (h hn).2.top.congr (fun j hj => by rw [if_pos hj])) hL (fun i x hi hx => rowHas.of_rowIs ((h (by omega)).2.row i x hi hx).2.2)

theorem Clo.bytes {w w' : World} {n : Nat} {Z : Nat → Int} {a' : Option Addr} (h : 0 < n → a' = some ⟨w.heap.size, 0, none⟩ ∧ Clo w w' n n Z) : IsBytes w' a' n Z := by
  intro j hj
  obtain ⟨h1, h2⟩ := h (by omega)
  exact ⟨w.heap.size, 0, h1, by rw [Nat.zero_add]; simpa [hj] using h2.row.cell hj⟩

/-- The state ahead of Put. -/
theorem mem_of {w2 w3 w7 : World} {n bp pb pn : Nat} {sh : Option Nat} {size : Int} {P : Nat → Int} {A : Nat → Option Addr} {L : Nat → Nat} {Z : Nat → Nat → Int} {G : Nat → Option Nat} {S0 : Nat → Bool}
    (hC : CloC w2 w3 n n A L Z G) (b3 : Below w3.heap.size w3 w7) (hL : ∀ i, i < n → A i ≠ none → L i = Ln size i)
    (c0 : w7.cell? ⟨bp, 0, none⟩ = some (.int .i64 size)) (c1 : w7.cell? ⟨bp, 1, none⟩ = some (.slice (some ⟨w2.heap.size, 0, none⟩) n n)) (c2 : w7.cell? ⟨bp, 2, none⟩ = some (shv sh n))
    (hbp : w3.heap.size ≤ bp) (hsh : ∀ sb, sh = some sb → w3.heap.size ≤ sb ∧ w7.rowIs sb 4 n (fun i => .bool (S0 i)) ∧ sb ≠ bp ∧ sb ≠ pb) (hpb : w3.heap.size ≤ pb)
    (hp : ∀ j, j < pn → w7.cell? ⟨pb, 0 + j, none⟩ = some (.int .u8 (P j))) :
    Mem w2.heap.size w7 bp w2.heap.size pb 0 pn n sh size P G L Z S0 := by
  have h23 := hC.lt
  have hne : ∀ i x, i < n → G i = some x → A i ≠ none := fun i x hi hx h => by rw [(hC.nil i hi).2 h] at hx; cases hx
  refine ⟨c0, c1, c2, hp, (rowIs_below hC.top b3 h23).congr (fun j hj => ?_), fun sb hs => (hsh sb hs).2.1, fun i x hi hx => ?_, fun i x hi hx => ?_, hC.inj, by omega, by omega, fun h => (hsh bp h).2.2.1 rfl, fun h => by have := (hsh _ h).1; omega, fun h => (hsh pb h).2.2.2 rfl, Nat.le_refl _, fun sb hs => by have := (hsh sb hs).1; omega⟩
  · simp only [if_pos hj]
    cases e : G j with
    | none => rfl
    | some x => simp only [sv]; rw [hL j hj (hne j x hj e)]
  · obtain ⟨h1, h2, h3⟩ := hC.row i x hi hx
    have e := hL i hi (hne i x hi hx)
    refine ⟨by omega, ?_⟩
    rw [← e]
    exact rowHas.of_rowIs (rowIs_below h3 b3 h2)
  · obtain ⟨h1, h2, h3⟩ := hC.row i x hi hx
    refine ⟨by omega, by omega, by omega, fun h => ?_, by omega⟩
    have := (hsh x h).1; omega

/-! ### the second array of law 4 -/
structure Mk (w wr : World) (n k : Nat) (G : Nat → Option Nat) (L : Nat → Nat) : Prop where
  below : Below w.heap.size w wr
  size : wr.heap.size = w.heap.size + 3
  other : wr.rowIs w.heap.size 24 n (fun j => if j < k then sv (G j) (L j) (L j) else .slice none 0 0)
  shA : wr.rowIs (w.heap.size + 1) 4 n (fun j => .bool (decide (j < k) && (G j).isSome))
  shB : wr.rowIs (w.heap.size + 1 + 1) 4 n (fun j => .bool (decide (j < k) && (G j).isSome))

theorem Mk.start (w : World) (n : Nat) (G : Nat → Option Nat) (L : Nat → Nat) :
    Mk w (((w.alloc (.cells (madeCells #[.slice none 0 0] n) 24)).alloc (.cells (madeCells #[.bool false] n) 4)).alloc (.cells (madeCells #[.bool false] n) 4)) n 0 G L := by
  have h1 := World.rowIs_made w (.slice none 0 0) n 24
  have h2 := World.rowIs_made (w.alloc (.cells (madeCells #[.slice none 0 0] n) 24)) (.bool false) n 4
  have h3 := World.rowIs_made ((w.alloc (.cells (madeCells #[.slice none 0 0] n) 24)).alloc (.cells (madeCells #[.bool false] n) 4)) (.bool false) n 4
  simp only [nblk_alloc] at h2 h3
  refine ⟨(((Below.refl _ _).alloc (Nat.le_refl _) _).alloc (by simp) _).alloc (by simp; omega) _, by simp, ((h1.alloc _).alloc _).congr (fun j _ => by simp), (h2.alloc _).congr (fun j _ => by simp), h3.congr (fun j _ => by simp)⟩

theorem Mk.step_nil {w wr : World} {n k : Nat} {G : Nat → Option Nat} {L : Nat → Nat} (h : Mk w wr n k G L) (hG : G k = none) : Mk w (wr.setCell ⟨w.heap.size, k, none⟩ (.slice none 0 0)) n (k + 1) G L := by
  refine ⟨h.below.setCell (Nat.le_refl _) _, by simp [h.size], (h.other.set k _).congr (fun j _ => ?_), (h.shA.setOther (by show w.heap.size + 1 ≠ w.heap.size; omega) _).congr (fun j _ => ?_), (h.shB.setOther (by show w.heap.size + 1 + 1 ≠ w.heap.size; omega) _).congr (fun j _ => ?_)⟩
  · by_cases e : j = k
    · subst e; simp [hG, sv]
    · rw [if_neg e]
      by_cases hlt : j < k
      · rw [if_pos hlt, if_pos (by omega)]
      · rw [if_neg hlt, if_neg (by omega)]
  all_goals
    by_cases e : j = k
    · subst e; simp [hG]
    · have : decide (j < k) = decide (j < k + 1) := by rw [decide_eq_decide]; omega
      rw [this]

theorem Mk.step_some {w wr : World} {n k x : Nat} {G : Nat → Option Nat} {L : Nat → Nat} (h : Mk w wr n k G L) (hG : G k = some x) :
    Mk w (((wr.setCell ⟨w.heap.size, k, none⟩ (.slice (some ⟨x, 0, none⟩) (L k) (L k))).setCell ⟨w.heap.size + 1, k, none⟩ (.bool true)).setCell ⟨w.heap.size + 1 + 1, k, none⟩ (.bool true)) n (k + 1) G L := by
  refine ⟨((h.below.setCell (Nat.le_refl _) _).setCell (by show w.heap.size ≤ w.heap.size + 1; omega) _).setCell (by show w.heap.size ≤ w.heap.size + 1 + 1; omega) _, by simp [h.size],
    (((h.other.set k _).setOther (by show w.heap.size ≠ w.heap.size + 1; omega) _).setOther (by show w.heap.size ≠ w.heap.size + 1 + 1; omega) _).congr (fun j _ => ?_),
    (((h.shA.setOther (by show w.heap.size + 1 ≠ w.heap.size; omega) _).set k _).setOther (by show w.heap.size + 1 ≠ w.heap.size + 1 + 1; omega) _).congr (fun j _ => ?_),
    (((h.shB.setOther (by show w.heap.size + 1 + 1 ≠ w.heap.size; omega) _).setOther (by show w.heap.size + 1 + 1 ≠ w.heap.size + 1; omega) _).set k _).congr (fun j _ => ?_)⟩
  · by_cases e : j = k
    · subst e; simp [hG, sv]
    · rw [if_neg e]
      by_cases hlt : j < k
      · rw [if_pos hlt, if_pos (by omega)]
      · rw [if_neg hlt, if_neg (by omega)]
  all_goals
    by_cases e : j = k
    · subst e; simp [hG]
    · rw [if_neg e]
      have : decide (j < k) = decide (j < k + 1) := by rw [decide_eq_decide]; omega
      rw [this]

end Go.Proofs.Qxb6628324aFmt
