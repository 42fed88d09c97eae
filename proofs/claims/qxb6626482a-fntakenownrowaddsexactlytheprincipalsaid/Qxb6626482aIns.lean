/- One row put in among the others: the plain part and the memory's. And Taken at the two rules, whatever the principal's length. -/
import Derived.Test.Qxb6626482aMakes2
import Derived.Test.Qxb6626482aTaken2
import Derived.Test.Qxb6626482aSize
import Derived.Deep.Slices
namespace Go.Proofs.Qxb6626482a
open Go.RowKit

theorem Try.info22 : (Try.prog.info? 22).map (fun i => (i.zero, i.size, i.bytes)) = some (some (.slice none 0 0), 1, 24) := by kernel_rfl

/-- P put in at the place pos -/
def ins {α : Type} (R : Nat → α) (P : α) (pos i : Nat) : α := if i < pos then R i else if i = pos then P else R (i - 1)

theorem ins_lt {α : Type} {R : Nat → α} {P : α} {pos i : Nat} (h : i < pos) : ins R P pos i = R i := if_pos h
theorem ins_eq {α : Type} {R : Nat → α} {P : α} {pos : Nat} : ins R P pos pos = P := by simp [ins]
theorem ins_gt {α : Type} {R : Nat → α} {P : α} {pos i : Nat} (h : pos ≤ i) : ins R P pos (i + 1) = R i := by
  unfold ins; rw [if_neg (by omega), if_neg (by omega)]; simp

def vals (R : Nat → Value) (P : Value) (pos t : Nat) : List Value := (List.range t).map (ins R P pos)
theorem vals_snoc (R : Nat → Value) (P : Value) (pos t : Nat) (u : Value) (h : ins R P pos t = u) : vals R P pos t ++ [u] = vals R P pos (t + 1) := by
  unfold vals; rw [List.range_succ, List.map_append, List.map_singleton, h]
theorem vals_get (R : Nat → Value) (P : Value) (pos t i : Nat) (h : i < t) : (vals R P pos t)[i]? = some (ins R P pos i) := by
  unfold vals; simp [h]

theorem rows_ins {w : World} {base g cap m pos pn : Nat} {R : Nat → Value} {P : Value} {L : Nat → Nat} {X : Nat → Nat → Int} {x : Nat → Int} (hpos : pos ≤ m)
    (ho : w.ownsRow base 22 1 (.slice (some ⟨g, 0, none⟩) (m + 1) cap) (m + 1) (vals R P pos (m + 1))) (hR : ∀ i, i < m → SymsAt w (R i) (L i) (X i)) (hP : SymsAt w P pn x) :
    RowsAt w (.slice (some ⟨g, 0, none⟩) (m + 1) cap) (m + 1) (ins L pn pos) (ins X x pos) := by
  refine ⟨_, _, rfl, fun _ => ⟨g, 0, rfl, fun i hi => ⟨ins R P pos i, ?_, ?_⟩⟩⟩
  · have := ho.cells (g := g) rfl i _ (vals_get R P pos (m + 1) i hi)
    rw [at_plain] at this
    exact this
  · by_cases h : i < pos
    · rw [ins_lt h, ins_lt h, ins_lt h]; exact hR i (by omega)
    · by_cases e : i = pos
      · subst e; rw [ins_eq, ins_eq, ins_eq]; exact hP
      · obtain ⟨i', rfl⟩ : ∃ i', i = i' + 1 := ⟨i - 1, by omega⟩
        rw [ins_gt (by omega), ins_gt (by omega), ins_gt (by omega)]; exact hR i' (by omega)

theorem ins_all {m pos pn : Nat} {L : Nat → Nat} {X : Nat → Nat → Int} {x : Nat → Int} {q : Nat → (Nat → Int) → Prop} (hpos : pos ≤ m) (h1 : ∀ i, i < m → q (L i) (X i)) (h2 : q pn x) : ∀ i, i < m + 1 → q (ins L pn pos i) (ins X x pos i) := by
  intro i hi
  by_cases h : i < pos
  · rw [ins_lt h, ins_lt h]; exact h1 i (by omega)
  · by_cases e : i = pos
    · subst e; rw [ins_eq, ins_eq]; exact h2
    · obtain ⟨i', rfl⟩ : ∃ i', i = i' + 1 := ⟨i - 1, by omega⟩
      rw [ins_gt (by omega), ins_gt (by omega)]; exact h1 i' (by omega)

theorem fits_ins {m pos pn : Nat} {L : Nat → Nat} {X : Nat → Nat → Int} {x : Nat → Int} (hpos : pos ≤ m) (hm : m ≤ 1048576) (hF : Fits m L X) (hpx : Fits 1 (fun _ => pn) (fun _ => x)) : Fits (m + 1) (ins L pn pos) (ins X x pos) :=
  ⟨by omega, ins_all (X := X) (x := x) (q := fun l _ => l ≤ 9223372036854775807) hpos hF.hL (hpx.hL 0 (by omega)), fun i j hi hj => ins_all (q := fun l y => ∀ j, j < l → 0 ≤ y j ∧ y j ≤ 65535) hpos (fun i hi j hj => hF.hX i j hi hj) (fun j hj => hpx.hX 0 j (by omega) hj) i hi j hj⟩

theorem occurs_ins {m pos pn : Nat} {L : Nat → Nat} {X : Nat → Nat → Int} {x : Nat → Int} (hpos : pos ≤ m) (i : Nat) : Occurs (m + 1) (ins L pn pos) (ins X x pos) i ↔ Occurs m L X i ∨ Occurs 1 (fun _ => pn) (fun _ => x) i := by
  constructor
  · rintro ⟨k, j, hk, hj, e⟩
    by_cases h : k < pos
    · rw [ins_lt h] at hj e; exact .inl ⟨k, j, by omega, hj, e⟩
    · by_cases e' : k = pos
      · subst e'; rw [ins_eq] at hj e; exact .inr ⟨0, j, by omega, hj, e⟩
      · obtain ⟨k', rfl⟩ : ∃ k', k = k' + 1 := ⟨k - 1, by omega⟩
        rw [ins_gt (by omega)] at hj e; exact .inl ⟨k', j, by omega, hj, e⟩
  · rintro (⟨k, j, hk, hj, e⟩ | ⟨k, j, hk, hj, e⟩)
    · by_cases h : k < pos
      · exact ⟨k, j, by omega, by rw [ins_lt h]; exact hj, by rw [ins_lt h]; exact e⟩
      · exact ⟨k + 1, j, by omega, by rw [ins_gt (by omega)]; exact hj, by rw [ins_gt (by omega)]; exact e⟩
    · exact ⟨pos, j, by omega, by rw [ins_eq]; exact hj, by rw [ins_eq]; exact e⟩

/-- the rows, the values of the outer cells chosen -/
theorem rows_choose {w : World} {v : Value} {m : Nat} {L : Nat → Nat} {X : Nat → Nat → Int} (h : RowsAt w v m L X) :
    ∃ a cap b off, ∃ R : Nat → Value, v = .slice a m cap ∧ (0 < m → a = some ⟨b, off, none⟩) ∧ ∀ i, i < m → w.cell? ⟨b, off + i, none⟩ = some (R i) ∧ SymsAt w (R i) (L i) (X i) := by
  obtain ⟨a, cap, rfl, hc⟩ := h
  by_cases hm : 0 < m
  · obtain ⟨b, off, rfl, hd⟩ := hc hm
    obtain ⟨R, hR⟩ := Deep.choose_lt (α := Value) hd
    exact ⟨_, cap, b, off, R, rfl, fun _ => rfl, hR⟩
  · exact ⟨a, cap, 0, 0, fun _ => .bool false, rfl, fun h => absurd h hm, fun i hi => by omega⟩

/-- Taken at the rule OutsideRows -/
theorem taken_r0 (bl pn : Nat) (pv rv v : Value) (x : Nat → Int) (n g : Nat) (f : Nat → Bool) (m : Nat) (L : Nat → Nat) (X : Nat → Nat → Int) (w0 w : World) (hb : Below w0.heap.size w0 w) (hg : w0.heap.size ≤ g) (hn : n ≤ 9223372036854775807)
    (c0 : w0.cell? ⟨bl, 0, none⟩ = some pv) (c1 : w0.cell? ⟨bl, 1, none⟩ = some rv) (hP : SymsAt w0 pv pn x) (hR : RowsAt w0 rv m L X) (hF : Fits m L X) (hlow : pn ≠ 1 → ∀ i j, i < m → j < L i → X i j < n) (hG : OwnBools w v n g f) :
    Calls Try.prog 11 #[.pointer (some ⟨bl, 0, none⟩), .int .i64 0, v] w fun e w' => e = .returned (.tuple #[]) ∧ (∃ f, OwnBools w' v n g f ∧ ∀ i, i < n → (f i = true ↔ pn ≠ 1 ∧ Occurs m L X i)) ∧ Below w0.heap.size w0 w' := by
  by_cases h : pn = 1
  · subst h
    refine (taken_lone bl pv v x 0 n g f w0 w hb hg c0 hP hG).mono ?_
    rintro e w' ⟨rfl, h1, h2⟩
    exact ⟨rfl, ⟨_, h1, fun i _ => ⟨fun h => (by cases h), fun h => absurd rfl h.1⟩⟩, h2⟩
  · refine (taken_rows bl pn pv rv v x 0 n g f m L X w0 w hb hg hn (by simp; omega) (by decide) c0 c1 hP hR hF (hlow h) hG).mono ?_
    rintro e w' ⟨rfl, ⟨f, h1, h2⟩, h3⟩
    exact ⟨rfl, ⟨f, h1, fun i hi => (h2 i hi).trans ⟨fun h' => ⟨h, h'⟩, fun h' => h'.2⟩⟩, h3⟩

/-- Taken at the rule OutsidePrincipal -/
theorem taken_r1 (bl pn : Nat) (pv rv v : Value) (x : Nat → Int) (n g : Nat) (f : Nat → Bool) (m : Nat) (L : Nat → Nat) (X : Nat → Nat → Int) (w0 w : World) (hb : Below w0.heap.size w0 w) (hg : w0.heap.size ≤ g) (hn : n ≤ 9223372036854775807)
    (c0 : w0.cell? ⟨bl, 0, none⟩ = some pv) (c1 : w0.cell? ⟨bl, 1, none⟩ = some rv) (hP : SymsAt w0 pv pn x) (hR : RowsAt w0 rv m L X) (hpx : Fits 1 (fun _ => pn) (fun _ => x)) (hlow : pn ≠ 1 → ∀ j, j < pn → x j < n) (hG : OwnBools w v n g f) :
    Calls Try.prog 11 #[.pointer (some ⟨bl, 0, none⟩), .int .i64 1, v] w fun e w' => e = .returned (.tuple #[]) ∧ (∃ f, OwnBools w' v n g f ∧ ∀ i, i < n → (f i = true ↔ pn ≠ 1 ∧ Occurs 1 (fun _ => pn) (fun _ => x) i)) ∧ Below w0.heap.size w0 w' := by
  by_cases h : pn = 1
  · subst h
    refine (taken_lone bl pv v x 1 n g f w0 w hb hg c0 hP hG).mono ?_
    rintro e w' ⟨rfl, h1, h2⟩
    exact ⟨rfl, ⟨_, h1, fun i _ => ⟨fun h => (by cases h), fun h => absurd rfl h.1⟩⟩, h2⟩
  · refine (taken_principal bl pn pv rv v x n g f m L X w0 w hb hg hn (by simp; omega) c0 c1 hP hR hpx (hlow h) hG).mono ?_
    rintro e w' ⟨rfl, ⟨f, h1, h2⟩, h3⟩
    exact ⟨rfl, ⟨f, h1, fun i hi => (h2 i hi).trans ⟨fun h' => ⟨h, h'⟩, fun h' => h'.2⟩⟩, h3⟩

end Go.Proofs.Qxb6626482a
