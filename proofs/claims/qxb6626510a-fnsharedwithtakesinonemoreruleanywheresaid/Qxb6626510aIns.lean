/- One more rule put in among the rules: the plain part and the memory's. -/
import Derived.Test.Qxb6626510aCommon
namespace Go.Proofs.Qxb6626510a
open Go.RowKit Go.Maps

theorem Try.info35 : (Try.prog.info? 35).map (fun i => (i.zero, i.size, i.bytes)) = some (some (.agg #[.slice none 0 0, .slice none 0 0, .slice none 0 0, .bool false, .string ⟨#[]⟩]), 5, 96) := by kernel_rfl

theorem ins_each {m pos : Nat} {R : Nat → RD} {x : RD} {q : RD → Prop} (hpos : pos ≤ m) (h1 : ∀ i, i < m → q (R i)) (h2 : q x) : ∀ i, i < m + 1 → q (Plain.ins R x pos i) := by
  intro i hi
  by_cases h : i < pos
  · rw [Plain.ins_lt h]; exact h1 i (by omega)
  · by_cases e : i = pos
    · subst e; rw [Plain.ins_eq]; exact h2
    · obtain ⟨i', rfl⟩ : ∃ i', i = i' + 1 := ⟨i - 1, by omega⟩
      rw [Plain.ins_gt (by omega)]; exact h1 i' (by omega)

theorem named_ins {m pos : Nat} {R : Nat → RD} {x : RD} (hpos : pos ≤ m) (b : ByteArray) : Named (m + 1) (Plain.ins R x pos) b ↔ Named m R b ∨ (x.isNil = false ∧ Plain.Mem x.np x.xp b) := by
  constructor
  · rintro ⟨i, hi, h⟩
    by_cases h' : i < pos
    · rw [Plain.ins_lt h'] at h; exact .inl ⟨i, by omega, h⟩
    · by_cases e : i = pos
      · subst e; rw [Plain.ins_eq] at h; exact .inr h
      · obtain ⟨i', rfl⟩ : ∃ i', i = i' + 1 := ⟨i - 1, by omega⟩
        rw [Plain.ins_gt (by omega)] at h; exact .inl ⟨i', by omega, h⟩
  · rintro (⟨i, hi, h⟩ | h)
    · by_cases h' : i < pos
      · exact ⟨i, by omega, by rw [Plain.ins_lt h']; exact h⟩
      · exact ⟨i + 1, by omega, by rw [Plain.ins_gt (by omega)]; exact h⟩
    · exact ⟨pos, by omega, by rw [Plain.ins_eq]; exact h⟩

/-- the same five values elsewhere, in a later world: the same rule -/
theorem rule_moved {w w' : World} {b o g o' : Nat} {r : RD} (h : RuleAt w b o r) (hb : Below w.heap.size w w') (hc : ∀ c, c < 5 → w'.cell? ⟨g, o' + c, none⟩ = w.cell? ⟨b, o + c, none⟩) : RuleAt w' g o' r := by
  obtain ⟨v0, v1, v2, h0, h1, h2, h3, h4, h5⟩ := h
  exact ⟨v0, v1, v2, h0.kept hb, (hc 0 (by omega)).trans h1, (hc 1 (by omega)).trans h2, (hc 2 (by omega)).trans h3, (hc 3 (by omega)).trans h4, (hc 4 (by omega)).trans h5⟩

/-- the values of the rules' cells -/
theorem rules_vals {w : World} {b off m : Nat} {R : Nat → RD} (h : ∀ i, i < m → RuleAt w b (off + i * 5) (R i)) : ∃ val : Nat → Value, ∀ j, j < m * 5 → w.cell? ⟨b, off + j, none⟩ = some (val j) ∧ (val j).oneCell' = true := by
  refine Deep.choose_lt (α := Value) (p := fun j v => w.cell? ⟨b, off + j, none⟩ = some v ∧ v.oneCell' = true) (fun j hj => ?_)
  obtain ⟨v0, v1, v2, ⟨⟨_, _, rfl, _⟩, ⟨_, _, rfl, _⟩, ⟨_, _, rfl, _⟩⟩, h1, h2, h3, h4, h5⟩ := h (j / 5) (by omega)
  have e : off + j = off + j / 5 * 5 + j % 5 := by omega
  rw [e]
  have hlt : j % 5 < 5 := Nat.mod_lt _ (by omega)
  match hr : j % 5, hlt with
  | 0, _ => exact ⟨_, h1, rfl⟩
  | 1, _ => exact ⟨_, h2, rfl⟩
  | 2, _ => exact ⟨_, h3, rfl⟩
  | 3, _ => exact ⟨_, h4, rfl⟩
  | 4, _ => exact ⟨_, h5, rfl⟩

theorem vals_cells {w w' : World} {b off n i k : Nat} {val : Nat → Value} (h : ∀ j, j < n → w.cell? ⟨b, off + j, none⟩ = some (val j) ∧ (val j).oneCell' = true) (hb : Below w.heap.size w w') (hm : i + k ≤ n) :
    ∀ t u, ((List.range k).map fun t => val (i + t))[t]? = some u → w'.cell? ((⟨b, off + i, none⟩ : Addr).add t) = some u := by
  intro t u hu
  have ht : t < k := by have := (List.getElem?_eq_some_iff.1 hu).1; simpa using this
  have e : u = val (i + t) := by simpa [ht] using hu.symm
  rw [at_plain, Nat.add_assoc, cell_kept hb (h (i + t) (by omega)).1, e]

theorem vals_one {w : World} {b off n i k : Nat} {val : Nat → Value} (h : ∀ j, j < n → w.cell? ⟨b, off + j, none⟩ = some (val j) ∧ (val j).oneCell' = true) (hm : i + k ≤ n) : ∀ u ∈ (List.range k).map (fun t => val (i + t)), u.oneCell' = true := by
  intro u hu
  obtain ⟨t, ht, rfl⟩ := List.mem_map.1 hu
  exact (h (i + t) (by have := List.mem_range.1 ht; omega)).2

/-- the rules behind the three appends -/
theorem rules_grown {w w' : World} {b off m pos base g : Nat} {R : Nat → RD} {x : RD} {val : Nat → Value} {v0 v1 v2 : Value} (hpos : pos ≤ m) (hm : m ≤ 65537) (hd : ∀ i, i < m → RuleAt w b (off + i * 5) (R i)) (hv : ∀ j, j < m * 5 → w.cell? ⟨b, off + j, none⟩ = some (val j) ∧ (val j).oneCell' = true)
    (hx : RuleOf w v0 v1 v2 x) (hb : Below w.heap.size w w')
    (ho : w'.ownsRow base 35 5 (.slice (some ⟨g, 0, none⟩) (m + 1) (m + 1)) (m + 1) (((List.range (pos * 5)).map fun t => val t) ++ [v0, v1, v2, .bool x.isNil, .string x.owner] ++ ((List.range ((m - pos) * 5)).map fun t => val (pos * 5 + t)))) :
    RulesAt w' (.slice (some ⟨g, 0, none⟩) (m + 1) (m + 1)) (m + 1) (Plain.ins R x pos) := by
  refine ⟨_, m + 1, rfl, Nat.le_refl _, by omega, fun h => (by cases h), fun _ => ⟨g, 0, rfl, fun i hi => ?_⟩⟩
  have hcell : ∀ j u, (((List.range (pos * 5)).map fun t => val t) ++ [v0, v1, v2, .bool x.isNil, .string x.owner] ++ ((List.range ((m - pos) * 5)).map fun t => val (pos * 5 + t)))[j]? = some u → w'.cell? ⟨g, j, none⟩ = some u := fun j u hu => by
    have := ho.cells (g := g) rfl j u hu
    rw [at_plain, Nat.zero_add] at this
    exact this
  rw [Nat.zero_add]
  by_cases h : i < pos
  · rw [Plain.ins_lt h]
    refine rule_moved (hd i (by omega)) hb (fun c hc => ?_)
    have hv' := (hv (i * 5 + c) (by omega)).1
    rw [← Nat.add_assoc] at hv'
    rw [hv']
    apply hcell
    rw [List.append_assoc, List.getElem?_append_left (by simp; omega)]
    simp [show i * 5 + c < pos * 5 by omega]
  · by_cases e : i = pos
    · subst e
      rw [Plain.ins_eq]
      have hc' : ∀ c u, [v0, v1, v2, .bool x.isNil, .string x.owner][c]? = some u → w'.cell? ⟨g, i * 5 + c, none⟩ = some u := fun c u hu => by
        apply hcell
        have hc5 : c < 5 := by have := (List.getElem?_eq_some_iff.1 hu).1; simpa using this
        rw [List.append_assoc, List.getElem?_append_right (by simp), List.getElem?_append_left (by simp; omega)]
        simpa using hu
      exact ⟨v0, v1, v2, hx.kept hb, hc' 0 _ rfl, hc' 1 _ rfl, hc' 2 _ rfl, hc' 3 _ rfl, hc' 4 _ rfl⟩
    · obtain ⟨i', rfl⟩ : ∃ i', i = i' + 1 := ⟨i - 1, by omega⟩
      rw [Plain.ins_gt (by omega)]
      refine rule_moved (hd i' (by omega)) hb (fun c hc => ?_)
      have hv' := (hv (i' * 5 + c) (by omega)).1
      rw [← Nat.add_assoc] at hv'
      rw [hv']
      apply hcell
      rw [List.getElem?_append_right (by simp; omega)]
      have e1 : (i' + 1) * 5 + c - (((List.range (pos * 5)).map fun t => val t) ++ [v0, v1, v2, Value.bool x.isNil, Value.string x.owner]).length = i' * 5 + c - pos * 5 := by simp; omega
      rw [e1]
      have e2 : i' * 5 + c - pos * 5 < (m - pos) * 5 := by omega
      simp [e2]
      congr 1
      omega

theorem rules_grown_end {w w' : World} {b off m base g : Nat} {R : Nat → RD} {x : RD} {val : Nat → Value} {v0 v1 v2 : Value} (hm : m ≤ 65537) (hd : ∀ i, i < m → RuleAt w b (off + i * 5) (R i)) (hv : ∀ j, j < m * 5 → w.cell? ⟨b, off + j, none⟩ = some (val j) ∧ (val j).oneCell' = true)
    (hx : RuleOf w v0 v1 v2 x) (hb : Below w.heap.size w w')
    (ho : w'.ownsRow base 35 5 (.slice (some ⟨g, 0, none⟩) (m + 1) (m + 1)) (m + 1) (((List.range (m * 5)).map fun t => val t) ++ [v0, v1, v2, .bool x.isNil, .string x.owner])) :
    RulesAt w' (.slice (some ⟨g, 0, none⟩) (m + 1) (m + 1)) (m + 1) (Plain.ins R x m) :=
  rules_grown (Nat.le_refl m) hm hd hv hx hb (base := base) (by rw [Nat.sub_self, Nat.zero_mul]; simpa using ho)

end Go.Proofs.Qxb6626510a
