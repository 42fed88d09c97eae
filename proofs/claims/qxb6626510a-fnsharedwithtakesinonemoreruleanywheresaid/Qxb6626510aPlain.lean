/- The plain mathematics: strictly increasing lists of strings, one more put in, two merged. No walk here. -/
import Derived.Laws.Strings
import Derived.WideShapes
namespace Go.Proofs.Qxb6626510a.Plain
open Go

/-- Go's '<' on strings -/
def lt (a b : ByteArray) : Prop := a.data.toList < b.data.toList

theorem less_eq : ∀ (x y : List UInt8), Op.bytesLess x y = decide (x < y)
  | [], [] => by simp [Op.bytesLess]
  | _ :: _, [] => by simp [Op.bytesLess]
  | [], _ :: _ => by simp [Op.bytesLess]
  | a :: x, b :: y => by
    rw [Op.bytesLess, less_eq x y]
    simp only [List.cons_lt_cons_iff]
    by_cases h1 : a < b <;> by_cases h2 : a = b <;> by_cases h3 : x < y <;> simp [h1, h2, h3]

theorem less_iff (a b : ByteArray) : Op.bytesLess a.toList b.toList = true ↔ lt a b := by
  rw [less_eq, ByteArray.toList_eq, ByteArray.toList_eq, decide_eq_true_iff]; rfl
theorem same_iff (a b : ByteArray) : (a.toList == b.toList) = true ↔ a = b := by
  rw [ByteArray.toList_eq, ByteArray.toList_eq, beq_iff_eq]
  exact ⟨fun h => WideShapes.bytes_inj h, fun h => by rw [h]⟩

theorem lt_trans {a b c : ByteArray} (h : lt a b) (k : lt b c) : lt a c := List.lt_trans h k
theorem lt_irrefl (a : ByteArray) : ¬ lt a a := List.lt_irrefl _
theorem lt_asymm {a b : ByteArray} (h : lt a b) : ¬ lt b a := fun k => lt_irrefl a (lt_trans h k)
theorem lt_of_not {a b : ByteArray} (h : ¬ lt a b) (hne : a ≠ b) : lt b a := by
  have h1 : b.data.toList ≤ a.data.toList := List.not_lt.1 h
  by_cases k : b.data.toList < a.data.toList
  · exact k
  · exact absurd (WideShapes.bytes_inj (List.le_antisymm (List.not_lt.1 k) h1)) hne

/-- n strings, strictly increasing -/
def Inc (n : Nat) (s : Nat → ByteArray) : Prop := ∀ i j, i < j → j < n → lt (s i) (s j)
def Mem (n : Nat) (s : Nat → ByteArray) (b : ByteArray) : Prop := ∃ j, j < n ∧ s j = b

def lst (n : Nat) (s : Nat → ByteArray) : List ByteArray := (List.range n).map s
theorem lst_length (n : Nat) (s : Nat → ByteArray) : (lst n s).length = n := by simp [lst]
theorem mem_lst {n : Nat} {s : Nat → ByteArray} {b : ByteArray} : b ∈ lst n s ↔ Mem n s b := by
  simp [lst, Mem]
theorem lst_pairwise {n : Nat} {s : Nat → ByteArray} (h : Inc n s) : (lst n s).Pairwise lt := by
  unfold lst
  rw [List.pairwise_map, List.pairwise_iff_getElem]
  intro i j hi hj hij
  simp at hi hj ⊢
  exact h i j hij hj
theorem inc_of_pairwise {l : List ByteArray} (h : l.Pairwise lt) : Inc l.length (fun j => l.getD j ByteArray.empty) := by
  intro i j hij hj
  have := (List.pairwise_iff_getElem.1 h) i j (by omega) hj hij
  simpa [List.getD, hj, show i < l.length by omega] using this
theorem mem_getD {l : List ByteArray} {b : ByteArray} : Mem l.length (fun j => l.getD j ByteArray.empty) b ↔ b ∈ l := by
  rw [List.mem_iff_getElem]
  constructor
  · rintro ⟨j, hj, rfl⟩; exact ⟨j, hj, by simp [List.getD, hj]⟩
  · rintro ⟨j, hj, rfl⟩; exact ⟨j, hj, by simp [List.getD, hj]⟩

theorem nodup_of : ∀ {l : List ByteArray}, l.Pairwise lt → l.Nodup
  | [], _ => List.nodup_nil
  | a :: _, h => List.nodup_cons.2 ⟨fun hm => lt_irrefl a ((List.pairwise_cons.1 h).1 a hm), nodup_of (List.pairwise_cons.1 h).2⟩

/-- strictly increasing, the same members: the same list -/
theorem uniq {n n' : Nat} {s s' : Nat → ByteArray} (h : Inc n s) (h' : Inc n' s') (hm : ∀ b, Mem n s b ↔ Mem n' s' b) : n = n' ∧ ∀ j, j < n → s j = s' j := by
  have p1 := lst_pairwise h
  have p2 := lst_pairwise h'
  have hp : (lst n s).Perm (lst n' s') := (List.perm_ext_iff_of_nodup (nodup_of p1) (nodup_of p2)).2 fun b => by rw [mem_lst, mem_lst]; exact hm b
  have e : lst n s = lst n' s' := List.Perm.eq_of_pairwise (le := lt) (fun a b _ _ h1 h2 => absurd h2 (lt_asymm h1)) p1 p2 hp
  have en : n = n' := by have := congrArg List.length e; simpa [lst] using this
  subst en
  refine ⟨rfl, fun j hj => ?_⟩
  have := congrArg (fun l => l[j]?) e
  simpa [lst, hj] using this

/-- P put in at the place pos -/
def ins {α : Type} (R : Nat → α) (P : α) (pos i : Nat) : α := if i < pos then R i else if i = pos then P else R (i - 1)
theorem ins_lt {α : Type} {R : Nat → α} {P : α} {pos i : Nat} (h : i < pos) : ins R P pos i = R i := if_pos h
theorem ins_eq {α : Type} {R : Nat → α} {P : α} {pos : Nat} : ins R P pos pos = P := by simp [ins]
theorem ins_gt {α : Type} {R : Nat → α} {P : α} {pos i : Nat} (h : pos ≤ i) : ins R P pos (i + 1) = R i := by
  unfold ins; rw [if_neg (by omega), if_neg (by omega)]; simp

theorem ins_mem {n pos : Nat} {s : Nat → ByteArray} {x : ByteArray} (hp : pos ≤ n) (b : ByteArray) : Mem (n + 1) (ins s x pos) b ↔ Mem n s b ∨ b = x := by
  constructor
  · rintro ⟨j, hj, rfl⟩
    by_cases h : j < pos
    · exact .inl ⟨j, by omega, (ins_lt h).symm⟩
    · by_cases e : j = pos
      · subst e; exact .inr ins_eq
      · obtain ⟨k, rfl⟩ : ∃ k, j = k + 1 := ⟨j - 1, by omega⟩
        exact .inl ⟨k, by omega, (ins_gt (by omega)).symm⟩
  · rintro (⟨j, hj, rfl⟩ | rfl)
    · by_cases h : j < pos
      · exact ⟨j, by omega, ins_lt h⟩
      · exact ⟨j + 1, by omega, ins_gt (by omega)⟩
    · exact ⟨pos, by omega, ins_eq⟩

theorem ins_inc {n pos : Nat} {s : Nat → ByteArray} {x : ByteArray} (h : Inc n s) (hp : pos ≤ n) (h1 : ∀ j, j < pos → lt (s j) x) (h2 : pos < n → lt x (s pos)) : Inc (n + 1) (ins s x pos) := by
  have h2' : ∀ j, pos ≤ j → j < n → lt x (s j) := fun j hj hn => by
    by_cases e : j = pos
    · subst e; exact h2 hn
    · exact lt_trans (h2 (by omega)) (h pos j (by omega) hn)
  intro i j hij hj
  by_cases hi : i < pos
  · rw [ins_lt hi]
    by_cases hjp : j < pos
    · rw [ins_lt hjp]; exact h i j hij (by omega)
    · by_cases e : j = pos
      · subst e; rw [ins_eq]; exact h1 i hi
      · obtain ⟨k, rfl⟩ : ∃ k, j = k + 1 := ⟨j - 1, by omega⟩
        rw [ins_gt (by omega)]; exact h i k (by omega) (by omega)
  · obtain ⟨k, rfl⟩ : ∃ k, j = k + 1 := ⟨j - 1, by omega⟩
    rw [ins_gt (show pos ≤ k by omega)]
    by_cases e : i = pos
    · subst e; rw [ins_eq]; exact h2' k (by omega) (by omega)
    · obtain ⟨i', rfl⟩ : ∃ i', i = i' + 1 := ⟨i - 1, by omega⟩
      rw [ins_gt (by omega)]; exact h i' k (by omega) (by omega)

/-- the merge's loop: what has been laid out so far -/
structure Merged (na : Nat) (a : Nat → ByteArray) (nb : Nat) (b : Nat → ByteArray) (i j : Nat) (l : List ByteArray) : Prop where
  inc : l.Pairwise lt
  mem : ∀ x, x ∈ l ↔ Mem i a x ∨ Mem j b x
  la : i < na → ∀ x ∈ l, lt x (a i)
  lb : j < nb → ∀ x ∈ l, lt x (b j)
  len : l.length ≤ i + j

theorem merged_start (na : Nat) (a : Nat → ByteArray) (nb : Nat) (b : Nat → ByteArray) : Merged na a nb b 0 0 [] :=
  ⟨List.Pairwise.nil, fun x => ⟨fun h => (by cases h), fun h => by rcases h with ⟨j, h, _⟩ | ⟨j, h, _⟩ <;> omega⟩, fun _ x h => (by cases h), fun _ x h => (by cases h), Nat.zero_le _⟩

theorem mem_succ {n : Nat} {s : Nat → ByteArray} {x : ByteArray} : Mem (n + 1) s x ↔ Mem n s x ∨ s n = x := by
  constructor
  · rintro ⟨j, hj, rfl⟩
    by_cases e : j = n
    · subst e; exact .inr rfl
    · exact .inl ⟨j, by omega, rfl⟩
  · rintro (⟨j, hj, rfl⟩ | rfl)
    · exact ⟨j, by omega, rfl⟩
    · exact ⟨n, by omega, rfl⟩

theorem snoc_inc {l : List ByteArray} {y : ByteArray} (h : l.Pairwise lt) (hy : ∀ x ∈ l, lt x y) : (l ++ [y]).Pairwise lt := by
  rw [List.pairwise_append]
  exact ⟨h, List.pairwise_singleton _ _, fun a ha b hb => by simp at hb; subst hb; exact hy a ha⟩

theorem merged_a {na nb i j : Nat} {a b : Nat → ByteArray} {l : List ByteArray} (h : Merged na a nb b i j l) (ha : Inc na a) (hi : i < na) (hj : j < nb → lt (a i) (b j)) : Merged na a nb b (i + 1) j (l ++ [a i]) := by
  refine ⟨snoc_inc h.inc (h.la hi), fun x => ?_, fun hi' x hx => ?_, fun hj' x hx => ?_, by simp; have := h.len; omega⟩
  · rw [List.mem_append, h.mem, mem_succ, List.mem_singleton]
    constructor
    · rintro ((h | h) | h)
      · exact .inl (.inl h)
      · exact .inr h
      · exact .inl (.inr h.symm)
    · rintro ((h | h) | h)
      · exact .inl (.inl h)
      · exact .inr h.symm
      · exact .inl (.inr h)
  · rcases List.mem_append.1 hx with hx | hx
    · exact lt_trans (h.la hi x hx) (ha i (i + 1) (by omega) hi')
    · simp at hx; subst hx; exact ha i (i + 1) (by omega) hi'
  · rcases List.mem_append.1 hx with hx | hx
    · exact h.lb hj' x hx
    · simp at hx; subst hx; exact hj hj'

theorem merged_b {na nb i j : Nat} {a b : Nat → ByteArray} {l : List ByteArray} (h : Merged na a nb b i j l) (hb : Inc nb b) (hj : j < nb) (hi : i < na → lt (b j) (a i)) : Merged na a nb b i (j + 1) (l ++ [b j]) := by
  refine ⟨snoc_inc h.inc (h.lb hj), fun x => ?_, fun hi' x hx => ?_, fun hj' x hx => ?_, by simp; have := h.len; omega⟩
  · rw [List.mem_append, h.mem, mem_succ, List.mem_singleton]
    constructor
    · rintro ((h | h) | h)
      · exact .inl h
      · exact .inr (.inl h)
      · exact .inr (.inr h.symm)
    · rintro (h | (h | h))
      · exact .inl (.inl h)
      · exact .inl (.inr h)
      · exact .inr h.symm
  · rcases List.mem_append.1 hx with hx | hx
    · exact h.la hi' x hx
    · simp at hx; subst hx; exact hi hi'
  · rcases List.mem_append.1 hx with hx | hx
    · exact lt_trans (h.lb hj x hx) (hb j (j + 1) (by omega) hj')
    · simp at hx; subst hx; exact hb j (j + 1) (by omega) hj'

theorem merged_ab {na nb i j : Nat} {a b : Nat → ByteArray} {l : List ByteArray} (h : Merged na a nb b i j l) (ha : Inc na a) (hb : Inc nb b) (hi : i < na) (hj : j < nb) (e : a i = b j) : Merged na a nb b (i + 1) (j + 1) (l ++ [a i]) := by
  refine ⟨snoc_inc h.inc (h.la hi), fun x => ?_, fun hi' x hx => ?_, fun hj' x hx => ?_, by simp; have := h.len; omega⟩
  · rw [List.mem_append, h.mem, mem_succ, mem_succ, List.mem_singleton]
    constructor
    · rintro ((h | h) | h)
      · exact .inl (.inl h)
      · exact .inr (.inl h)
      · exact .inl (.inr h.symm)
    · rintro ((h | h) | (h | h))
      · exact .inl (.inl h)
      · exact .inr h.symm
      · exact .inl (.inr h)
      · exact .inr (by rw [e, h])
  · rcases List.mem_append.1 hx with hx | hx
    · exact lt_trans (h.la hi x hx) (ha i (i + 1) (by omega) hi')
    · simp at hx; subst hx; exact ha i (i + 1) (by omega) hi'
  · rcases List.mem_append.1 hx with hx | hx
    · exact lt_trans (h.lb hj x hx) (hb j (j + 1) (by omega) hj')
    · simp at hx; subst hx; rw [e]; exact hb j (j + 1) (by omega) hj'

end Go.Proofs.Qxb6626510a.Plain
