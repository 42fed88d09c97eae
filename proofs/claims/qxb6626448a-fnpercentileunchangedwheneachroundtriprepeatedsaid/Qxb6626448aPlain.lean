/- The plain mathematics of Percentile: no Go in sight. -/
namespace Go.Proofs.Qxb6626448a.Plain

/-- how many of the first m numbers are at most v -/
def cnt (f : Nat → Int) (v : Int) : Nat → Nat
  | 0 => 0
  | m + 1 => cnt f v m + if f m ≤ v then 1 else 0

theorem cnt_le (f : Nat → Int) (v : Int) (m : Nat) : cnt f v m ≤ m := by
  induction m with
  | zero => exact Nat.le_refl _
  | succ m ih => unfold cnt; split <;> omega

theorem cnt_ge (f : Nat → Int) (v : Int) (r : Nat) (m : Nat) (hr : r ≤ m) (h : ∀ j, j < r → f j ≤ v) : r ≤ cnt f v m := by
  induction m generalizing r with
  | zero => omega
  | succ m ih =>
    unfold cnt
    by_cases e : r = m + 1
    · subst e
      have := ih m (Nat.le_refl _) (fun j hj => h j (by omega))
      rw [if_pos (h m (by omega))]
      omega
    · have := ih r (by omega) h
      split <;> omega

theorem cnt_lt (f : Nat → Int) (v : Int) (r : Nat) (m : Nat) (h : ∀ j, r ≤ j → j < m → ¬ f j ≤ v) : cnt f v m ≤ r := by
  induction m with
  | zero => exact Nat.zero_le _
  | succ m ih =>
    unfold cnt
    have := ih (fun j h1 h2 => h j h1 (by omega))
    by_cases e : r ≤ m
    · rw [if_neg (h m e (by omega))]; omega
    · have := cnt_le f v m
      split <;> omega

/-- the law's search: the state (found, want) behind the first k rounds -/
def best (f : Nat → Int) (p : Int) (n : Nat) : Nat → Bool × Int
  | 0 => (false, 0)
  | k + 1 =>
    let s := best f p n k
    if p * n ≤ 100 * (cnt f (f k) n : Int) ∧ (s.1 = false ∨ f k < s.2) then (true, f k) else s

/-- Percentile's rank, less one -/
def rk (p : Int) (n : Nat) : Nat := (max ((p * n + 99) / 100) 1).toNat - 1

theorem rk_facts (p : Int) (n : Nat) (hp0 : 0 ≤ p) (hp1 : p ≤ 100) (hn : 0 < n) :
    rk p n < n ∧ p * n ≤ 100 * ((rk p n : Int) + 1) ∧ (rk p n = 0 ∨ 100 * (rk p n : Int) < p * n) := by
  unfold rk
  have h1 : 0 ≤ p * n := Int.mul_nonneg hp0 (by omega)
  have h2 : p * n ≤ 100 * n := Int.mul_le_mul_of_nonneg_right hp1 (by omega)
  omega

theorem best_inv (f : Nat → Int) (p : Int) (n : Nat) (hp0 : 0 ≤ p) (hp1 : p ≤ 100) (hn : 0 < n)
    (hs : ∀ i j, i ≤ j → j < n → f i ≤ f j) (k : Nat) (hk : k ≤ n) :
    ((best f p n k).1 = true → (best f p n k).2 = f (rk p n)) ∧ (rk p n < k → (best f p n k).1 = true) := by
  obtain ⟨hr, hr1, hr2⟩ := rk_facts p n hp0 hp1 hn
  induction k with
  | zero => simp [best]
  | succ k ih =>
    obtain ⟨i1, i2⟩ := ih (by omega)
    unfold best
    by_cases hq : p * n ≤ 100 * (cnt f (f k) n : Int)
    · have hge : f (rk p n) ≤ f k := by
        by_cases h : f (rk p n) ≤ f k
        · exact h
        · have hc := cnt_lt f (f k) (rk p n) n (fun j h1 h2 => by have := hs (rk p n) j h1 h2; omega)
          rcases hr2 with h0 | h0
          · have := hs 0 k (by omega) (by omega); rw [h0] at h; omega
          · omega
      by_cases hf : (best f p n k).1 = true
      · have e := i1 hf
        have hno : ¬ (p * n ≤ 100 * (cnt f (f k) n : Int) ∧ ((best f p n k).1 = false ∨ f k < (best f p n k).2)) := by
          rintro ⟨_, h | h⟩
          · rw [hf] at h; cases h
          · rw [e] at h; omega
        simp only [if_neg hno]
        exact ⟨fun _ => e, fun _ => hf⟩
      · have hf' : (best f p n k).1 = false := by simpa using hf
        simp only [hq, hf', true_or, and_self, if_true]
        refine ⟨fun _ => ?_, fun _ => trivial⟩
        have : ¬ rk p n < k := fun h => hf (i2 h)
        have := hs k (rk p n) (by omega) hr
        omega
    · have hno : ¬ (p * n ≤ 100 * (cnt f (f k) n : Int) ∧ ((best f p n k).1 = false ∨ f k < (best f p n k).2)) := fun h => hq h.1
      simp only [if_neg hno]
      refine ⟨i1, fun h => ?_⟩
      by_cases e : rk p n = k
      · exfalso
        apply hq
        rw [← e]
        have := cnt_ge f (f (rk p n)) (rk p n + 1) n (by omega) (fun j hj => hs j _ (by omega) hr)
        omega
      · exact i2 (by omega)

theorem best_is (f : Nat → Int) (p : Int) (n : Nat) (hp0 : 0 ≤ p) (hp1 : p ≤ 100) (hn : 0 < n)
    (hs : ∀ i j, i ≤ j → j < n → f i ≤ f j) : (best f p n n).2 = f (rk p n) := by
  obtain ⟨hr, _⟩ := rk_facts p n hp0 hp1 hn
  obtain ⟨i1, i2⟩ := best_inv f p n hp0 hp1 hn hs n (Nat.le_refl _)
  exact i1 (i2 hr)

/-- neighbours in order: all in order -/
theorem sorted_of (f : Nat → Int) (n : Nat) (h : ∀ i, 1 ≤ i → i < n → f (i - 1) ≤ f i) : ∀ i j, i ≤ j → j < n → f i ≤ f j := by
  intro i j hij hj
  induction j with
  | zero => have : i = 0 := by omega
            subst this; exact Int.le_refl _
  | succ j ih =>
    by_cases e : i = j + 1
    · subst e; exact Int.le_refl _
    · have := ih (by omega) (by omega)
      have := h (j + 1) (by omega) hj
      simp at this
      omega

/-- the second law: the rank in the list where each stands m times -/
theorem rk_rep (p : Int) (n m : Nat) (hp0 : 0 ≤ p) (hn : 0 < n) (hm : 0 < m) : rk p (n * m) / m = rk p n := by
  have hx : 0 ≤ p * n := Int.mul_nonneg hp0 (by omega)
  obtain ⟨x, hxx⟩ : ∃ x : Nat, p * n = x := ⟨(p * n).toNat, by omega⟩
  have e1 : p * ((n * m : Nat) : Int) = ((x * m : Nat) : Int) := by
    rw [Int.natCast_mul, Int.natCast_mul, ← hxx, Int.mul_assoc]
  unfold rk
  rw [e1, hxx]
  by_cases h0 : x = 0
  · subst h0
    have c1 : (max ((((0 * m : Nat) : Int) + 99) / 100) 1).toNat - 1 = 0 := by simp only [Nat.zero_mul]; omega
    have c2 : (max ((((0 : Nat) : Int) + 99) / 100) 1).toNat - 1 = 0 := by omega
    rw [c1, c2, Nat.zero_div]
  · have hxm : 1 ≤ x * m := Nat.mul_pos (by omega) hm
    have b1 : (max ((((x * m : Nat) : Int) + 99) / 100) 1).toNat - 1 = (x * m - 1) / 100 := by omega
    have b2 : (max (((x : Int) + 99) / 100) 1).toNat - 1 = (x - 1) / 100 := by omega
    rw [b1, b2, Nat.div_div_eq_div_mul, Nat.mul_comm 100 m, ← Nat.div_div_eq_div_mul]
    congr 1
    obtain ⟨y, rfl⟩ : ∃ y, x = y + 1 := ⟨x - 1, by omega⟩
    have : (y + 1) * m - 1 = (m - 1) + m * y := by
      rw [Nat.add_mul, Nat.mul_comm y m]; omega
    rw [this, Nat.add_mul_div_left _ _ hm, Nat.div_eq_of_lt (by omega)]
    omega

end Go.Proofs.Qxb6626448a.Plain
