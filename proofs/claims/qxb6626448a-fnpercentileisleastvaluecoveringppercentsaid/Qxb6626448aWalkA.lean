/- The walk of the first law. -/
import Derived.Test.Qxb6626448aCallees
import Derived.Deep.QuietTactic
import Derived.BigQuiet
namespace Go.Proofs.Qxb6626448a
open Go.RowKit

theorem below_drawn (w : World) (n : Nat) : Below w.heap.size w (w.drewN n) := below_drewN (Below.refl _ _) n

/-- too long, or p out of its range: true at once -/
theorem lawA_out (a0 a1 : Int) (a : Option Addr) (len cap : Nat) (a3 p : Int) (w : World) (hl : len ≤ maxLen) (h : 4096 < len ∨ p < 0 ∨ 100 < p) :
    Calls Try.prog 3 #[.int .i64 a0, .int .i64 a1, .slice a len cap, .int .i64 a3, .int .i64 p] w fun e w' => e = .returned (.bool true) ∧ Below w.heap.size w w' := by
  unfold maxLen at hl
  by_cases h1 : 1048576 < len
  · go_enter Try.func3, Try.ntmps3
    go_wp2
    go_ret
    exact ⟨rfl, Below.refl _ _⟩
  · by_cases h2 : 4096 < len
    · go_enter Try.func3, Try.ntmps3
      go_wp2
      go_ret
      exact ⟨rfl, Below.refl _ _⟩
    · by_cases h3 : p < 0
      · go_enter Try.func3, Try.ntmps3
        go_wp2
        go_ret
        exact ⟨rfl, Below.refl _ _⟩
      · have h4 : 100 < p := by omega
        go_enter Try.func3, Try.ntmps3
        go_wp2
        go_ret
        exact ⟨rfl, Below.refl _ _⟩

/-- no round trip at all -/
theorem lawA_none (a0 a1 : Int) (a : Option Addr) (cap : Nat) (a3 p : Int) (w : World) (h0 : 0 ≤ p) (h1 : p ≤ 100) :
    Calls Try.prog 3 #[.int .i64 a0, .int .i64 a1, .slice a 0 cap, .int .i64 a3, .int .i64 p] w fun e w' => e = .returned (.bool true) ∧ Below w.heap.size w w' := by
  have hp : ¬ 100 < p := by omega
  go_enter Try.func3, Try.ntmps3
  go_wp2
  refine wp_loop_rounds 1 ?_
  rw [rounds_succ]
  go_wp2
  go_ret
  exact ⟨rfl, (Below.refl _ _).alloc (Nat.le_refl _) _⟩

/-- what the first loop has seen: neighbours in order -/
def okTo (f : Nat → Int) (k : Nat) : Prop := ∀ i, 1 ≤ i → i < k → f (i - 1) ≤ f i
theorem okTo_one (f : Nat → Int) : okTo f 1 := fun i h1 h2 => by omega
theorem okTo_succ {f : Nat → Int} {k : Nat} (h : okTo f k) (hk : f (k - 1) ≤ f k) : okTo f (k + 1) := fun i h1 h2 => by
  by_cases e : i = k
  · subst e; exact hk
  · exact h i h1 (by omega)

theorem best_hit {f : Nat → Int} {p : Int} {n k : Nat} {fd : Bool} {wt : Int} (h : Hid (Plain.best f p n k = (fd, wt))) (h1 : p * n ≤ 100 * (Plain.cnt f (f k) n : Int)) (h2 : fd = false ∨ f k < wt) : Hid (Plain.best f p n (k + 1) = (true, f k)) := by
  show Plain.best f p n (k + 1) = (true, f k)
  unfold Plain.best
  rw [h.out]
  exact if_pos ⟨h1, h2⟩
theorem best_miss {f : Nat → Int} {p : Int} {n k : Nat} {fd : Bool} {wt : Int} (h : Hid (Plain.best f p n k = (fd, wt))) (h1 : ¬ (p * n ≤ 100 * (Plain.cnt f (f k) n : Int)) ∨ (fd = true ∧ ¬ f k < wt)) : Hid (Plain.best f p n (k + 1) = (fd, wt)) := by
  show Plain.best f p n (k + 1) = (fd, wt)
  unfold Plain.best
  rw [h.out]
  refine if_neg ?_
  rintro ⟨a, b⟩
  rcases h1 with h1 | ⟨h1, h3⟩
  · exact h1 a
  · rcases b with b | b
    · simp [h1] at b
    · exact h3 b

set_option maxHeartbeats 1000000 in
theorem lawA_some (a0 a1 : Int) (b off len cap : Nat) (a3 p : Int) (f : Nat → Int) (w : World) (h0 : 0 ≤ p) (h1 : p ≤ 100) (hlen : 0 < len) (hlen2 : len ≤ 4096)
    (hc : ∀ j, j < len → w.cell? ⟨b, off + j, none⟩ = some (.int .i64 (f j))) :
    Calls Try.prog 3 #[.int .i64 a0, .int .i64 a1, .slice (some ⟨b, off, none⟩) len cap, .int .i64 a3, .int .i64 p] w fun e w' => e = .returned (.bool true) ∧ Below w.heap.size w w' := by
  have m1 : 0 ≤ p * len := Int.mul_nonneg h0 (by omega)
  have m2 : p * len ≤ 100 * len := Int.mul_le_mul_of_nonneg_right h1 (by omega)
  have HC : Hid (∀ j, j < len → w.cell? ⟨b, off + j, none⟩ = some (.int .i64 (f j))) := hc
  clear hc
  go_enter Try.func3, Try.ntmps3
  go_wp2
  go_loopw [11] (fun i wr => ∃ k m : Nat, 1 ≤ k ∧ k ≤ len ∧ i = .int .i64 k ∧ okTo f k ∧ wr = w.drewN m) (fun i _ => len - (intOf i).toNat)
  case atStart => exact ⟨1, 0, by omega, by omega, rfl, okTo_one f, rfl⟩
  case round =>
    obtain ⟨k, m, hk1, hk2, rfl, hok, rfl⟩ := hrel
    by_cases hlt : k < len
    · have c1 : w.cell? ⟨b, off + k, none⟩ = some (.int .i64 (f k)) := HC.out k hlt
      have c2 : w.cell? ⟨b, off + (k - 1), none⟩ = some (.int .i64 (f (k - 1))) := HC.out (k - 1) (by omega)
      go_wp2
      go_quiet (fail)
      go_wp2
      · go_ret
        exact ⟨rfl, below_drewN (below_drawn w m) _⟩
      · go_roundw
        case rel => exact ⟨k + 1, _, by omega, by omega, by go_num, okTo_succ hok (by assumption), rfl⟩
        case measure => simp [intOf]; omega
    · have hkl : k = len := by omega
      subst hkl
      go_wp2
      go_loop [13, 14, 15] (fun wt fd i => ∃ (k' : Nat) (fd' : Bool) (wt' : Int), k' ≤ k ∧ i = .int .i64 k' ∧ fd = .bool fd' ∧ wt = .int .i64 wt' ∧ Hid (Plain.best f p k k' = (fd', wt'))) (fun _ _ i => k - (intOf i).toNat)
      case atStart => exact ⟨0, false, 0, Nat.zero_le _, rfl, rfl, rfl, rfl⟩
      case round =>
        obtain ⟨k', fd, wt, hk', rfl, rfl, rfl, hbest⟩ := hrel
        by_cases hlt' : k' < k
        · have c1 : w.cell? ⟨b, off + k', none⟩ = some (.int .i64 (f k')) := HC.out k' hlt'
          go_wp2
          go_loop [17, 18] (fun c j => ∃ mm : Nat, mm ≤ k ∧ j = .int .i64 mm ∧ c = .int .i64 (Plain.cnt f (f k') mm)) (fun _ j => k - (intOf j).toNat)
          case atStart => exact ⟨0, Nat.zero_le _, rfl, rfl⟩
          case round =>
            obtain ⟨mm, hmm, rfl, rfl⟩ := hrel
            have hcl := Plain.cnt_le f (f k') mm
            by_cases hj : mm < k
            · have c3 : w.cell? ⟨b, off + mm, none⟩ = some (.int .i64 (f mm)) := HC.out mm hj
              go_wp2
              · go_round
                case rel => exact ⟨mm + 1, by omega, by go_num, by rw [Plain.cnt, if_pos (by assumption)]; go_num⟩
                case measure => simp [intOf]; omega
              · go_round
                case rel => exact ⟨mm + 1, by omega, by go_num, by rw [Plain.cnt, if_neg (by omega)]; go_num⟩
                case measure => simp [intOf]; omega
            · have hje : mm = k := by omega
              subst hje
              go_wp2
              · go_round
                case rel => exact ⟨k' + 1, true, f k', by omega, by go_num, rfl, rfl, best_hit hbest (by assumption) (.inr (by assumption))⟩
                case measure => simp [intOf]; omega
              · have hfd : fd = true := by assumption
                subst hfd
                go_round
                case rel => exact ⟨k' + 1, true, wt, by omega, by go_num, rfl, rfl, best_miss hbest (.inr ⟨rfl, by omega⟩)⟩
                case measure => simp [intOf]; omega
              · have hfd : ¬ fd = true := by assumption
                go_round
                case rel => exact ⟨k' + 1, true, f k', by omega, by go_num, rfl, rfl, best_hit hbest (by assumption) (.inl (by simpa using hfd))⟩
                case measure => simp [intOf]; omega
              · go_round
                case rel => exact ⟨k' + 1, fd, wt, by omega, by go_num, rfl, rfl, best_miss hbest (.inl (by omega))⟩
                case measure => simp [intOf]; omega
        · have hke : k' = k := by omega
          subst hke
          obtain ⟨r1, -, -⟩ := Plain.rk_facts p k' h0 h1 hlen
          have hwt : wt = f (Plain.rk p k') := by
            have := Plain.best_is f p k' h0 h1 hlen (Plain.sorted_of f k' hok)
            rw [hbest.out] at this
            exact this
          subst hwt
          have c1 := HC.out _ r1
          clear hbest
          go_wp2_with (go_at_call 6; refine (perc_some _ b off k' cap p (f (Plain.rk p k')) _ ?_ hlen (by omega) h0 h1 ?_).mono ?_)
          · exact World.cell?_alloc_at _ _ _ _ rfl
          · exact (World.cell?_alloc_past _ _ _ (World.block_lt_of_cell? w _ c1)).trans c1
          · go_ret
            exact ⟨rfl, (below_drawn w m).alloc (Nat.le_refl _) _⟩

end Go.Proofs.Qxb6626448a
