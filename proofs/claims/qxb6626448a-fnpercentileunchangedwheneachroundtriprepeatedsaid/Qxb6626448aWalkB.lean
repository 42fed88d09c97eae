/- The walk of the second law. -/
import Derived.Test.Qxb6626448aCallees
import Derived.Deep.QuietTactic
import Derived.BigQuiet
namespace Go.Proofs.Qxb6626448a
open Go.RowKit

theorem Try.info22 : (Try.prog.info? 22).map (fun i => (i.zero, i.size, i.bytes)) = some (some (.int .i64 0), 1, 8) := by kernel_rfl

/-- the cells of the repeated list: its first t elements -/
def vals (f : Nat → Int) (m : Nat) (t : Nat) : List Value := (List.range t).map fun s => .int .i64 (f (s / m))
theorem vals_snoc (f : Nat → Int) (m k j : Nat) (hj : j < m) : vals f m (k * m + j) ++ [.int .i64 (f k)] = vals f m (k * m + j + 1) := by
  have e : (k * m + j) / m = k := by
    rw [Nat.mul_comm, Nat.mul_add_div (by omega), Nat.div_eq_of_lt hj]; omega
  unfold vals
  rw [List.range_succ, List.map_append, List.map_singleton, e]
theorem vals_get (f : Nat → Int) (m t i : Nat) (h : i < t) : (vals f m t)[i]? = some (.int .i64 (f (i / m))) := by
  unfold vals
  simp [h]

theorem at_plain (b off i : Nat) : (⟨b, off, none⟩ : Addr).add i = ⟨b, off + i, none⟩ := by
  unfold Addr.add
  split <;> simp_all

/-- some bound is passed: true at once -/
theorem lawB_out (a0 a1 : Int) (a : Option Addr) (len cap : Nat) (a3 p m : Int) (w : World) (hl : len ≤ maxLen) (h : 65536 < len ∨ p < 0 ∨ 100 < p ∨ m < 1 ∨ 16 < m ∨ 65536 < (len : Int) * m) :
    Calls Try.prog 4 #[.int .i64 a0, .int .i64 a1, .slice a len cap, .int .i64 a3, .int .i64 p, .int .i64 m] w fun e w' => e = .returned (.bool true) ∧ Below w.heap.size w w' := by
  unfold maxLen at hl
  by_cases h1 : 1048576 < len
  · go_enter Try.func4, Try.ntmps4
    go_wp2
    go_ret
    exact ⟨rfl, Below.refl _ _⟩
  by_cases h2 : 65536 < len
  · go_enter Try.func4, Try.ntmps4
    go_wp2
    go_ret
    exact ⟨rfl, Below.refl _ _⟩
  by_cases h3 : p < 0
  · go_enter Try.func4, Try.ntmps4
    go_wp2
    go_ret
    exact ⟨rfl, Below.refl _ _⟩
  by_cases h4 : 100 < p
  · go_enter Try.func4, Try.ntmps4
    go_wp2
    go_ret
    exact ⟨rfl, Below.refl _ _⟩
  by_cases h5 : m < 1
  · go_enter Try.func4, Try.ntmps4
    go_wp2
    go_ret
    exact ⟨rfl, Below.refl _ _⟩
  by_cases h6 : 16 < m
  · go_enter Try.func4, Try.ntmps4
    go_wp2
    go_ret
    exact ⟨rfl, Below.refl _ _⟩
  have h7 : 65536 < (len : Int) * m := by omega
  have h8 : (len : Int) * m ≤ 65536 * 16 := Int.mul_le_mul (by omega) (by omega) (by omega) (by omega)
  clear h
  go_enter Try.func4, Try.ntmps4
  go_wp2
  go_ret
  exact ⟨rfl, Below.refl _ _⟩

/-- no round trip at all -/
theorem lawB_none (a0 a1 : Int) (a : Option Addr) (cap : Nat) (a3 p m : Int) (w : World) (h0 : 0 ≤ p) (h1 : p ≤ 100) (h2 : 1 ≤ m) (h3 : m ≤ 16) :
    Calls Try.prog 4 #[.int .i64 a0, .int .i64 a1, .slice a 0 cap, .int .i64 a3, .int .i64 p, .int .i64 m] w fun e w' => e = .returned (.bool true) ∧ Below w.heap.size w w' := by
  obtain ⟨i0, hi, hz0, hz1, hz2⟩ := info_parts Try.info22
  have hp : ¬ 100 < p := by omega
  have hm1 : ¬ m < 1 := by omega
  have hm2 : ¬ 16 < m := by omega
  go_enter Try.func4, Try.ntmps4
  go_wp2_with (first | (at_make; refine wpList_make_own _ rfl _ _ 23 rfl w.heap.size 22 i0 (.int .i64 0) 1 Try.underlying23 hi hz0 hz1 _ _ _ 0 rfl rfl (by omega) ?b2 ?b3 (Nat.le_refl _) ?_) | go_in)
  intro w0 hown0 hgrow0
  have hbel : Below w.heap.size w w0 := (Below.refl _ _).grown hgrow0 (Nat.le_refl _) (fun k h => by cases h)
  clear hown0 hgrow0
  go_wp2
  refine wp_loop_rounds 1 ?_
  rw [rounds_succ]
  go_wp2
  go_ret
  exact ⟨rfl, (hbel.alloc hbel.size _).alloc (by have := hbel.size; simp; omega) _⟩

theorem rk_of (p : Int) (n q : Nat) (h1 : q = 0 ∨ 100 * (q : Int) < p * n) (h2 : p * n ≤ 100 * ((q : Int) + 1)) : Plain.rk p n = q := by
  unfold Plain.rk
  omega

set_option maxHeartbeats 1000000 in
theorem lawB_some (a0 a1 : Int) (b off len cap : Nat) (a3 p : Int) (m : Nat) (f : Nat → Int) (w : World) (h0 : 0 ≤ p) (h1 : p ≤ 100) (hlen : 0 < len) (hlen2 : len ≤ 65536) (hm1 : 1 ≤ m) (hm2 : m ≤ 16) (hlm : len * m ≤ 65536)
    (hbB : b < w.heap.size) (hc : ∀ j, j < len → w.cell? ⟨b, off + j, none⟩ = some (.int .i64 (f j))) :
    Calls Try.prog 4 #[.int .i64 a0, .int .i64 a1, .slice (some ⟨b, off, none⟩) len cap, .int .i64 a3, .int .i64 p, .int .i64 m] w fun e w' => e = .returned (.bool true) ∧ Below w.heap.size w w' := by
  have m1 : 0 ≤ p * len := Int.mul_nonneg h0 (by omega)
  have m2 : p * len ≤ 100 * len := Int.mul_le_mul_of_nonneg_right h1 (by omega)
  have m3 : (len : Int) * (m : Int) ≤ 65536 := by rw [← Int.natCast_mul]; omega
  have m4 : 0 ≤ (len : Int) * (m : Int) := Int.mul_nonneg (by omega) (by omega)
  have hm0 : 0 < len * m := Nat.mul_pos hlen (by omega)
  have HC : Hid (∀ j, j < len → w.cell? ⟨b, off + j, none⟩ = some (.int .i64 (f j))) := hc
  clear hc
  obtain ⟨i0, hi, hz0, hz1, hz2⟩ := info_parts Try.info22
  go_enter Try.func4, Try.ntmps4
  go_wp2_with (first | (at_make; refine wpList_make_own _ rfl _ _ 23 rfl w.heap.size 22 i0 (.int .i64 0) 1 Try.underlying23 hi hz0 hz1 _ _ _ (len * m) rfl rfl (by simp) ?b2 ?b3 (Nat.le_refl _) ?_) | go_in)
  case b2 => rw [hz2]; omega
  case b3 => unfold maxLen; omega
  intro w0 hown0 hgrow0
  have hbel0 : Below w.heap.size w w0 := (Below.refl _ _).grown hgrow0 (Nat.le_refl _) (fun k h => by cases h)
  clear hgrow0
  go_wp2
  go_loopw [14, 15] (fun rep i wr => ∃ k : Nat, k ≤ len ∧ i = .int .i64 k ∧ rep = .slice (some ⟨w.heap.size, 0, none⟩) (k * m) (len * m) ∧ wr.ownsRow w.heap.size 22 1 (.slice (some ⟨w.heap.size, 0, none⟩) (k * m) (len * m)) (k * m) (vals f m (k * m)) ∧ Below w.heap.size w wr) (fun _ i _ => len - (intOf i).toNat)
  case atStart => exact ⟨0, Nat.zero_le _, rfl, by simp, by simpa [vals] using hown0, hbel0⟩
  case round =>
    obtain ⟨k, hk, rfl, rfl, hown, hbel⟩ := hrel
    clear hown0 hbel0
    by_cases hlt : k < len
    · have hkm : k * m + m ≤ len * m := by have := Nat.mul_le_mul_right m (show k + 1 ≤ len by omega); rw [Nat.add_mul] at this; omega
      go_wp2
      go_loopw [14, 16] (fun rep j wr2 => ∃ jj : Nat, jj ≤ m ∧ j = .int .i64 jj ∧ rep = .slice (some ⟨w.heap.size, 0, none⟩) (k * m + jj) (len * m) ∧ wr2.ownsRow w.heap.size 22 1 (.slice (some ⟨w.heap.size, 0, none⟩) (k * m + jj) (len * m)) (k * m + jj) (vals f m (k * m + jj)) ∧ Below w.heap.size w wr2) (fun _ j _ => m - (intOf j).toNat)
      case atStart => exact ⟨0, Nat.zero_le _, rfl, rfl, hown, hbel⟩
      case round =>
        obtain ⟨jj, hjj, rfl, rfl, hown2, hbel2⟩ := hrel
        clear hown hbel
        by_cases hj : jj < m
        · have hcx : wr.cell? ⟨b, off + k, none⟩ = some (.int .i64 (f k)) := (hbel2.cell hbB).trans (HC.out k hlt)
          go_wp2_with (at_builtin; refine wpList_append_fits _ rfl (.tmp 64) (.tmp 69) 23 rfl w.heap.size 22 i0 1 Try.underlying23 hi hz1 w.heap.size (k * m + jj) (len * m) _ rfl (hown2.alloc _) ⟨wr.heap.size, 0, none⟩ 1 1 [.int .i64 (f k)] rfl rfl (cell_one_new _ _ _) (by intro u hu; simp at hu; subst hu; rfl) (by omega) ?_; intro w1 hown1 hgrow1)
          go_roundw
          case rel => exact ⟨jj + 1, by omega, by go_num, rfl, by rw [vals_snoc f m k jj hj] at hown1; exact hown1, (hbel2.alloc hbel2.size _).grown hgrow1 (by have := hbel2.size; simp; omega) (fun k hk => by cases hk; exact Nat.le_refl _)⟩
          case measure => simp [intOf]; omega
        · have hje : jj = m := by omega
          subst hje
          go_wp2
          go_roundw
          case rel => exact ⟨k + 1, by omega, by go_num, by rw [Nat.add_mul, Nat.one_mul], by rw [Nat.add_mul, Nat.one_mul]; exact hown2, hbel2⟩
          case measure => simp [intOf]; omega
    · have hke : k = len := by omega
      subst hke
      go_wp2
      go_loop [18] (fun kk => ∃ q : Nat, kk = .int .i64 ((q : Int) + 1) ∧ (q = 0 ∨ 100 * (q : Int) < p * k)) (fun kk => k + 1 - (intOf kk).toNat)
      case atStart => exact ⟨0, rfl, .inl rfl⟩
      case round =>
        obtain ⟨q, rfl, hq⟩ := hrel
        have hqk : q < k := by omega
        by_cases hgo : 100 * ((q : Int) + 1) < p * k
        · go_wp2
          go_round
          case rel => exact ⟨q + 1, by go_num, .inr (by omega)⟩
          case measure => simp [intOf]; omega
        · have hrk := rk_of p k q hq (by omega)
          have hrk2 := Plain.rk_rep p k m h0 hlen hm1
          rw [hrk] at hrk2
          have hlt2 := (Plain.rk_facts p (k * m) h0 h1 hm0).1
          have c1 : wr.cell? ⟨b, off + q, none⟩ = some (.int .i64 (f q)) := (hbel.cell hbB).trans (HC.out q hqk)
          have C2 : Hid (wr.cell? ⟨w.heap.size, 0 + Plain.rk p (k * m), none⟩ = some (.int .i64 (f q))) := by
            have := hown.cells (g := w.heap.size) rfl (Plain.rk p (k * m)) _ (vals_get f m (k * m) _ hlt2)
            rw [hrk2, at_plain] at this
            exact this
          have HR : Hid (Plain.rk p k = q) := hrk
          have hsz := hown.lt w.heap.size rfl
          clear hrk hrk2 hlt2 hown
          go_wp2_with fail
          refine (perc_some _ b off k cap p (f q) _ ?_ hlen (by omega) h0 h1 ?_).mono ?_
          · rw [World.cell?_alloc_past _ _ _ (by simp)]
            exact World.cell?_alloc_at _ _ _ _ rfl
          · rw [HR.out, World.cell?_alloc_past _ _ _ (by simp; omega), World.cell?_alloc_past _ _ _ (by omega)]
            exact c1
          · rintro e w' ⟨rfl, rfl⟩
            go_wp2_with fail
            refine (perc_some _ w.heap.size 0 (k * m) (k * m) p (f q) _ ?_ hm0 (by omega) h0 h1 ?_).mono ?_
            · exact World.cell?_alloc_at _ _ _ _ (by simp)
            · rw [World.cell?_alloc_past _ _ _ (by simp; omega), World.cell?_alloc_past _ _ _ (by omega)]
              exact C2.out
            · rintro e w' ⟨rfl, rfl⟩
              go_wp2
              go_ret
              exact ⟨rfl, (hbel.alloc hbel.size _).alloc (by have := hbel.size; simp; omega) _⟩

end Go.Proofs.Qxb6626448a
