/- The walk of the second law: ASCII over a join. -/
import Derived.Test.Qxb6626916aLawA
namespace Go.Proofs.Qxb6626916a
open Go.RowKit Plain

theorem Drawn.trans {a b c : World} (h : Drawn a b) (k : Drawn b c) : Drawn a c := by
  obtain ⟨n, rfl⟩ := h
  exact k.elim fun m e => ⟨n + m, e.trans (World.drewN_drewN ..)⟩

theorem zz2 (a b : ByteArray) (w : World) (ha : a.size ≤ maxLen) (hb : b.size ≤ maxLen) :
    Calls Try.prog 7 #[.string a, .string b] w fun e w' => e = .returned (.bool (decide (a.size + b.size ≤ 1048576))) ∧ w' = w := by
  unfold maxLen at ha hb
  by_cases h1 : a.size ≤ 1048576
  · by_cases h2 : b.size ≤ 1048576
    · by_cases h : a.size + b.size ≤ 1048576
      · go_enter Try.func7, Try.ntmps7
        go_wp2
        go_ret
        exact ⟨by simp [h], rfl⟩
      · go_enter Try.func7, Try.ntmps7
        go_wp2
        go_ret
        exact ⟨by simp [h], rfl⟩
    · have h : ¬ a.size + b.size ≤ 1048576 := by omega
      go_enter Try.func7, Try.ntmps7
      go_wp2
      go_ret
      exact ⟨by simp [h], rfl⟩
  · have h : ¬ a.size + b.size ≤ 1048576 := by omega
    go_enter Try.func7, Try.ntmps7
    go_wp2
    go_ret
    exact ⟨by simp [h], rfl⟩

/-- the first not ASCII byte lies at k -/
def High (s : ByteArray) (k : Nat) : Prop := ∃ h : k < s.size, 128 ≤ s[k].toNat

theorem pre_full {a : ByteArray} {p : Nat} (h : Low a a.size) (k : IsPre a p) : p = a.size :=
  isPre_unique k ⟨Nat.le_refl _, h, fun h => absurd h (Nat.lt_irrefl _)⟩
theorem pre_part {a : ByteArray} {p i : Nat} (h : High a i) (k : IsPre a p) : p < a.size := by
  obtain ⟨hi, h⟩ := h
  obtain ⟨k1, k2, _⟩ := k
  rcases Nat.lt_or_ge p a.size with e | e
  · exact e
  · have := k2 i hi (by omega); omega

set_option maxHeartbeats 2000000 in
set_option maxRecDepth 100000 in
theorem lawB (a b : ByteArray) (w : World) (ha : a.size ≤ maxLen) (hb : b.size ≤ maxLen) :
    Calls Try.prog 4 #[.string a, .string b] w fun e w' => e = .returned (.bool true) ∧ Grown w w' := by
  by_cases h : a.size + b.size ≤ 1048576
  · go_enter Try.func4, Try.ntmps4
    go_wp2_with fail
    refine (zz2 a b _ ha hb).mono ?_
    rintro e w1 ⟨rfl, hw⟩
    obtain rfl := hw.symm
    unfold maxLen at ha hb
    have hd : decide (a.size + b.size ≤ 1048576) = true := by simp [h]
    rw [hd]
    have h1 : ¬ (1048576 : Int) < (a.size : Int) := by omega
    have h2 : ¬ (1048576 : Int) < (b.size : Int) := by omega
    go_wp2
    go_loop [5, 6] (fun f i => ∃ k : Nat, k ≤ a.size ∧ f = .bool true ∧ i = .int .i64 k ∧ Hid (Low a k)) (fun _ i => a.size - (intOf i).toNat)
    case atStart => exact ⟨0, Nat.zero_le _, rfl, rfl, low_zero a⟩
    case round =>
      obtain ⟨k, hk, rfl, rfl, hL⟩ := hrel
      by_cases hlt : k < a.size
      · by_cases hc : (a[k].toNat : Int) < 128
        · have hL2 := hid (low_succ hL.out hlt (by omega))
          have hc2 : ¬ (128 : Int) ≤ (a[k].toNat : Int) := by omega
          go_wp2
          go_round
          case rel => exact ⟨k + 1, by omega, rfl, by go_num, hL2.out⟩
          case measure => simp [intOf]; omega
        · have HH : Hid (High a k) := hid ⟨hlt, by omega⟩
          have hc2 : (128 : Int) ≤ (a[k].toNat : Int) := by omega
          clear hL
          go_wp2_with fail
          refine (ascii_any a _ (by omega)).mono ?_
          rintro e w1 ⟨⟨p, rfl, hP⟩, hD⟩
          have HP := hid hP
          have HD := hid hD
          have hp : (p : Int) < (a.size : Int) := by have := pre_part HH.out hP; omega
          clear hP hD
          go_wp2_with fail
          refine (ascii_any (a ++ b) _ (by rw [ByteArray.size_append]; omega)).mono ?_
          rintro e w2 ⟨⟨q, rfl, hQ⟩, hD⟩
          have HD2 := hid (HD.out.trans hD)
          obtain rfl : p = q := isPre_unique (isPre_part HP.out (by omega)) hQ
          clear hQ hD HD
          go_wp2
          go_ret
          exact ⟨by simp, HD2.out.grown⟩
      · obtain rfl : k = a.size := by omega
        go_wp2_with fail
        refine (ascii_any a _ (by omega)).mono ?_
        rintro e w1 ⟨⟨p, rfl, hP⟩, hD⟩
        obtain rfl := pre_full hL.out hP
        have HD := hid hD
        clear hP hD
        go_wp2_with fail
        refine (ascii_any (a ++ b) _ (by rw [ByteArray.size_append]; omega)).mono ?_
        rintro e w2 ⟨⟨q, rfl, hQ⟩, hD⟩
        have HD2 := hid (HD.out.trans hD)
        have HQ := hid hQ
        have hq := hQ.1
        rw [ByteArray.size_append] at hq
        clear hQ hD HD
        go_wp2_with fail
        refine (ascii_any b _ (by omega)).mono ?_
        rintro e w3 ⟨⟨r, rfl, hR⟩, hD⟩
        have HD3 := hid (HD2.out.trans hD)
        have hr := hR.1
        have hqr : (q : Int) = (a.size : Int) + (r : Int) := by have := isPre_unique HQ.out (isPre_full hL.out hR); omega
        clear hR hD HD2
        go_wp2
        go_ret
        exact ⟨by simp, HD3.out.grown⟩
  · go_enter Try.func4, Try.ntmps4
    go_wp2_with fail
    refine (zz2 a b _ ha hb).mono ?_
    rintro e w1 ⟨rfl, hw⟩
    obtain rfl := hw.symm
    have hd : decide (a.size + b.size ≤ 1048576) = false := by simp [h]
    rw [hd]
    go_wp2
    go_ret
    exact ⟨rfl, Grown.refl _⟩

end Go.Proofs.Qxb6626916a
