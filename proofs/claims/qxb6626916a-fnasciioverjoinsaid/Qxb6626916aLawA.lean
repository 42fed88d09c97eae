/- The walk of the first law: ASCII gives the longest ASCII prefix. -/
import Derived.Test.Qxb6626916aAscii
import Derived.RowKit3
namespace Go.Proofs.Qxb6626916a
open Go.RowKit Plain

theorem Drawn.grown {w w' : World} (h : Drawn w w') : Grown w w' := by
  obtain ⟨n, rfl⟩ := h
  exact Grown.refl w

theorem zz1 (s : ByteArray) (w : World) (hs : s.size ≤ maxLen) :
    Calls Try.prog 5 #[.string s] w fun e w' => e = .returned (.bool (decide (s.size ≤ 1048576))) ∧ w' = w := by
  unfold maxLen at hs
  by_cases h : s.size ≤ 1048576
  · go_enter Try.func5, Try.ntmps5
    go_wp2
    go_ret
    exact ⟨by simp [h], rfl⟩
  · go_enter Try.func5, Try.ntmps5
    go_wp2
    go_ret
    exact ⟨by simp [h], rfl⟩

set_option maxHeartbeats 1000000 in
set_option maxRecDepth 100000 in
theorem lawA (s : ByteArray) (w : World) (hs : s.size ≤ maxLen) :
    Calls Try.prog 3 #[.string s] w fun e w' => e = .returned (.bool true) ∧ Grown w w' := by
  by_cases h : s.size ≤ 1048576
  · go_enter Try.func3, Try.ntmps3
    go_wp2_with fail
    refine (zz1 s _ hs).mono ?_
    rintro e w1 ⟨rfl, hw⟩
    obtain rfl := hw.symm
    unfold maxLen at hs
    have hd : decide (s.size ≤ 1048576) = true := by simp [h]
    rw [hd]
    go_wp2_with fail
    refine (ascii_any s _ (by omega)).mono ?_
    rintro e w1 ⟨⟨p, rfl, hP⟩, hD⟩
    have HP := hid hP
    have HG := hid hD.grown
    have hp := hP.1
    clear hP hD
    go_wp2
    go_loop [4] (fun i => ∃ k : Nat, k ≤ p ∧ i = .int .i64 k) (fun i => p - (intOf i).toNat)
    case atStart => exact ⟨0, Nat.zero_le _, rfl⟩
    case round =>
      obtain ⟨k, hk, rfl⟩ := hrel
      by_cases hlt : k < p
      · have hks : k < s.size := by omega
        have hc : (s[k].toNat : Int) < 128 := by have := HP.out.2.1 k hks hlt; omega
        go_wp2
        go_round
        case rel => exact ⟨k + 1, by omega, by go_num⟩
        case measure => simp [intOf]; omega
      · by_cases hps : p < s.size
        · have hc : ¬ (s[p].toNat : Int) < 128 := by have := HP.out.2.2 hps; omega
          go_wp2
          go_ret
          exact ⟨rfl, HG.out⟩
        · go_wp2
          go_ret
          exact ⟨rfl, HG.out⟩
  · go_enter Try.func3, Try.ntmps3
    go_wp2_with fail
    refine (zz1 s _ hs).mono ?_
    rintro e w1 ⟨rfl, hw⟩
    obtain rfl := hw.symm
    have hd : decide (s.size ≤ 1048576) = false := by simp [h]
    rw [hd]
    go_wp2
    go_ret
    exact ⟨rfl, Grown.refl _⟩

end Go.Proofs.Qxb6626916a
