/- The bounds on the lengths: the two zzBytes functions (a bool is answered, no more is wanted) and sizeFits. -/
import Derived.Test.Qxb6626482aReads
namespace Go.Proofs.Qxb6626482a
open Go.RowKit

set_option maxHeartbeats 1000000 in
theorem zz5_any (pa ta : Option Addr) (pn pc tn tc : Nat) (v : Value) (r : Int) (m : Nat) (L : Nat → Nat) (X : Nat → Nat → Int) (w : World) (hp : pn ≤ 9223372036854775807) (ht : tn ≤ 9223372036854775807) (hR : RowsAt w v m L X) (hF : Fits m L X) :
    Calls Try.prog 5 #[.slice pa pn pc, v, .int .i64 r, .slice ta tn tc] w fun e w' => Says e True ∧ w' = w := by
  obtain ⟨a, cap, rfl, hc⟩ := hR
  have hm := hF.hm
  have HC : Hid (0 < m → ∃ b off, a = some ⟨b, off, none⟩ ∧ ∀ i, i < m → ∃ rv, w.cell? ⟨b, off + i, none⟩ = some rv ∧ SymsAt w rv (L i) (X i)) := hc
  clear hc
  by_cases h2 : 1048576 < pn
  · go_enter Try.func5, Try.ntmps5
    go_wp2
    go_ret
    exact ⟨⟨false, rfl, fun h => by cases h⟩, rfl⟩
  by_cases h3 : 1048576 < m
  · go_enter Try.func5, Try.ntmps5
    go_wp2
    go_ret
    exact ⟨⟨false, rfl, fun h => by cases h⟩, rfl⟩
  go_enter Try.func5, Try.ntmps5
  go_wp2
  · go_ret
    exact ⟨⟨false, rfl, fun h => by cases h⟩, rfl⟩
  · go_loop [9, 10] (fun s i => ∃ (k : Nat) (z : Int), k ≤ m ∧ i = .int .i64 k ∧ s = .int .i64 z ∧ 0 ≤ z ∧ z ≤ 1048576) (fun _ i => m - (intOf i).toNat)
    case atStart => exact ⟨0, _, Nat.zero_le _, rfl, rfl, by omega, by omega⟩
    case round =>
      obtain ⟨k, z, hk, rfl, rfl, hz0, hz1⟩ := hrel
      by_cases hlt : k < m
      · obtain ⟨b, off, rfl, hc⟩ := HC.out (by omega)
        obtain ⟨rv, c1, ra, rc, rfl, hs⟩ := hc k hlt
        have hLk := hF.hL k hlt
        clear hc hs
        by_cases hbig : 1048576 < L k
        · go_wp2
          go_ret
          exact ⟨⟨false, rfl, fun h => by cases h⟩, rfl⟩
        · go_wp2
          · go_ret
            exact ⟨⟨false, rfl, fun h => by cases h⟩, rfl⟩
          · go_round
            case rel => exact ⟨k + 1, _, by omega, by go_num, rfl, by omega, by omega⟩
            case measure => simp [intOf]; omega
      · by_cases hbt : 1048576 < tn
        · go_wp2
          go_ret
          exact ⟨⟨false, rfl, fun h => by cases h⟩, rfl⟩
        · go_wp2
          · go_ret
            exact ⟨⟨false, rfl, fun h => by cases h⟩, rfl⟩
          · go_ret
            exact ⟨⟨true, rfl, fun _ => trivial⟩, rfl⟩

set_option maxHeartbeats 1000000 in
theorem zz13_any (pa ta : Option Addr) (pn pc tn tc : Nat) (v : Value) (r : Int) (m : Nat) (L : Nat → Nat) (X : Nat → Nat → Int) (w : World) (hp : pn ≤ 9223372036854775807) (ht : tn ≤ 9223372036854775807) (hR : RowsAt w v m L X) (hF : Fits m L X) :
    Calls Try.prog 13 #[.slice pa pn pc, v, .int .i64 r, .slice ta tn tc] w fun e w' => Says e True ∧ w' = w := by
  obtain ⟨a, cap, rfl, hc⟩ := hR
  have hm := hF.hm
  have HC : Hid (0 < m → ∃ b off, a = some ⟨b, off, none⟩ ∧ ∀ i, i < m → ∃ rv, w.cell? ⟨b, off + i, none⟩ = some rv ∧ SymsAt w rv (L i) (X i)) := hc
  clear hc
  by_cases h2 : 1048576 < pn
  · go_enter Try.func13, Try.ntmps13
    go_wp2
    go_ret
    exact ⟨⟨false, rfl, fun h => by cases h⟩, rfl⟩
  by_cases h3 : 1048576 < m
  · go_enter Try.func13, Try.ntmps13
    go_wp2
    go_ret
    exact ⟨⟨false, rfl, fun h => by cases h⟩, rfl⟩
  go_enter Try.func13, Try.ntmps13
  go_wp2
  · go_ret
    exact ⟨⟨false, rfl, fun h => by cases h⟩, rfl⟩
  · go_loop [9, 10] (fun s i => ∃ (k : Nat) (z : Int), k ≤ m ∧ i = .int .i64 k ∧ s = .int .i64 z ∧ 0 ≤ z ∧ z ≤ 1048576) (fun _ i => m - (intOf i).toNat)
    case atStart => exact ⟨0, _, Nat.zero_le _, rfl, rfl, by omega, by omega⟩
    case round =>
      obtain ⟨k, z, hk, rfl, rfl, hz0, hz1⟩ := hrel
      by_cases hlt : k < m
      · obtain ⟨b, off, rfl, hc⟩ := HC.out (by omega)
        obtain ⟨rv, c1, ra, rc, rfl, hs⟩ := hc k hlt
        have hLk := hF.hL k hlt
        clear hc hs
        by_cases hbig : 1048576 < L k
        · go_wp2
          go_ret
          exact ⟨⟨false, rfl, fun h => by cases h⟩, rfl⟩
        · go_wp2
          · go_ret
            exact ⟨⟨false, rfl, fun h => by cases h⟩, rfl⟩
          · go_round
            case rel => exact ⟨k + 1, _, by omega, by go_num, rfl, by omega, by omega⟩
            case measure => simp [intOf]; omega
      · by_cases hbt : 1048576 < tn
        · go_wp2
          go_ret
          exact ⟨⟨false, rfl, fun h => by cases h⟩, rfl⟩
        · go_wp2
          · go_ret
            exact ⟨⟨false, rfl, fun h => by cases h⟩, rfl⟩
          · go_ret
            exact ⟨⟨true, rfl, fun _ => trivial⟩, rfl⟩

set_option maxHeartbeats 1000000 in
theorem sizeFits_any (pa ta : Option Addr) (pn pc tn tc : Nat) (v : Value) (m : Nat) (L : Nat → Nat) (X : Nat → Nat → Int) (w : World) (hp : pn ≤ 9223372036854775807) (ht : tn ≤ 9223372036854775807) (hR : RowsAt w v m L X) (hF : Fits m L X) :
    Calls Try.prog 6 #[.slice pa pn pc, v, .slice ta tn tc] w fun e w' => Says e (pn ≤ 1048576 ∧ tn ≤ 1048576 ∧ m ≤ 1048576 ∧ ∀ i, i < m → L i ≤ 1048576) ∧ w' = w := by
  obtain ⟨a, cap, rfl, hc⟩ := hR
  have hm := hF.hm
  have HC : Hid (0 < m → ∃ b off, a = some ⟨b, off, none⟩ ∧ ∀ i, i < m → ∃ rv, w.cell? ⟨b, off + i, none⟩ = some rv ∧ SymsAt w rv (L i) (X i)) := hc
  clear hc
  by_cases h1 : 1048576 < tn
  · go_enter Try.func6, Try.ntmps6
    go_wp2
    go_ret
    exact ⟨⟨false, rfl, fun h => by cases h⟩, rfl⟩
  by_cases h2 : 1048576 < pn
  · go_enter Try.func6, Try.ntmps6
    go_wp2
    go_ret
    exact ⟨⟨false, rfl, fun h => by cases h⟩, rfl⟩
  by_cases h3 : 1048576 < m
  · go_enter Try.func6, Try.ntmps6
    go_wp2
    go_ret
    exact ⟨⟨false, rfl, fun h => by cases h⟩, rfl⟩
  go_enter Try.func6, Try.ntmps6
  go_wp2
  · go_ret
    exact ⟨⟨false, rfl, fun h => by cases h⟩, rfl⟩
  · go_loop [7, 8] (fun s i => ∃ (k : Nat) (z : Int), k ≤ m ∧ i = .int .i64 k ∧ s = .int .i64 z ∧ 0 ≤ z ∧ z ≤ 1048576 ∧ Hid (∀ i, i < k → L i ≤ 1048576)) (fun _ i => m - (intOf i).toNat)
    case atStart => exact ⟨0, _, Nat.zero_le _, rfl, rfl, by omega, by omega, fun i h => absurd h (Nat.not_lt_zero _)⟩
    case round =>
      obtain ⟨k, z, hk, rfl, rfl, hz0, hz1, hok⟩ := hrel
      by_cases hlt : k < m
      · obtain ⟨b, off, rfl, hc⟩ := HC.out (by omega)
        obtain ⟨rv, c1, ra, rc, rfl, hs⟩ := hc k hlt
        have hLk := hF.hL k hlt
        clear hc hs
        by_cases hbig : 1048576 < L k
        · go_wp2
          go_ret
          exact ⟨⟨false, rfl, fun h => by cases h⟩, rfl⟩
        · go_wp2
          · go_ret
            exact ⟨⟨false, rfl, fun h => by cases h⟩, rfl⟩
          · go_round
            case rel => exact ⟨k + 1, _, by omega, by go_num, rfl, by omega, by omega, fun i h => by
              by_cases e : i = k
              · subst e; omega
              · exact hok.out i (by omega)⟩
            case measure => simp [intOf]; omega
      · go_wp2
        go_ret
        exact ⟨⟨true, rfl, fun _ => ⟨by omega, by omega, by omega, fun i h => hok.out i (by omega)⟩⟩, rfl⟩

end Go.Proofs.Qxb6626482a
