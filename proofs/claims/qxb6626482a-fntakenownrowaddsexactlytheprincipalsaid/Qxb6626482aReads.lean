/- The contracts of what only reads: allBelow, occursIn, markedExactly, the two bounds on the lengths. -/
import Derived.Test.Qxb6626482aMem
namespace Go.Proofs.Qxb6626482a
open Go.RowKit

/-- a bool is answered; where it is true, p holds -/
def Says (e : Ending) (p : Prop) : Prop := ∃ b : Bool, e = .returned (.bool b) ∧ (b = true → p)

set_option maxHeartbeats 1000000 in
theorem allBelow_any (v : Value) (m : Nat) (L : Nat → Nat) (X : Nat → Nat → Int) (n : Int) (w : World) (hR : RowsAt w v m L X) (hF : Fits m L X) :
    Calls Try.prog 7 #[v, .int .i64 n] w fun e w' => Says e (∀ i j, i < m → j < L i → X i j < n) ∧ w' = w := by
  obtain ⟨a, cap, rfl, hc⟩ := hR
  have hm := hF.hm
  have HC : Hid (0 < m → ∃ b off, a = some ⟨b, off, none⟩ ∧ ∀ i, i < m → ∃ rv, w.cell? ⟨b, off + i, none⟩ = some rv ∧ SymsAt w rv (L i) (X i)) := hc
  clear hc
  go_enter Try.func7, Try.ntmps7
  go_wp2
  go_loop [5] (fun i => ∃ k : Nat, k ≤ m ∧ i = .int .i64 k ∧ Hid (∀ i j, i < k → j < L i → X i j < n)) (fun i => m - (intOf i).toNat)
  case atStart => exact ⟨0, Nat.zero_le _, rfl, fun i j h => absurd h (Nat.not_lt_zero _)⟩
  case round =>
    obtain ⟨k, hk, rfl, hok⟩ := hrel
    by_cases hlt : k < m
    · obtain ⟨b, off, rfl, hc⟩ := HC.out (by omega)
      obtain ⟨rv, c1, ra, rc, rfl, hs⟩ := hc k hlt
      have HS : Hid (0 < L k → ∃ b off, ra = some ⟨b, off, none⟩ ∧ ∀ j, j < L k → w.cell? ⟨b, off + j, none⟩ = some (.int .u16 (X k j))) := hs
      have hLk := hF.hL k hlt
      clear hc hs
      go_wp2
      go_loop [6] (fun j => ∃ q : Nat, q ≤ L k ∧ j = .int .i64 q ∧ Hid (∀ j, j < q → X k j < n)) (fun j => L k - (intOf j).toNat)
      case atStart => exact ⟨0, Nat.zero_le _, rfl, fun j h => absurd h (Nat.not_lt_zero _)⟩
      case round =>
        obtain ⟨q, hq, rfl, hok2⟩ := hrel
        by_cases hj : q < L k
        · obtain ⟨rb, ro, rfl, hs⟩ := HS.out (by omega)
          have c2 := hs q hj
          have bx := hF.hX k q hlt hj
          clear hs
          go_wp2
          · go_ret
            exact ⟨⟨false, rfl, fun h => by cases h⟩, rfl⟩
          · go_round
            case rel => exact ⟨q + 1, by omega, by go_num, fun j h => by
              by_cases e : j = q
              · subst e; omega
              · exact hok2.out j (by omega)⟩
            case measure => simp [intOf]; omega
        · go_wp2
          go_round
          case rel => exact ⟨k + 1, by omega, by go_num, fun i j h h2 => by
            by_cases e : i = k
            · subst e; exact hok2.out j (by omega)
            · exact hok.out i j (by omega) h2⟩
          case measure => simp [intOf]; omega
    · go_wp2
      go_ret
      exact ⟨⟨true, rfl, fun _ i j h h2 => hok.out i j (by omega) h2⟩, rfl⟩

set_option maxHeartbeats 1000000 in
theorem occursIn_yes (v : Value) (m : Nat) (L : Nat → Nat) (X : Nat → Nat → Int) (n : Nat) (w : World) (hR : RowsAt w v m L X) (hF : Fits m L X) (hO : Occurs m L X n) :
    Calls Try.prog 14 #[v, .int .i64 n] w fun e w' => e = .returned (.bool true) ∧ w' = w := by
  obtain ⟨a, cap, rfl, hc⟩ := hR
  have hm := hF.hm
  have HC : Hid (0 < m → ∃ b off, a = some ⟨b, off, none⟩ ∧ ∀ i, i < m → ∃ rv, w.cell? ⟨b, off + i, none⟩ = some rv ∧ SymsAt w rv (L i) (X i)) := hc
  clear hc
  go_enter Try.func14, Try.ntmps14
  go_wp2
  go_loop [5] (fun i => ∃ k : Nat, k ≤ m ∧ i = .int .i64 k ∧ Hid (∀ i j, i < k → j < L i → X i j ≠ n)) (fun i => m - (intOf i).toNat)
  case atStart => exact ⟨0, Nat.zero_le _, rfl, fun i j h => absurd h (Nat.not_lt_zero _)⟩
  case round =>
    obtain ⟨k, hk, rfl, hok⟩ := hrel
    by_cases hlt : k < m
    · obtain ⟨b, off, rfl, hc⟩ := HC.out (by omega)
      obtain ⟨rv, c1, ra, rc, rfl, hs⟩ := hc k hlt
      have HS : Hid (0 < L k → ∃ b off, ra = some ⟨b, off, none⟩ ∧ ∀ j, j < L k → w.cell? ⟨b, off + j, none⟩ = some (.int .u16 (X k j))) := hs
      have hLk := hF.hL k hlt
      clear hc hs
      go_wp2
      go_loop [6] (fun j => ∃ q : Nat, q ≤ L k ∧ j = .int .i64 q ∧ Hid (∀ j, j < q → X k j ≠ n)) (fun j => L k - (intOf j).toNat)
      case atStart => exact ⟨0, Nat.zero_le _, rfl, fun j h => absurd h (Nat.not_lt_zero _)⟩
      case round =>
        obtain ⟨q, hq, rfl, hok2⟩ := hrel
        by_cases hj : q < L k
        · obtain ⟨rb, ro, rfl, hs⟩ := HS.out (by omega)
          have c2 := hs q hj
          have bx := hF.hX k q hlt hj
          clear hs
          go_wp2
          · go_ret
            exact ⟨rfl, rfl⟩
          · have hne : (X k q == (n : Int)) = false := by assumption
            go_round
            case rel => exact ⟨q + 1, by omega, by go_num, fun j h => by
              by_cases e : j = q
              · subst e; simpa using hne
              · exact hok2.out j (by omega)⟩
            case measure => simp [intOf]; omega
        · go_wp2
          go_round
          case rel => exact ⟨k + 1, by omega, by go_num, fun i j h h2 => by
            by_cases e : i = k
            · subst e; exact hok2.out j (by omega)
            · exact hok.out i j (by omega) h2⟩
          case measure => simp [intOf]; omega
    · exfalso
      obtain ⟨i, j, h1, h2, h3⟩ := hO
      exact hok.out i j (by omega) h2 h3

set_option maxHeartbeats 1000000 in
/-- got is true exactly at the symbols that stand in some row of chosen -/
theorem markedExactly_yes (gv v : Value) (n : Nat) (f : Nat → Bool) (m : Nat) (L : Nat → Nat) (X : Nat → Nat → Int) (w : World) (hn : n ≤ 9223372036854775807) (hG : BoolsAt w gv n f) (hR : RowsAt w v m L X) (hF : Fits m L X)
    (hlow : ∀ i j, i < m → j < L i → X i j < n) (hex : ∀ i, i < n → (f i = true ↔ Occurs m L X i)) :
    Calls Try.prog 12 #[gv, v] w fun e w' => e = .returned (.bool true) ∧ w' = w := by
  have HRR : Hid (RowsAt w v m L X) := hR
  obtain ⟨ga, gcap, rfl, hg⟩ := hG
  obtain ⟨a, cap, rfl, hc⟩ := hR
  have hm := hF.hm
  have HG : Hid (0 < n → ∃ b off, ga = some ⟨b, off, none⟩ ∧ ∀ j, j < n → w.cell? ⟨b, off + j, none⟩ = some (.bool (f j))) := hg
  have HC : Hid (0 < m → ∃ b off, a = some ⟨b, off, none⟩ ∧ ∀ i, i < m → ∃ rv, w.cell? ⟨b, off + i, none⟩ = some rv ∧ SymsAt w rv (L i) (X i)) := hc
  have HL : Hid (∀ i j, i < m → j < L i → X i j < n) := hlow
  have HE : Hid (∀ i, i < n → (f i = true ↔ Occurs m L X i)) := hex
  clear hc hg hlow hex
  go_enter Try.func12, Try.ntmps12
  go_wp2
  go_loop [5] (fun i => ∃ k : Nat, k ≤ m ∧ i = .int .i64 k) (fun i => m - (intOf i).toNat)
  case atStart => exact ⟨0, Nat.zero_le _, rfl⟩
  case round =>
    obtain ⟨k, hk, rfl⟩ := hrel
    by_cases hlt : k < m
    · obtain ⟨b, off, rfl, hc⟩ := HC.out (by omega)
      obtain ⟨rv, c1, ra, rc, rfl, hs⟩ := hc k hlt
      have HS : Hid (0 < L k → ∃ b off, ra = some ⟨b, off, none⟩ ∧ ∀ j, j < L k → w.cell? ⟨b, off + j, none⟩ = some (.int .u16 (X k j))) := hs
      have hLk := hF.hL k hlt
      clear hc hs
      go_wp2
      go_loop [6] (fun j => ∃ q : Nat, q ≤ L k ∧ j = .int .i64 q) (fun j => L k - (intOf j).toNat)
      case atStart => exact ⟨0, Nat.zero_le _, rfl⟩
      case round =>
        obtain ⟨q, hq, rfl⟩ := hrel
        by_cases hj : q < L k
        · obtain ⟨rb, ro, rfl, hs⟩ := HS.out (by omega)
          have c2 := hs q hj
          have bx := hF.hX k q hlt hj
          have bl := HL.out k q hlt hj
          obtain ⟨xn, hxn⟩ : ∃ xn : Nat, X k q = xn := ⟨(X k q).toNat, by omega⟩
          rw [hxn] at c2 bx bl
          obtain ⟨gb, go, rfl, hg⟩ := HG.out (by omega)
          have c3 := hg xn (by omega)
          have ht : f xn = true := (HE.out xn (by omega)).2 ⟨k, q, hlt, hj, hxn⟩
          rw [ht] at c3
          clear hs hg hxn ht
          go_wp2
          go_round
          case rel => exact ⟨q + 1, by omega, by go_num⟩
          case measure => simp [intOf]; omega
        · go_wp2
          go_round
          case rel => exact ⟨k + 1, by omega, by go_num⟩
          case measure => simp [intOf]; omega
    · go_wp2
      go_loop [8] (fun i => ∃ q : Nat, q ≤ n ∧ i = .int .i64 q) (fun i => n - (intOf i).toNat)
      case atStart => exact ⟨0, Nat.zero_le _, rfl⟩
      case round =>
        obtain ⟨q, hq, rfl⟩ := hrel
        by_cases hj : q < n
        · obtain ⟨gb, go, rfl, hg⟩ := HG.out (by omega)
          have c3 := hg q hj
          have hE := HE.out q hj
          clear hg
          by_cases ht : f q = true
          · have hO := hE.1 ht
            have HO : Hid (Occurs m L X q) := hO
            rw [ht] at c3
            clear hE hO ht
            go_wp2_with (go_at_call 14; refine (occursIn_yes _ m L X q _ HRR.out hF HO.out).mono ?_; rintro e w' ⟨rfl, rfl⟩)
            go_round
            case rel => exact ⟨q + 1, by omega, by go_num⟩
            case measure => simp [intOf]; omega
          · have hf : f q = false := by simpa using ht
            rw [hf] at c3
            clear hE ht hf
            go_wp2_with (go_at_call 14; refine (occursIn_yes _ m L X q _ HRR.out hF HO.out).mono ?_; rintro e w' ⟨rfl, rfl⟩)
            go_round
            case rel => exact ⟨q + 1, by omega, by go_num⟩
            case measure => simp [intOf]; omega
        · go_wp2
          go_ret
          exact ⟨rfl, rfl⟩

end Go.Proofs.Qxb6626482a
