/- The contract of budget.ASCII. -/
import Derived.Test.Qxb6626916aRows
import Derived.Test.Qxb6626916aPlain
import Derived.WalkKit
import Derived.WalkSpells
import Derived.WalkLawsBesides
import Derived.Deep.OwnRows
import Derived.Deep.QuietTactic
import Derived.BigQuiet
namespace Go.Proofs.Qxb6626916a
open Go.RowKit Plain

theorem hid {p : Prop} (h : p) : Hid p := h

/-- the length of the longest ASCII prefix, as an ending -/
def Says (s : ByteArray) (e : Ending) : Prop := ∃ p : Nat, e = .returned (.int .i64 p) ∧ IsPre s p
/-- a world with at most draws made -/
def Drawn (w w' : World) : Prop := ∃ n, w' = w.drewN n

/-- b is the eight bytes of s from k on -/
def Cut (s : ByteArray) (k : Nat) (b : ByteArray) : Prop := b.size = 8 ∧ ∀ i (hi : i < b.size) (hj : k + i < s.size), b[i] = s[k + i]
theorem cut8 (s : ByteArray) (k : Nat) (h : k + 8 ≤ s.size) : Cut s k (s.extract k (k + 8)) :=
  ⟨by rw [ByteArray.size_extract]; omega, fun i hi hj => ByteArray.getElem_extract ..⟩

theorem Drawn.more {w w' : World} (h : Drawn w w') (n : Nat) : Drawn w (w'.drewN n) := by
  obtain ⟨m, rfl⟩ := h
  exact ⟨m + n, World.drewN_drewN ..⟩

theorem low8 {s b : ByteArray} {k : Nat} (hL : Low s k) (hc : Cut s k b) (hk : k + 8 ≤ s.size) (hz : 8 ≤ b.size)
    (h : bits .and .u64 (((b[0]'(by omega)).toNat : Int) + ((b[1]'(by omega)).toNat : Int) * 256 + ((b[2]'(by omega)).toNat : Int) * 65536 + ((b[3]'(by omega)).toNat : Int) * 16777216 + ((b[4]'(by omega)).toNat : Int) * 4294967296 + ((b[5]'(by omega)).toNat : Int) * 1099511627776 + ((b[6]'(by omega)).toNat : Int) * 281474976710656 + ((b[7]'(by omega)).toNat : Int) * 72057594037927936) 9259542123273814144 = 0) : Low s (k + 8) := by
  have h := top_bits _ _ _ _ _ _ _ _ (UInt8.toNat_lt _) (UInt8.toNat_lt _) (UInt8.toNat_lt _) (UInt8.toNat_lt _) (UInt8.toNat_lt _) (UInt8.toNat_lt _) (UInt8.toNat_lt _) (UInt8.toNat_lt _) h
  obtain ⟨h0, h1, h2, h3, h4, h5, h6, h7⟩ := h
  have hc := hc.2
  rw [hc 0 (by omega) (by omega)] at h0
  rw [hc 1 (by omega) (by omega)] at h1
  rw [hc 2 (by omega) (by omega)] at h2
  rw [hc 3 (by omega) (by omega)] at h3
  rw [hc 4 (by omega) (by omega)] at h4
  rw [hc 5 (by omega) (by omega)] at h5
  rw [hc 6 (by omega) (by omega)] at h6
  rw [hc 7 (by omega) (by omega)] at h7
  exact low_succ (low_succ (low_succ (low_succ (low_succ (low_succ (low_succ (low_succ hL (by omega) h0) (by omega) h1) (by omega) h2) (by omega) h3) (by omega) h4) (by omega) h5) (by omega) h6) (by omega) h7

set_option maxHeartbeats 1000000 in
set_option maxRecDepth 100000 in
theorem ascii_any (s : ByteArray) (w : World) (hs : s.size ≤ 2097152) :
    Calls Try.prog 6 #[.string s] w fun e w' => Says s e ∧ Drawn w w' := by
  go_enter Try.func6, Try.ntmps6
  go_wp2
  go_loopw [3] (fun n wr => ∃ k : Nat, k ≤ s.size ∧ n = .int .i64 k ∧ Hid (Low s k) ∧ Hid (Drawn w wr)) (fun n _ => s.size - (intOf n).toNat)
  case atStart => exact ⟨0, Nat.zero_le _, rfl, low_zero s, ⟨0, rfl⟩⟩
  case round =>
    obtain ⟨k, hk, rfl, hL, hD⟩ := hrel
    by_cases hlt : k + 8 ≤ s.size
    · go_wp2
      have HB := hid (cut8 s k hlt)
      generalize s.extract k (k + 8) = b at HB ⊢
      have hz : b.size = 8 := HB.out.1
      have q0 : 0 < b.size := by omega
      have q1 : (1 : Int) < (b.size : Int) := by omega
      have q2 : (2 : Int) < (b.size : Int) := by omega
      have q3 : (3 : Int) < (b.size : Int) := by omega
      have q4 : (4 : Int) < (b.size : Int) := by omega
      have q5 : (5 : Int) < (b.size : Int) := by omega
      have q6 : (6 : Int) < (b.size : Int) := by omega
      have q7 : (7 : Int) < (b.size : Int) := by omega
      have h0 : b[0].toNat < 256 := b[0].toNat_lt
      have h1 : b[1].toNat < 256 := b[1].toNat_lt
      have h2 : b[2].toNat < 256 := b[2].toNat_lt
      have h3 : b[3].toNat < 256 := b[3].toNat_lt
      have h4 : b[4].toNat < 256 := b[4].toNat_lt
      have h5 : b[5].toNat < 256 := b[5].toNat_lt
      have h6 : b[6].toNat < 256 := b[6].toNat_lt
      have h7 : b[7].toNat < 256 := b[7].toNat_lt
      go_quiet (fail)
      simp (disch := omega) only [u64_or8, u64_or16, u64_or24, u64_or32, u64_or40, u64_or48, u64_or56]
      have HT := hid (low8 hL.out HB.out hlt (Nat.le_of_eq hz.symm))
      generalize ((b[0].toNat : Int) + (b[1].toNat : Int) * 256 + (b[2].toNat : Int) * 65536 + (b[3].toNat : Int) * 16777216 + (b[4].toNat : Int) * 4294967296 + (b[5].toNat : Int) * 1099511627776 + (b[6].toNat : Int) * 281474976710656 + (b[7].toNat : Int) * 72057594037927936) = N at HT ⊢
      clear h0 h1 h2 h3 h4 h5 h6 h7 HB
      by_cases hT : bits .and .u64 N 9259542123273814144 = 0
      · have hL2 := hid (HT.out hT)
        go_wp2
        go_roundw
        case rel => exact ⟨k + 8, hlt, by go_num, hL2.out, hD.out.more _⟩
        case measure => simp [intOf]; omega
      · clear HT
        go_wp2
        go_loop [3] (fun n => ∃ k : Nat, k ≤ s.size ∧ n = .int .i64 k ∧ Hid (Low s k)) (fun n => s.size - (intOf n).toNat)
        case atStart => exact ⟨k, hk, rfl, hL⟩
        case round =>
          clear hL hk
          obtain ⟨k, hk, rfl, hL⟩ := hrel
          by_cases hlt : k < s.size
          · by_cases hc : (s[k].toNat : Int) < 128
            · go_wp2
              go_round
              case rel => exact ⟨k + 1, by omega, by go_num, low_succ hL.out hlt (by omega)⟩
              case measure => simp [intOf]; omega
            · go_wp2
              go_ret
              exact ⟨⟨k, rfl, hk, hL.out, fun _ => by omega⟩, hD.out.more _⟩
          · go_wp2
            go_ret
            exact ⟨⟨k, rfl, hk, hL.out, fun h => absurd h hlt⟩, hD.out.more _⟩
    · go_wp2
      go_loop [3] (fun n => ∃ k : Nat, k ≤ s.size ∧ n = .int .i64 k ∧ Hid (Low s k)) (fun n => s.size - (intOf n).toNat)
      case atStart => exact ⟨k, hk, rfl, hL⟩
      case round =>
        clear hL hk
        obtain ⟨k, hk, rfl, hL⟩ := hrel
        by_cases hlt : k < s.size
        · by_cases hc : (s[k].toNat : Int) < 128
          · go_wp2
            go_round
            case rel => exact ⟨k + 1, by omega, by go_num, low_succ hL.out hlt (by omega)⟩
            case measure => simp [intOf]; omega
          · go_wp2
            go_ret
            exact ⟨⟨k, rfl, hk, hL.out, fun _ => by omega⟩, hD.out⟩
        · go_wp2
          go_ret
          exact ⟨⟨k, rfl, hk, hL.out, fun h => absurd h hlt⟩, hD.out⟩

end Go.Proofs.Qxb6626916a
