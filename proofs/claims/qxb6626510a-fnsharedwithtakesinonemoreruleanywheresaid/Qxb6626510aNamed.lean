/- The contract of namedParties. -/
import Derived.Test.Qxb6626510aStrs
namespace Go.Proofs.Qxb6626510a
open Go.RowKit

/-- how many names k rules can bring -/
def room (k : Nat) : Nat := k * 1048576
theorem room_le {k : Nat} (h : k ≤ 65537) : room k ≤ 68720525312 := by unfold room; omega
theorem room_succ (k : Nat) : room (k + 1) = room k + 1048576 := by unfold room; omega

/-- named so far: the first k rules and the first c parties of rule k -/
def NamedTo (R : Nat → RD) (k c : Nat) (b : ByteArray) : Prop := Named k R b ∨ ((R k).isNil = false ∧ Plain.Mem c (R k).xp b)

theorem namedTo_start (R : Nat → RD) (k : Nat) (b : ByteArray) : Named k R b ↔ NamedTo R k 0 b := by
  unfold NamedTo
  constructor
  · exact .inl
  · rintro (h | ⟨_, j, h, _⟩)
    · exact h
    · omega
theorem namedTo_step {R : Nat → RD} {k c : Nat} (hn : (R k).isNil = false) (b : ByteArray) : NamedTo R k c b ∨ b = (R k).xp c ↔ NamedTo R k (c + 1) b := by
  unfold NamedTo
  rw [Plain.mem_succ]
  constructor
  · rintro ((h | h) | h)
    · exact .inl h
    · exact .inr ⟨hn, .inl h.2⟩
    · exact .inr ⟨hn, .inr h.symm⟩
  · rintro (h | ⟨_, h | h⟩)
    · exact .inl (.inl h)
    · exact .inl (.inr ⟨hn, h⟩)
    · exact .inr h.symm
theorem named_succ (R : Nat → RD) (k : Nat) (b : ByteArray) : Named (k + 1) R b ↔ Named k R b ∨ ((R k).isNil = false ∧ Plain.Mem (R k).np (R k).xp b) := by
  constructor
  · rintro ⟨i, hi, h⟩
    by_cases e : i = k
    · subst e; exact .inr h
    · exact .inl ⟨i, by omega, h⟩
  · rintro (⟨i, hi, h⟩ | h)
    · exact ⟨i, by omega, h⟩
    · exact ⟨k, by omega, h⟩
theorem named_next (R : Nat → RD) (k : Nat) (b : ByteArray) : NamedTo R k (R k).np b ↔ Named (k + 1) R b := (named_succ R k b).symm
theorem named_skip {R : Nat → RD} {k : Nat} (hn : (R k).isNil = true) (b : ByteArray) : Named k R b ↔ Named (k + 1) R b := by
  rw [named_succ]
  constructor
  · exact .inl
  · rintro (h | h)
    · exact h
    · rw [hn] at h; cases h.1

theorem SetAt.congr {w : World} {v : Value} {n : Nat} {p q : ByteArray → Prop} (h : SetAt w v n p) (e : ∀ b, p b ↔ q b) : SetAt w v n q := by
  obtain ⟨k, s, h1, h2, h3, h4⟩ := h
  exact ⟨k, s, h1, h2, h3, fun b => (h4 b).trans (e b)⟩
theorem SetAt.mono {w : World} {v : Value} {n n' : Nat} {p : ByteArray → Prop} (h : SetAt w v n p) (e : n ≤ n') : SetAt w v n' p := by
  obtain ⟨k, s, h1, h2, h3, h4⟩ := h
  exact ⟨k, s, by omega, h2, h3, h4⟩
theorem SetAt.slice {w : World} {v : Value} {n : Nat} {p : ByteArray → Prop} (h : SetAt w v n p) : ∃ a k cap, v = .slice a k cap := by
  obtain ⟨k, s, _, ⟨a, cap, rfl, _⟩, _⟩ := h
  exact ⟨a, k, cap, rfl⟩

set_option maxHeartbeats 1000000 in
set_option maxRecDepth 100000 in
theorem named_any (v : Value) (m : Nat) (R : Nat → RD) (w : World) (hm : m ≤ 65537) (hp : ∀ i, i < m → (R i).np ≤ 1048576) (hR : RulesAt w v m R) :
    Calls Try.prog 9 #[v] w fun e w' => ∃ v', e = .returned v' ∧ SetAt w' v' (room m) (Named m R) ∧ Below w.heap.size w w' := by
  obtain ⟨a, cap, rfl, _, _, _, hc⟩ := hR
  have HC := hid hc
  have HP := hid hp
  clear hc hp
  go_enter Try.func9, Try.ntmps9
  go_wp2
  go_loopw [3, 4] (fun o i wr => ∃ k : Nat, k ≤ m ∧ i = .int .i64 k ∧ Hid (SetAt wr o (room k) (Named k R)) ∧ Below w.heap.size w wr) (fun _ i _ => m - (intOf i).toNat)
  case atStart => exact ⟨0, Nat.zero_le _, rfl, ⟨0, fun _ => ByteArray.empty, Nat.zero_le _, strs_none _ _, fun i j _ h => absurd h (Nat.not_lt_zero _), fun b => ⟨fun ⟨j, h, _⟩ => absurd h (Nat.not_lt_zero _), fun ⟨j, h, _⟩ => absurd h (Nat.not_lt_zero _)⟩⟩, Below.refl _ _⟩
  case round =>
    obtain ⟨k, hk, rfl, hS, hbel⟩ := hrel
    by_cases hlt : k < m
    · obtain ⟨b, off, rfl, hd⟩ := HC.out (by omega)
      obtain ⟨v0, v1, v2, ⟨_, h1, _⟩, _, e1, _, e3, _⟩ := hd k hlt
      have c1 := cell_kept hbel e1
      have c3 := cell_kept hbel e3
      have HE1 := hid e1
      obtain ⟨pa, pc, rfl, _, _, hps⟩ := h1
      have HPS := hid hps
      have hnp := HP.out k hlt
      clear hd e1 e3 hps
      cases hn : (R k).isNil
      · rw [hn] at c3
        have HN := hid hn
        clear hn
        go_wp2
        go_loopw [3, 5] (fun o j wr => ∃ q : Nat, q ≤ (R k).np ∧ j = .int .i64 q ∧ Hid (SetAt wr o (room k + q) (NamedTo R k q)) ∧ Below w.heap.size w wr) (fun _ j _ => (R k).np - (intOf j).toNat)
        case atStart => exact ⟨0, Nat.zero_le _, rfl, (hS.out.mono (Nat.le_add_right (room k) 0)).congr (namedTo_start R k), hbel⟩
        case round =>
          obtain ⟨q, hq, rfl, hS2, hbel2⟩ := hrel
          have d1 := cell_kept hbel2 (HE1.out)
          clear c1 c3 hS hbel
          by_cases hj : q < (R k).np
          · obtain ⟨pb, po, rfl, hps⟩ := HPS.out (by omega)
            have c2 := cell_kept hbel2 (hps q hj)
            clear hps
            go_wp2_with fail
            refine (insert_any _ _ _ _ _ (by have := room_le (show k ≤ 65537 by omega); omega) hS2.out).mono ?_
            rintro e w1 ⟨v', rfl, hS3, hb1⟩
            have HS3 := hid (hS3.congr (namedTo_step HN.out))
            have B3 := btrans hbel2 hb1
            clear hS3
            go_wp2
            go_roundw
            case rel => exact ⟨q + 1, by omega, by go_num, HS3.out.mono (Nat.le_of_eq (Nat.add_assoc (room k) q 1)), B3⟩
            case measure => simp [intOf]; omega
          · have hqe : (R k).np = q := by omega
            have HS3 := hid ((hS2.out.mono (show room k + q ≤ room (k + 1) by rw [room_succ]; omega)).congr (q := Named (k + 1) R) (fun b => by rw [← hqe]; exact named_next R k b))
            clear hqe
            go_wp2
            go_roundw
            case rel => exact ⟨k + 1, by omega, by go_num, HS3.out, hbel2⟩
            case measure => simp [intOf]; omega
      · rw [hn] at c3
        have HS3 := hid ((hS.out.mono (show room k ≤ room (k + 1) by rw [room_succ]; omega)).congr (named_skip hn))
        clear hn
        go_wp2
        go_roundw
        case rel => exact ⟨k + 1, by omega, by go_num, HS3.out, hbel⟩
        case measure => simp [intOf]; omega
    · go_wp2
      go_ret
      exact ⟨_, rfl, by obtain rfl : m = k := by omega
                        exact hS.out, hbel⟩

end Go.Proofs.Qxb6626510a
