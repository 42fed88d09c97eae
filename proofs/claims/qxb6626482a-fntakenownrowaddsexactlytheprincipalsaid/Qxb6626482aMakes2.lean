/- The contract of toRows. -/
import Derived.Test.Qxb6626482aMakes
namespace Go.Proofs.Qxb6626482a
open Go.RowKit

theorem rows_step {w wr w1 : World} {m k : Nat} {L : Nat → Nat} {X : Nat → Nat → Int} {V : Nat → Value} {v' : Value} 
    (hrow : wr.rowIs w.heap.size 29 m (fun j => if j < k then V j else .slice none 0 0)) (hV : ∀ j, j < k → OwnSyms wr (w.heap.size + 1) (V j) (L j) (X j)) (hbel : Below w.heap.size w wr)
    (ho : OwnSyms w1 wr.heap.size v' (L k) (X k)) (hb1 : Below wr.heap.size wr w1) :
    (w1.setCell ⟨w.heap.size, k, none⟩ v').rowIs w.heap.size 29 m (fun j => if j < k + 1 then (fun j => if j = k then v' else V j) j else .slice none 0 0) ∧
    (∀ j, j < k + 1 → OwnSyms (w1.setCell ⟨w.heap.size, k, none⟩ v') (w.heap.size + 1) ((fun j => if j = k then v' else V j) j) (L j) (X j)) ∧ Below w.heap.size w (w1.setCell ⟨w.heap.size, k, none⟩ v') := by
  have hlt := hrow.lt
  refine ⟨((row_kept hb1 hrow).set k v').congr (fun j hj => ?_), fun j hj => ?_, ((hbel.trans (hb1.mono hbel.size)).setCell (Nat.le_refl _) _)⟩
  · by_cases e : j = k
    · subst e; simp
    · simp only [if_neg e]
      by_cases h : j < k
      · rw [if_pos h, if_pos (by omega)]
      · rw [if_neg h, if_neg (by omega)]
  · by_cases e : j = k
    · subst e
      simp only [if_true]
      exact (ho.mono (by omega)).set (by show w.heap.size < w.heap.size + 1; omega) _
    · simp only [if_neg e]
      exact ((hV j (by omega)).kept hb1).set (by show w.heap.size < w.heap.size + 1; omega) _

set_option maxHeartbeats 1000000 in
theorem toRows_any (v : Value) (m : Nat) (L : Nat → Nat) (X : Nat → Nat → Int) (w : World) (hm : m ≤ 1048577) (hL : ∀ i, i < m → L i ≤ 1048576) (hR : RowsAt w v m L X) :
    Calls Try.prog 9 #[v] w fun e w' => ∃ v', e = .returned v' ∧ RowsAt w' v' m L X ∧ Below w.heap.size w w' := by
  obtain ⟨a, cap, rfl, hc⟩ := hR
  have HC : Hid (0 < m → ∃ b off, a = some ⟨b, off, none⟩ ∧ ∀ i, i < m → ∃ rv, w.cell? ⟨b, off + i, none⟩ = some rv ∧ SymsAt w rv (L i) (X i)) := hc
  have HL : Hid (∀ i, i < m → L i ≤ 1048576) := hL
  clear hc hL
  have hnil := fun w => Lib.run_eql_slice_nil (P := Try.prog) w 23 22 a m cap 0 0 Try.underlying23
  cases a with
  | none =>
    have hz : m = 0 := by
      by_cases h : m = 0
      · exact h
      · obtain ⟨b, off, h', _⟩ := HC.out (by omega)
        cases h'
    subst hz
    go_enter Try.func9, Try.ntmps9
    go_wp2
    go_ret
    exact ⟨_, rfl, RowsAt.none _ _ _, Below.refl _ _⟩
  | some p =>
    have hmk := run_make_row' (P := Try.prog) 31 29 (.slice none 0 0) 24 Try.underlying31 Try.info29 rfl .i64 .i64 m (by omega) (by omega)
    go_enter Try.func9, Try.ntmps9
    go_wp2
    have R0 := World.rowIs_made w (.slice none 0 0) m 29
    clear hmk hnil
    go_loopw [4] (fun i wr => ∃ (k : Nat) (V : Nat → Value), k ≤ m ∧ i = .int .i64 k ∧ wr.rowIs w.heap.size 29 m (fun j => if j < k then V j else .slice none 0 0) ∧ Hid (∀ j, j < k → OwnSyms wr (w.heap.size + 1) (V j) (L j) (X j)) ∧ Below w.heap.size w wr) (fun i _ => m - (intOf i).toNat)
    case atStart => exact ⟨0, fun _ => .slice none 0 0, Nat.zero_le _, rfl, R0.congr (fun j _ => by simp), fun j h => absurd h (Nat.not_lt_zero _), (Below.refl _ _).alloc (Nat.le_refl _) _⟩
    case round =>
      obtain ⟨k, V, hk, rfl, hrow, HV, hbel⟩ := hrel
      clear R0
      by_cases hlt : k < m
      · obtain ⟨b, off, hp, hc⟩ := HC.out (by omega)
        obtain rfl : p = ⟨b, off, none⟩ := Option.some.inj hp
        obtain ⟨rv, c0, hs0⟩ := hc k hlt
        have c1 := cell_kept hbel c0
        have hs := hs0.kept hbel
        have HS : Hid (SymsAt wr rv (L k) (X k)) := hs
        clear hp hc hs hs0 c0
        go_wp2_with fail
        refine (toSyms_any rv (L k) (X k) _ (HL.out k hlt) HS.out).mono ?_
        rintro e w1 ⟨v', rfl, ho, hb1⟩
        have R := rows_step hrow HV.out hbel ho hb1
        have c2 := (row_kept hb1 hrow).cell hlt
        have c3 := (row_kept hb1 hrow).frozen k
        have HR : Hid _ := R
        obtain ⟨va, vc, rfl, _⟩ := ho
        clear R hrow
        go_wp2
        go_roundw
        case rel => exact ⟨k + 1, _, by omega, by go_num, HR.out.1, HR.out.2.1, HR.out.2.2⟩
        case measure => simp [intOf]; omega
      · have hke : k = m := by omega
        subst hke
        go_wp2
        go_ret
        exact ⟨_, rfl, ⟨_, k, rfl, fun h => ⟨w.heap.size, 0, rfl, fun i hi => ⟨V i, by rw [Nat.zero_add]; rw [hrow.cell hi, if_pos hi], (HV.out i hi).syms⟩⟩⟩, hbel⟩

end Go.Proofs.Qxb6626482a
