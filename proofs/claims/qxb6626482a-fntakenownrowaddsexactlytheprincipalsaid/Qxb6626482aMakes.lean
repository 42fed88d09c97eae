/- The contracts of what makes memory of its own: toSyms, toRows, cloneBools. -/
import Derived.Test.Qxb6626482aReads
import Derived.Lib.SliceRun
namespace Go.Proofs.Qxb6626482a
open Go.RowKit

theorem Try.info40 : (Try.prog.info? 40).map (fun i => (i.zero, i.size, i.bytes)) = some (some (.int .u16 0), 1, 2) := by kernel_rfl
theorem Try.info29 : (Try.prog.info? 29).map (fun i => (i.zero, i.size, i.bytes)) = some (some (.slice none 0 0), 1, 24) := by kernel_rfl
theorem Try.info4 : (Try.prog.info? 4).map (fun i => (i.zero, i.size, i.bytes)) = some (some (.bool false), 1, 1) := by kernel_rfl

set_option maxHeartbeats 1000000 in
theorem toSyms_any (v : Value) (n : Nat) (x : Nat → Int) (w : World) (hn : n ≤ 1048576) (hS : SymsAt w v n x) :
    Calls Try.prog 8 #[v] w fun e w' => ∃ v', e = .returned v' ∧ OwnSyms w' w.heap.size v' n x ∧ Below w.heap.size w w' := by
  obtain ⟨a, cap, rfl, hc⟩ := hS
  have HC : Hid (0 < n → ∃ b off, a = some ⟨b, off, none⟩ ∧ ∀ j, j < n → w.cell? ⟨b, off + j, none⟩ = some (.int .u16 (x j))) := hc
  clear hc
  have hnil := fun w => Lib.run_eql_slice_nil (P := Try.prog) w 22 39 a n cap 0 0 Try.underlying22
  cases a with
  | none =>
    have hz : n = 0 := by
      by_cases h : n = 0
      · exact h
      · obtain ⟨b, off, h', _⟩ := HC.out (by omega)
        cases h'
    subst hz
    go_enter Try.func8, Try.ntmps8
    go_wp2
    go_ret
    exact ⟨_, rfl, ⟨none, 0, rfl, fun h => absurd h (Nat.lt_irrefl _)⟩, Below.refl _ _⟩
  | some p =>
    have hmk := run_make_row' (P := Try.prog) 29 40 (.int .u16 0) 2 Try.underlying29 Try.info40 rfl .i64 .i64 n (by omega) (by omega)
    go_enter Try.func8, Try.ntmps8
    go_wp2
    have R0 := World.rowIs_made w (.int .u16 0) n 40
    clear hmk hnil
    go_loopw [4] (fun i wr => ∃ k : Nat, k ≤ n ∧ i = .int .i64 k ∧ wr.rowIs w.heap.size 40 n (fun j => .int .u16 (if j < k then x j else 0)) ∧ Below w.heap.size w wr) (fun i _ => n - (intOf i).toNat)
    case atStart => exact ⟨0, Nat.zero_le _, rfl, R0.congr (fun j _ => by simp), (Below.refl _ _).alloc (Nat.le_refl _) _⟩
    case round =>
      obtain ⟨k, hk, rfl, hrow, hbel⟩ := hrel
      clear R0
      by_cases hlt : k < n
      · obtain ⟨b, off, hp, hc⟩ := HC.out (by omega)
        obtain rfl : p = ⟨b, off, none⟩ := Option.some.inj hp
        have c1 := cell_kept hbel (hc k hlt)
        have c2 := hrow.cell hlt
        have c3 := hrow.frozen k
        clear hp hc
        go_wp2
        go_roundw
        case rel => exact ⟨k + 1, by omega, by go_num, (hrow.set k (.int .u16 (x k))).congr (fun j hj => by
            by_cases e : j = k
            · subst e; simp
            · rw [if_neg e]
              by_cases h : j < k
              · rw [if_pos h, if_pos (by omega)]
              · rw [if_neg h, if_neg (by omega)]), hbel.setCell (Nat.le_refl _) _⟩
        case measure => simp [intOf]; omega
      · have hke : k = n := by omega
        subst hke
        go_wp2
        go_ret
        exact ⟨_, rfl, ⟨_, k, rfl, fun h => ⟨w.heap.size, Nat.le_refl _, rfl, hrow.congr (fun j hj => by rw [if_pos hj])⟩⟩, hbel⟩

set_option maxHeartbeats 1000000 in
theorem cloneBools_any (v : Value) (n : Nat) (x : Nat → Bool) (w : World) (hn : n ≤ 1048576) (hS : BoolsAt w v n x) :
    Calls Try.prog 10 #[v] w fun e w' => ∃ v', e = .returned v' ∧ OwnBools w' v' n w.heap.size x ∧ Below w.heap.size w w' := by
  obtain ⟨a, cap, rfl, hc⟩ := hS
  have HC : Hid (0 < n → ∃ b off, a = some ⟨b, off, none⟩ ∧ ∀ j, j < n → w.cell? ⟨b, off + j, none⟩ = some (.bool (x j))) := hc
  clear hc
  have hnil := fun w => Lib.run_eql_slice_nil (P := Try.prog) w 24 4 a n cap 0 0 Try.underlying24
  cases a with
  | none =>
    have hz : n = 0 := by
      by_cases h : n = 0
      · exact h
      · obtain ⟨b, off, h', _⟩ := HC.out (by omega)
        cases h'
    subst hz
    go_enter Try.func10, Try.ntmps10
    go_wp2
    go_ret
    exact ⟨_, rfl, ⟨none, 0, rfl, fun h => absurd h (Nat.lt_irrefl _)⟩, Below.refl _ _⟩
  | some p =>
    have hmk := run_make_row' (P := Try.prog) 24 4 (.bool false) 1 Try.underlying24 Try.info4 rfl .i64 .i64 n (by omega) (by omega)
    go_enter Try.func10, Try.ntmps10
    go_wp2
    have R0 := World.rowIs_made w (.bool false) n 4
    clear hmk hnil
    go_loopw [4] (fun i wr => ∃ k : Nat, k ≤ n ∧ i = .int .i64 k ∧ wr.rowIs w.heap.size 4 n (fun j => .bool (if j < k then x j else false)) ∧ Below w.heap.size w wr) (fun i _ => n - (intOf i).toNat)
    case atStart => exact ⟨0, Nat.zero_le _, rfl, R0.congr (fun j _ => by simp), (Below.refl _ _).alloc (Nat.le_refl _) _⟩
    case round =>
      obtain ⟨k, hk, rfl, hrow, hbel⟩ := hrel
      clear R0
      by_cases hlt : k < n
      · obtain ⟨b, off, hp, hc⟩ := HC.out (by omega)
        obtain rfl : p = ⟨b, off, none⟩ := Option.some.inj hp
        have c1 := cell_kept hbel (hc k hlt)
        have c2 := hrow.cell hlt
        have c3 := hrow.frozen k
        clear hp hc
        go_wp2
        go_roundw
        case rel => exact ⟨k + 1, by omega, by go_num, (hrow.set k (.bool (x k))).congr (fun j hj => by
            by_cases e : j = k
            · subst e; simp
            · rw [if_neg e]
              by_cases h : j < k
              · rw [if_pos h, if_pos (by omega)]
              · rw [if_neg h, if_neg (by omega)]), hbel.setCell (Nat.le_refl _) _⟩
        case measure => simp [intOf]; omega
      · have hke : k = n := by omega
        subst hke
        go_wp2
        go_ret
        exact ⟨_, rfl, ⟨_, k, rfl, fun h => ⟨rfl, hrow.congr (fun j hj => by rw [if_pos hj])⟩⟩, hbel⟩

end Go.Proofs.Qxb6626482a
