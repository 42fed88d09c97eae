/- The contract of Percentile, and what both laws share. -/
import Derived.Test.Qxb6626448aRows
import Derived.Test.Qxb6626448aPlain
import Derived.WalkKit
import Derived.WalkSpells
import Derived.WalkLawsBesides
namespace Go.Proofs.Qxb6626448a
open Go.RowKit

set_option maxHeartbeats 400000 in
theorem perc_none (bl : Nat) (a : Option Addr) (cap : Nat) (p : Int) (w : World) (hr : w.cell? ⟨bl, 2, none⟩ = some (.slice a 0 cap)) :
    Calls Try.prog 6 #[.pointer (some ⟨bl, 0, none⟩), .int .i64 p] w fun e w' => e = .returned (.int .i64 0) ∧ w' = w := by
  go_enter Try.func6, Try.ntmps6
  go_wp2
  go_ret
  exact ⟨rfl, rfl⟩

set_option maxHeartbeats 400000 in
theorem perc_some (bl b off len cap : Nat) (p : Int) (v : Int) (w : World) (hr : w.cell? ⟨bl, 2, none⟩ = some (.slice (some ⟨b, off, none⟩) len cap))
    (hlen : 0 < len) (hlen2 : len ≤ 65536) (hp0 : 0 ≤ p) (hp1 : p ≤ 100) (hv : w.cell? ⟨b, off + Plain.rk p len, none⟩ = some (.int .i64 v)) :
    Calls Try.prog 6 #[.pointer (some ⟨bl, 0, none⟩), .int .i64 p] w fun e w' => e = .returned (.int .i64 v) ∧ w' = w := by
  obtain ⟨hr1, hr2, hr3⟩ := Plain.rk_facts p len hp0 hp1 hlen
  have h1 : 0 ≤ p * len := Int.mul_nonneg hp0 (by omega)
  have h2 : p * len ≤ 100 * len := Int.mul_le_mul_of_nonneg_right hp1 (by omega)
  by_cases hm : (p * (len : Int) + 99) / 100 < 1
  · have e : w.cell? ⟨b, off, none⟩ = some (.int .i64 v) := by
      rw [show Plain.rk p len = 0 from by unfold Plain.rk; omega] at hv; exact hv
    clear hr1 hr2 hr3 hv
    go_enter Try.func6, Try.ntmps6
    go_wp2
    go_ret
    exact ⟨rfl, rfl⟩
  · have e : w.cell? ⟨b, off + (((p * (len : Int) + 99) / 100).toNat - 1), none⟩ = some (.int .i64 v) := by
      rw [show Plain.rk p len = ((p * (len : Int) + 99) / 100).toNat - 1 from by unfold Plain.rk; omega] at hv; exact hv
    clear hr1 hr2 hr3 hv
    go_enter Try.func6, Try.ntmps6
    go_wp2
    go_ret
    exact ⟨rfl, rfl⟩

end Go.Proofs.Qxb6626448a
