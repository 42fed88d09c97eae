/- What the four arguments of both laws read as, out of the row's own reading. -/
import Derived.Test.Qxb6626482aMem
import Derived.ProofKit
import Derived.OpenShut
import Derived.ChangeOld
import Derived.Below
import Derived.Deep.Matrix
import Derived.Deep.Grids
namespace Go.Proofs.Qxb6626482a
open Go.ChangeShapes Go.WideShapes Go.ChangeAt Go.RowKit

theorem own : ownKnob Try.prog.godebug = none := by kernel_rfl
theorem laidOut : laidOutB Try.prog = true := by kernel_rfl
theorem cells22 : Try.prog.cellsOf 22 = 1 := by kernel_rfl
theorem cells39 : Try.prog.cellsOf 39 = 1 := by kernel_rfl
theorem cells4 : Try.prog.cellsOf 4 = 1 := by kernel_rfl

section
variable {H : Type} {enc : TypeId × Value → H} {W : World} {fuel : Nat}

theorem plain_of {W : World} {x : Addr} {v : Value} (h : W.cell? (x.add 0) = some v) : x = ⟨x.block, x.off, none⟩ := by
  obtain ⟨b, off, spot⟩ := x
  have hspot : spot = none := by simpa [Addr.add] using World.cell?_spot h
  subst hspot
  rfl

theorem open_syms {a : Option Addr} {len cap : Nat} {d : DataW H × List MemPlace} (h : DataW.trod enc Try.prog W 0 (fun _ => true) true fuel 22 (Value.slice a len cap).cells.toList = some d) :
    ∃ x : Nat → Int, SymsAt W (.slice a len cap) len x ∧ Fits 1 (fun _ => len) (fun _ => x) := by
  rcases open_ints Try.underlying22 Try.underlying39 cells39 h with ⟨hcs, _⟩ | ⟨x, l, c, zs, hcs, _, hl, hm, hz, _, hcell, hwz⟩
  · simp [Value.cells] at hcs
    obtain ⟨rfl, rfl, rfl⟩ := hcs
    exact ⟨fun _ => 0, ⟨_, _, rfl, fun h => absurd h (Nat.lt_irrefl _)⟩, by omega, fun _ _ => Nat.zero_le _, fun i j _ h => absurd h (Nat.not_lt_zero _)⟩
  · simp [Value.cells] at hcs
    obtain ⟨rfl, rfl, rfl⟩ := hcs
    have hz' : zs.length = cap := by simpa using hz
    unfold maxLen at hm
    refine ⟨fun j => zs.getD j 0, ⟨_, _, rfl, fun h => ?_⟩, by omega, fun _ _ => by omega, fun i j _ h => ?_⟩
    · have e := plain_of (hcell 0 (by omega))
      exact ⟨x.block, x.off, by rw [← e], fun j hj => by rw [← add_plain, ← e]; exact hcell j (by omega)⟩
    · have hj : j < zs.length := by omega
      have := hwz (zs.getD j 0) (by simp [List.getD, hj])
      exact bounds_u16 this

theorem open_rows {a : Option Addr} {len cap : Nat} {d : DataW H × List MemPlace} (h : DataW.trod enc Try.prog W 0 (fun _ => true) true fuel 23 (Value.slice a len cap).cells.toList = some d) :
    ∃ (L : Nat → Nat) (X : Nat → Nat → Int), RowsAt W (.slice a len cap) len L X ∧ Fits len L X := by
  rcases Deep.open_int_rows Try.underlying23 Try.underlying22 Try.underlying39 cells22 cells39 h with ⟨hcs, _⟩ | ⟨x, l, c, A, L, C, Z, hcs, _, hl, hm, _, hrow⟩
  · simp [Value.cells] at hcs
    obtain ⟨rfl, rfl, rfl⟩ := hcs
    exact ⟨fun _ => 0, fun _ _ => 0, RowsAt.none _ _ _, by omega, fun _ _ => Nat.zero_le _, fun i j _ h => absurd h (Nat.not_lt_zero _)⟩
  · simp [Value.cells] at hcs
    obtain ⟨rfl, rfl, rfl⟩ := hcs
    unfold maxLen at hm
    refine ⟨L, fun i j => (Z i).getD j 0, ⟨_, _, rfl, fun h => ?_⟩, by omega, fun i hi => ?_, fun i j hi hj => ?_⟩
    · have e := plain_of (hrow 0 (by omega)).1
      refine ⟨x.block, x.off, by rw [← e], fun i hi => ?_⟩
      obtain ⟨r1, r2, r3, r4, r5, r6, r7⟩ := hrow i (by omega)
      refine ⟨_, by rw [← add_plain, ← e]; exact r1, A i, C i, rfl, fun h0 => ?_⟩
      cases hA : A i with
      | none => have := r6 hA; omega
      | some y =>
        obtain ⟨_, r8⟩ := r7 y hA
        have e' := plain_of (r8 0 (by omega))
        exact ⟨y.block, y.off, by rw [← e'], fun j hj => by rw [← add_plain, ← e']; exact r8 j (by omega)⟩
    · obtain ⟨r1, r2, r3, _⟩ := hrow i (by omega)
      unfold maxLen at r3
      omega
    · obtain ⟨r1, r2, r3, r4, r5, _⟩ := hrow i (by omega)
      have hj' : j < (Z i).length := by omega
      have := r5 ((Z i).getD j 0) (by simp [List.getD, hj'])
      exact bounds_u16 this

theorem open_taken {a : Option Addr} {len cap : Nat} {d : DataW H × List MemPlace} (h : DataW.trod enc Try.prog W 0 (fun _ => true) true fuel 24 (Value.slice a len cap).cells.toList = some d) :
    len ≤ 9223372036854775807 ∧ ∃ B : Nat → Bool, BoolsAt W (.slice a len cap) len B := by
  rcases Deep.open_bools Try.underlying24 Try.underlying4 cells4 h with ⟨hcs, _⟩ | ⟨x, l, c, B, hcs, _, hl, hm, _, hcell⟩
  · simp [Value.cells] at hcs
    obtain ⟨rfl, rfl, rfl⟩ := hcs
    exact ⟨by omega, fun _ => false, _, _, rfl, fun h => absurd h (Nat.lt_irrefl _)⟩
  · simp [Value.cells] at hcs
    obtain ⟨rfl, rfl, rfl⟩ := hcs
    unfold maxLen at hm
    refine ⟨by omega, B, _, _, rfl, fun h => ?_⟩
    have e := plain_of (hcell 0 (by omega))
    exact ⟨x.block, x.off, by rw [← e], fun j hj => by rw [← add_plain, ← e]; exact hcell j (by omega)⟩
end
end Go.Proofs.Qxb6626482a
