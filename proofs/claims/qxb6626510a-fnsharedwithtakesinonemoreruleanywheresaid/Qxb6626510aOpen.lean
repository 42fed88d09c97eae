/- What the arguments of both laws read as, out of the row's own reading. -/
import Derived.Test.Qxb6626510aMem
import Derived.ProofKit
import Derived.OpenShut
import Derived.ShutString
import Derived.ChangeOld
import Derived.Below
import Derived.Deep.Slices
import Derived.Deep.Grids
import Derived.SliceStrings
namespace Go.Proofs.Qxb6626510a
open Go.ChangeShapes Go.WideShapes Go.ChangeAt Go.RowKit

theorem own : ownKnob Try.prog.godebug = none := by kernel_rfl
theorem laidOut : laidOutB Try.prog = true := by kernel_rfl
theorem cells35 : Try.prog.cellsOf 35 = 5 := by kernel_rfl
theorem cells27 : Try.prog.cellsOf 27 = 1 := by kernel_rfl
theorem cells33 : Try.prog.cellsOf 33 = 1 := by kernel_rfl
theorem cells9 : Try.prog.cellsOf 9 = 1 := by kernel_rfl
theorem cells4 : Try.prog.cellsOf 4 = 1 := by kernel_rfl

theorem plain_of {W : World} {x : Addr} {v : Value} (h : W.cell? (x.add 0) = some v) : x = ⟨x.block, x.off, none⟩ := by
  obtain ⟨b, off, spot⟩ := x
  have hspot : spot = none := by simpa [Addr.add] using World.cell?_spot h
  subst hspot
  rfl

theorem choose_rd {m : Nat} {p : Nat → RD → Prop} (h : ∀ i, i < m → ∃ r, p i r) : ∃ R : Nat → RD, ∀ i, i < m → p i (R i) := by
  classical
  refine ⟨fun i => if hi : i < m then (h i hi).choose else ⟨0, fun _ => ByteArray.empty, 0, fun _ => ByteArray.empty, 0, fun _ => false, true, ByteArray.empty⟩, fun i hi => ?_⟩
  simp only [hi, dif_pos]
  exact (h i hi).choose_spec

section
variable {H : Type} {enc : TypeId × Value → H} {W : World} {fuel : Nat}

theorem open_strs {v : Value} {y : DataW H × List MemPlace} (h : DataW.trod enc Try.prog W 0 (fun _ => true) true fuel 27 [v] = some y) :
    ∃ n s, StrsAt W v n s ∧ n ≤ 9223372036854775807 ∧ ∀ j, j < n → (s j : ByteArray).size ≤ 9223372036854775807 := by
  rcases open_strings Try.underlying27 Try.underlying9 cells9 h with ⟨hcs, _⟩ | ⟨a, len, cap, ss, hcs, _, hl, hm, hz, _, hcell, hsz⟩
  · obtain rfl : v = .slice none 0 0 := by simpa using hcs
    exact ⟨0, fun _ => ByteArray.empty, strs_none _ _, by omega, fun j h => absurd h (Nat.not_lt_zero _)⟩
  · obtain rfl : v = .slice (some a) len cap := by simpa using hcs
    have hz' : ss.length = cap := by simpa using hz
    unfold maxLen at hm
    refine ⟨len, fun j => ss.getD j ByteArray.empty, ⟨_, _, rfl, hl, fun h => (by cases h), fun h => ?_⟩, by omega, fun j hj => ?_⟩
    · have e := plain_of (hcell 0 (by omega))
      exact ⟨a.block, a.off, by rw [← e], fun j hj => by rw [← add_plain, ← e]; exact hcell j (by omega)⟩
    · have hj' : j < ss.length := by omega
      have := hsz (ss.getD j ByteArray.empty) (by simp [List.getD, hj'])
      exact this

theorem open_flags {v : Value} {y : DataW H × List MemPlace} (h : DataW.trod enc Try.prog W 0 (fun _ => true) true fuel 33 [v] = some y) :
    ∃ n f, BoolsAt W v n f ∧ n ≤ 9223372036854775807 := by
  rcases Deep.open_bools Try.underlying33 Try.underlying4 cells4 h with ⟨hcs, _⟩ | ⟨a, len, cap, B, hcs, _, hl, hm, _, hcell⟩
  · obtain rfl : v = .slice none 0 0 := by simpa using hcs
    exact ⟨0, fun _ => false, ⟨_, _, rfl, fun h => absurd h (Nat.lt_irrefl _)⟩, by omega⟩
  · obtain rfl : v = .slice (some a) len cap := by simpa using hcs
    unfold maxLen at hm
    refine ⟨len, B, ⟨_, _, rfl, fun h => ?_⟩, by omega⟩
    have e := plain_of (hcell 0 (by omega))
    exact ⟨a.block, a.off, by rw [← e], fun j hj => by rw [← add_plain, ← e]; exact hcell j (by omega)⟩

theorem open_rule {cs : List Value} {y : DataW H × List MemPlace} (h : DataW.trod enc Try.prog W 0 (fun _ => true) true fuel 35 cs = some y) :
    ∃ v0 v1 v2 r, cs = [v0, v1, v2, .bool r.isNil, .string r.owner] ∧ RuleOf W v0 v1 v2 r ∧ RFits r := by
  obtain ⟨xs, n, _, _, hl, hlen, hf⟩ := DataW.trod_struct Try.underlying35 h
  rw [cells35] at hl
  match cs, hl with
  | [c0, c1, c2, c3, c4], _ =>
    have h0 := hf 0 _ rfl
    have h1 := hf 1 _ rfl
    have h2 := hf 2 _ rfl
    have h3 := hf 3 _ rfl
    have h4 := hf 4 _ rfl
    simp [cells27, cells33, cells4, cells9] at h0 h1 h2 h3 h4
    match xs, hlen with
    | [y0, y1, y2, y3, y4], _ =>
      simp at h0 h1 h2 h3 h4
      obtain ⟨na, xa, p1, p2, p3⟩ := open_strs h0
      obtain ⟨np, xp, q1, q2, q3⟩ := open_strs h1
      obtain ⟨nf, xf, r1, r2⟩ := open_flags h2
      obtain ⟨bn, e3, _⟩ := DataW.trod_bool Try.underlying4 h3
      obtain ⟨so, e4, _, hso⟩ := DataW.trod_string Try.underlying9 h4
      obtain rfl : c3 = .bool bn := by simpa using e3
      obtain rfl : c4 = .string so := by simpa using e4
      exact ⟨c0, c1, c2, ⟨na, xa, np, xp, nf, xf, bn, so⟩, rfl, ⟨p1, q1, r1⟩, ⟨p2, q2, r2, p3, q3, hso⟩⟩

theorem open_rules {a : Option Addr} {len cap : Nat} {d : DataW H × List MemPlace} (h : DataW.trod enc Try.prog W 0 (fun _ => true) true fuel 22 (Value.slice a len cap).cells.toList = some d) :
    ∃ R : Nat → RD, RulesAt W (.slice a len cap) len R ∧ ∀ i, i < len → RFits (R i) := by
  rcases Deep.open_slice Try.underlying22 h with ⟨hcs, _⟩ | ⟨x, l, c, m, n, D, Pl, hcs, _, hl, hm, hmm, _, hrow⟩
  · simp [Value.cells] at hcs
    obtain ⟨rfl, rfl, rfl⟩ := hcs
    exact ⟨fun _ => ⟨0, fun _ => ByteArray.empty, 0, fun _ => ByteArray.empty, 0, fun _ => false, true, ByteArray.empty⟩, ⟨_, 0, rfl, Nat.le_refl _, by omega, fun _ => rfl, fun h => absurd h (Nat.lt_irrefl _)⟩, fun i h => absurd h (Nat.not_lt_zero _)⟩
  · simp [Value.cells] at hcs
    obtain ⟨rfl, rfl, rfl⟩ := hcs
    obtain rfl : m = cap := by simpa using hmm
    rw [cells35] at hrow
    unfold maxLen at hm
    have hall : ∀ i, i < m → ∃ r : RD, RuleAt W x.block (x.off + i * 5) r ∧ RFits r ∧ x = ⟨x.block, x.off, none⟩ := by
      intro i hi
      have e : x = ⟨x.block, x.off, none⟩ := by
        obtain ⟨cs', h1, h2⟩ := hrow 0 (by omega)
        obtain ⟨_, hlen, hc⟩ := World.cells?_some h1
        obtain ⟨v0, v1, v2, r, rfl, _⟩ := open_rule h2
        have := hc 0 (by omega)
        rw [Nat.zero_mul] at this
        have e0 : x.add 0 = x := by simp [Addr.add]
        rw [e0] at this
        exact plain_of (by simpa using this)
      obtain ⟨cs', h1, h2⟩ := hrow i hi
      obtain ⟨_, hlen, hc⟩ := World.cells?_some h1
      obtain ⟨v0, v1, v2, r, rfl, hr, hf⟩ := open_rule h2
      have hc' : ∀ j, j < 5 → W.cell? ⟨x.block, x.off + i * 5 + j, none⟩ = [v0, v1, v2, Value.bool r.isNil, Value.string r.owner][j]? := fun j hj => by
        have := hc j hj
        rw [e] at this
        rw [add_plain, add_plain] at this
        exact this
      exact ⟨r, ⟨v0, v1, v2, hr, by simpa using hc' 0 (by omega), by simpa using hc' 1 (by omega), by simpa using hc' 2 (by omega), by simpa using hc' 3 (by omega), by simpa using hc' 4 (by omega)⟩, hf, e⟩
    obtain ⟨R, hR⟩ := choose_rd hall
    refine ⟨R, ⟨_, m, rfl, hl, hm, fun h => (by cases h), fun h0 => ⟨x.block, x.off, by rw [← (hR 0 h0).2.2], fun i hi => (hR i (by omega)).1⟩⟩, fun i hi => (hR i (by omega)).2.1⟩
end
end Go.Proofs.Qxb6626510a
