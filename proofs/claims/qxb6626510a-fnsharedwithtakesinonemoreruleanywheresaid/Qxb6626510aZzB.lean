/- The two zzBytes functions: a bool is answered; no more is wanted of them. -/
import Derived.Test.Qxb6626510aMem
namespace Go.Proofs.Qxb6626510a
open Go.RowKit

set_option maxRecDepth 100000 in
set_option maxHeartbeats 4000000 in
theorem zz12_any (v : Value) (m : Nat) (R : Nat → RD) (v0 v1 v2 : Value) (x : RD) (pos : Int) (w : World) (hR : RulesAt w v m R) (hF : ∀ i, i < m → RFits (R i)) (hX : RuleOf w v0 v1 v2 x) (hx : RFits x) :
    Calls Try.prog 12 #[v, .agg #[v0, v1, v2, .bool x.isNil, .string x.owner], .int .i64 pos] w fun e w' => Says e True ∧ Below w.heap.size w w' := by
  obtain ⟨a, cap, rfl, hcap, hmax, _, hc⟩ := hR
  have HC := hid hc
  have HF := hid hF
  clear hc hF
  obtain ⟨⟨a0, p0, rfl, _, _, hxa⟩, ⟨a1, p1, rfl, _, _, hxp⟩, ⟨a2, p2, rfl, _⟩⟩ := hX
  have HXA := hid hxa
  have HXP := hid hxp
  have g1 := hx.na
  have g2 := hx.np
  have g3 := hx.nf
  have g4 := hx.owner
  clear hxa hxp
  go_enter Try.func12, Try.ntmps12
  go_wp2
  any_goals (go_ret; exact ⟨⟨false, rfl, fun h => by cases h⟩, ((Below.refl _ _).alloc (Nat.le_refl _) _)⟩)
  go_loop [7, 8] (fun s i => ∃ (k : Nat) (z : Int), k ≤ m ∧ i = .int .i64 k ∧ s = .int .i64 z ∧ 0 ≤ z ∧ z ≤ 1048576) (fun _ i => m - (intOf i).toNat)
  case atStart => exact ⟨0, _, Nat.zero_le _, rfl, rfl, by omega, by omega⟩
  case round =>
    obtain ⟨k, z, hk, rfl, rfl, z0, z1⟩ := hrel
    by_cases hlt : k < m
    · obtain ⟨b, off, rfl, hd⟩ := HC.out (by omega)
      obtain ⟨v0, v1, v2, hr, c0, c1, c2, c3, c4⟩ := hd k hlt
      have hbw : b < w.heap.size := World.block_lt_of_cell? w _ c0
      obtain ⟨⟨xa, xc, rfl, _, _, has⟩, ⟨ya, yc, rfl, _, _, hps⟩, ⟨za, zc, rfl, _⟩⟩ := hr
      have HAS := hid has
      have HPS := hid hps
      have f1 := (HF.out k hlt).na
      have f2 := (HF.out k hlt).np
      have f3 := (HF.out k hlt).nf
      have f4 := (HF.out k hlt).owner
      clear hd has hps
      go_wp2
      any_goals (go_ret; exact ⟨⟨false, rfl, fun h => by cases h⟩, ((Below.refl _ _).alloc (Nat.le_refl _) _)⟩)
      go_loop [7, 9] (fun s i => ∃ (q : Nat) (y : Int), q ≤ (R k).na ∧ i = .int .i64 q ∧ s = .int .i64 y ∧ 0 ≤ y ∧ y ≤ 1048576) (fun _ i => (R k).na - (intOf i).toNat)
      case atStart => exact ⟨0, _, Nat.zero_le _, rfl, rfl, by omega, by omega⟩
      case round =>
        obtain ⟨q, y, hq, rfl, rfl, y0, y1⟩ := hrel
        by_cases hlt9 : q < (R k).na
        · obtain ⟨sb, so, rfl, hst⟩ := HAS.out (by omega)
          have e1 := hst q hlt9
          have hsb : sb < w.heap.size := World.block_lt_of_cell? w _ e1
          have hsz := (HF.out k hlt).xa q hlt9
          clear hst
          go_wp2
          any_goals (go_ret; exact ⟨⟨false, rfl, fun h => by cases h⟩, ((Below.refl _ _).alloc (Nat.le_refl _) _)⟩)
          go_round
          case rel => exact ⟨q + 1, _, by omega, by go_num, rfl, by omega, by omega⟩
          case measure => simp [intOf]; omega
        · go_wp2
          any_goals (go_ret; exact ⟨⟨false, rfl, fun h => by cases h⟩, ((Below.refl _ _).alloc (Nat.le_refl _) _)⟩)
          go_loop [7, 10] (fun s i => ∃ (q : Nat) (y : Int), q ≤ (R k).np ∧ i = .int .i64 q ∧ s = .int .i64 y ∧ 0 ≤ y ∧ y ≤ 1048576) (fun _ i => (R k).np - (intOf i).toNat)
          case atStart => exact ⟨0, _, Nat.zero_le _, rfl, rfl, by omega, by omega⟩
          case round =>
            obtain ⟨q, y, hq, rfl, rfl, y0, y1⟩ := hrel
            by_cases hlt10 : q < (R k).np
            · obtain ⟨sb, so, rfl, hst⟩ := HPS.out (by omega)
              have e1 := hst q hlt10
              have hsb : sb < w.heap.size := World.block_lt_of_cell? w _ e1
              have hsz := (HF.out k hlt).xp q hlt10
              clear hst
              go_wp2
              any_goals (go_ret; exact ⟨⟨false, rfl, fun h => by cases h⟩, ((Below.refl _ _).alloc (Nat.le_refl _) _)⟩)
              go_round
              case rel => exact ⟨q + 1, _, by omega, by go_num, rfl, by omega, by omega⟩
              case measure => simp [intOf]; omega
            · go_wp2
              any_goals (go_ret; exact ⟨⟨false, rfl, fun h => by cases h⟩, ((Below.refl _ _).alloc (Nat.le_refl _) _)⟩)
              go_round
              case rel => exact ⟨k + 1, _, by omega, by go_num, rfl, by omega, by omega⟩
              case measure => simp [intOf]; omega
    · go_wp2
      any_goals (go_ret; exact ⟨⟨false, rfl, fun h => by cases h⟩, ((Below.refl _ _).alloc (Nat.le_refl _) _)⟩)
      go_loop [7, 11] (fun s i => ∃ (q : Nat) (y : Int), q ≤ x.na ∧ i = .int .i64 q ∧ s = .int .i64 y ∧ 0 ≤ y ∧ y ≤ 1048576) (fun _ i => x.na - (intOf i).toNat)
      case atStart => exact ⟨0, _, Nat.zero_le _, rfl, rfl, by omega, by omega⟩
      case round =>
        obtain ⟨q, y, hq, rfl, rfl, y0, y1⟩ := hrel
        by_cases hlt11 : q < x.na
        · obtain ⟨sb, so, rfl, hst⟩ := HXA.out (by omega)
          have e1 := hst q hlt11
          have hsb : sb < w.heap.size := World.block_lt_of_cell? w _ e1
          have hsz := hx.xa q hlt11
          clear hst
          go_wp2
          any_goals (go_ret; exact ⟨⟨false, rfl, fun h => by cases h⟩, ((Below.refl _ _).alloc (Nat.le_refl _) _)⟩)
          go_round
          case rel => exact ⟨q + 1, _, by omega, by go_num, rfl, by omega, by omega⟩
          case measure => simp [intOf]; omega
        · go_wp2
          any_goals (go_ret; exact ⟨⟨false, rfl, fun h => by cases h⟩, ((Below.refl _ _).alloc (Nat.le_refl _) _)⟩)
          go_loop [7, 12] (fun s i => ∃ (q : Nat) (y : Int), q ≤ x.np ∧ i = .int .i64 q ∧ s = .int .i64 y ∧ 0 ≤ y ∧ y ≤ 1048576) (fun _ i => x.np - (intOf i).toNat)
          case atStart => exact ⟨0, _, Nat.zero_le _, rfl, rfl, by omega, by omega⟩
          case round =>
            obtain ⟨q, y, hq, rfl, rfl, y0, y1⟩ := hrel
            by_cases hlt12 : q < x.np
            · obtain ⟨sb, so, rfl, hst⟩ := HXP.out (by omega)
              have e1 := hst q hlt12
              have hsb : sb < w.heap.size := World.block_lt_of_cell? w _ e1
              have hsz := hx.xp q hlt12
              clear hst
              go_wp2
              any_goals (go_ret; exact ⟨⟨false, rfl, fun h => by cases h⟩, ((Below.refl _ _).alloc (Nat.le_refl _) _)⟩)
              go_round
              case rel => exact ⟨q + 1, _, by omega, by go_num, rfl, by omega, by omega⟩
              case measure => simp [intOf]; omega
            · go_wp2
              any_goals (go_ret; exact ⟨⟨false, rfl, fun h => by cases h⟩, ((Below.refl _ _).alloc (Nat.le_refl _) _)⟩)
              go_ret
              exact ⟨⟨true, rfl, fun _ => trivial⟩, ((Below.refl _ _).alloc (Nat.le_refl _) _)⟩

end Go.Proofs.Qxb6626510a
