/- The bounds on the sizes: addRuleSize, rulesTooBig. -/
import Derived.Test.Qxb6626510aMem
import Derived.OwnWalk
namespace Go.Proofs.Qxb6626510a
open Go.RowKit

/-- the running totals come back, and whether a bound was passed; if not, p holds and the totals are within the bounds -/
def Totals (e : Ending) (p : Prop) : Prop := ∃ (t c : Int) (b : Bool), e = .returned (.tuple #[.int .i64 t, .int .i64 c, .bool b]) ∧ (b = false → (0 ≤ t ∧ t ≤ 1048576 ∧ 0 ≤ c ∧ c ≤ 4096) ∧ p)

theorem totals_big (t c : Int) (p : Prop) : Totals (.returned (.tuple #[.int .i64 t, .int .i64 c, .bool true])) p := ⟨t, c, true, rfl, fun h => by cases h⟩

set_option maxRecDepth 100000 in
set_option maxHeartbeats 2000000 in
theorem add_any (v0 v1 v2 : Value) (r : RD) (t c : Int) (w : World) (hr : RuleOf w v0 v1 v2 r) (hf : RFits r) (ht0 : 0 ≤ t) (ht1 : t ≤ 1048576) (hc0 : 0 ≤ c) (hc1 : c ≤ 4096) :
    Calls Try.prog 13 #[.agg #[v0, v1, v2, .bool r.isNil, .string r.owner], .int .i64 t, .int .i64 c] w fun e w' => Totals e (r.np ≤ 1048576) ∧ Below w.heap.size w w' := by
  obtain ⟨⟨a0, p0, rfl, _, _, has⟩, ⟨a1, p1, rfl, _, _, hps⟩, ⟨a2, p2, rfl, _⟩⟩ := hr
  have HAS := hid has
  have HPS := hid hps
  have o1 := hf.na
  have o2 := hf.np
  have o3 := hf.nf
  have o4 := hf.owner
  clear has hps
  by_cases h1 : 1048576 < r.owner.size
  · go_enter Try.func13, Try.ntmps13
    go_wp2
    go_ret3
    exact ⟨totals_big _ _ _, (Below.refl _ _).alloc (Nat.le_refl _) _⟩
  by_cases h2 : 1048576 < r.nf
  · go_enter Try.func13, Try.ntmps13
    go_wp2
    go_ret3
    exact ⟨totals_big _ _ _, (Below.refl _ _).alloc (Nat.le_refl _) _⟩
  by_cases h3 : 1048576 < r.na
  · go_enter Try.func13, Try.ntmps13
    go_wp2
    go_ret3
    exact ⟨totals_big _ _ _, (Below.refl _ _).alloc (Nat.le_refl _) _⟩
  by_cases h4 : 1048576 < r.np
  · go_enter Try.func13, Try.ntmps13
    go_wp2
    go_ret3
    exact ⟨totals_big _ _ _, (Below.refl _ _).alloc (Nat.le_refl _) _⟩
  go_enter Try.func13, Try.ntmps13
  go_wp2
  · go_ret3
    exact ⟨totals_big _ _ _, (Below.refl _ _).alloc (Nat.le_refl _) _⟩
  · go_loop [1, 9] (fun s i => ∃ (k : Nat) (z : Int), k ≤ r.na ∧ i = .int .i64 k ∧ s = .int .i64 z ∧ 0 ≤ z ∧ z ≤ 1048576) (fun _ i => r.na - (intOf i).toNat)
    case atStart => exact ⟨0, _, Nat.zero_le _, rfl, rfl, by omega, by omega⟩
    case round =>
      obtain ⟨k, z, hk, rfl, rfl, hz0, hz1⟩ := hrel
      by_cases hlt : k < r.na
      · obtain ⟨b, off, rfl, has⟩ := HAS.out (by omega)
        have e1 := has k hlt
        have hb : b < w.heap.size := World.block_lt_of_cell? w _ e1
        have hs := hf.xa k hlt
        clear has
        by_cases hbig : 1048576 < (r.xa k).size
        · go_wp2
          go_ret3
          exact ⟨totals_big _ _ _, (Below.refl _ _).alloc (Nat.le_refl _) _⟩
        · go_wp2
          · go_ret3
            exact ⟨totals_big _ _ _, (Below.refl _ _).alloc (Nat.le_refl _) _⟩
          · go_round
            case rel => exact ⟨k + 1, _, by omega, by go_num, rfl, by omega, by omega⟩
            case measure => simp [intOf]; omega
      · go_wp2
        go_loop [1, 2, 10] (fun s q i => ∃ (k2 : Nat) (z2 c2 : Int), k2 ≤ r.np ∧ i = .int .i64 k2 ∧ s = .int .i64 z2 ∧ q = .int .i64 c2 ∧ 0 ≤ z2 ∧ z2 ≤ 1048576 ∧ 0 ≤ c2 ∧ c2 ≤ 4096) (fun _ _ i => r.np - (intOf i).toNat)
        case atStart => exact ⟨0, _, _, Nat.zero_le _, rfl, rfl, rfl, by omega, by omega, by omega, by omega⟩
        case round =>
          obtain ⟨k2, z2, c2, hk2, rfl, rfl, rfl, y0, y1, x0, x1⟩ := hrel
          by_cases hlt2 : k2 < r.np
          · obtain ⟨b, off, rfl, hps⟩ := HPS.out (by omega)
            have e1 := hps k2 hlt2
            have hb : b < w.heap.size := World.block_lt_of_cell? w _ e1
            have hs := hf.xp k2 hlt2
            clear hps
            by_cases hbig : 1048576 < (r.xp k2).size
            · go_wp2
              go_ret3
              exact ⟨totals_big _ _ _, (Below.refl _ _).alloc (Nat.le_refl _) _⟩
            · by_cases ht : 1048576 < z2 + 16 + (r.xp k2).size
              · go_wp2
                go_ret3
                exact ⟨totals_big _ _ _, (Below.refl _ _).alloc (Nat.le_refl _) _⟩
              · by_cases hc : 4096 < c2 + 1
                · go_wp2
                  go_ret3
                  exact ⟨totals_big _ _ _, (Below.refl _ _).alloc (Nat.le_refl _) _⟩
                · go_wp2
                  go_round
                  case rel => exact ⟨k2 + 1, _, _, by omega, by go_num, rfl, rfl, by omega, by omega, by omega, by omega⟩
                  case measure => simp [intOf]; omega
          · go_wp2
            go_ret3
            exact ⟨⟨_, _, false, rfl, fun _ => ⟨⟨y0, y1, x0, x1⟩, by omega⟩⟩, (Below.refl _ _).alloc (Nat.le_refl _) _⟩

set_option maxRecDepth 100000 in
set_option maxHeartbeats 2000000 in
theorem big_any (v : Value) (m : Nat) (R : Nat → RD) (w : World) (hR : RulesAt w v m R) (hF : ∀ i, i < m → RFits (R i)) :
    Calls Try.prog 6 #[v, .int .i64 0, .int .i64 0] w fun e w' => Totals e (m ≤ 65536 ∧ ∀ i, i < m → (R i).np ≤ 1048576) ∧ Below w.heap.size w w' := by
  obtain ⟨a, cap, rfl, hcap, hmax, _, hc⟩ := hR
  have HC := hid hc
  have HF := hid hF
  clear hc hF
  by_cases h1 : 65536 < m
  · go_enter Try.func6, Try.ntmps6
    go_wp2
    go_ret3
    exact ⟨totals_big _ _ _, Below.refl _ _⟩
  go_enter Try.func6, Try.ntmps6
  go_wp2
  go_loopw [1, 2, 9] (fun s q i wr => ∃ (k : Nat) (z c : Int), k ≤ m ∧ i = .int .i64 k ∧ s = .int .i64 z ∧ q = .int .i64 c ∧ 0 ≤ z ∧ z ≤ 1048576 ∧ 0 ≤ c ∧ c ≤ 4096 ∧ Hid (∀ i, i < k → (R i).np ≤ 1048576) ∧ Below w.heap.size w wr) (fun _ _ i _ => m - (intOf i).toNat)
  case atStart => exact ⟨0, 0, 0, Nat.zero_le _, rfl, rfl, rfl, by omega, by omega, by omega, by omega, fun i h => absurd h (Nat.not_lt_zero _), Below.refl _ _⟩
  case round =>
    obtain ⟨k, z, c, hk, rfl, rfl, rfl, y0, y1, x0, x1, hok, hbel⟩ := hrel
    by_cases hlt : k < m
    · obtain ⟨b, off, rfl, hd⟩ := HC.out (by omega)
      obtain ⟨v0, v1, v2, hr, e0, e1, e2, e3, e4⟩ := hd k hlt
      have c0 := cell_kept hbel e0
      have c1 := cell_kept hbel e1
      have c2 := cell_kept hbel e2
      have c3 := cell_kept hbel e3
      have c4 := cell_kept hbel e4
      have HR := hid (hr.kept hbel)
      obtain ⟨⟨xa, xc, rfl, _⟩, ⟨ya, yc, rfl, _⟩, ⟨za, zc, rfl, _⟩⟩ := hr
      clear hd e0 e1 e2 e3 e4
      go_wp2_with fail
      refine (add_any _ _ _ (R k) z c _ HR.out (HF.out k hlt) y0 y1 x0 x1).mono ?_
      rintro e w1 ⟨⟨t', c', b', rfl, hb'⟩, hb1⟩
      have B1 := btrans hbel hb1
      clear c0 c1 c2 c3 c4 hb1
      cases b'
      · obtain ⟨⟨u0, u1, u2, u3⟩, hnp⟩ := hb' rfl
        clear hb'
        have HOK : Hid (∀ i, i < k + 1 → (R i).np ≤ 1048576) := fun i h => by
          by_cases e : i = k
          · subst e; exact hnp
          · exact hok.out i (by omega)
        clear hnp
        go_wp2
        go_roundw
        case rel => exact ⟨k + 1, t', c', by omega, by go_num, rfl, rfl, by omega, by omega, by omega, by omega, HOK, B1⟩
        case measure => simp [intOf]; omega
      · clear hb'
        go_wp2
        go_ret3
        exact ⟨totals_big _ _ _, B1⟩
    · go_wp2
      go_ret3
      exact ⟨⟨_, _, false, rfl, fun _ => ⟨⟨y0, y1, x0, x1⟩, by omega, fun i h => hok.out i (by omega)⟩⟩, hbel⟩

end Go.Proofs.Qxb6626510a
