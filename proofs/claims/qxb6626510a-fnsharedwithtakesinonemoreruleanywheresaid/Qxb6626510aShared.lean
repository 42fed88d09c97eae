/- The contract of SharedWith. -/
import Derived.Test.Qxb6626510aKeys
namespace Go.Proofs.Qxb6626510a
open Go.RowKit Go.Maps Go.Sort

/-- the slice value v reads as m rules of a party's "shares" -/
def SharesAt (w : World) (v : Value) (m : Nat) (R : Nat → RD) : Prop :=
  ∃ a cap, v = .slice a m cap ∧ (0 < m → ∃ b off, a = some ⟨b, off, none⟩ ∧ ∀ i, i < m → ∃ xa xn xc mv xs, w.cell? ⟨b, off + i * 3, none⟩ = some (.slice xa xn xc) ∧ w.cell? ⟨b, off + i * 3 + 1, none⟩ = some mv ∧ w.cell? ⟨b, off + i * 3 + 2, none⟩ = some (.string xs) ∧ WithAt w 0 mv (R i))

theorem SharesAt.kept {w w' : World} {v : Value} {m : Nat} {R : Nat → RD} (h : SharesAt w v m R) (hb : Below w.heap.size w w') : SharesAt w' v m R := by
  obtain ⟨a, cap, rfl, hc⟩ := h
  refine ⟨a, cap, rfl, fun hn => ?_⟩
  obtain ⟨b, off, rfl, hd⟩ := hc hn
  refine ⟨b, off, rfl, fun i hi => ?_⟩
  obtain ⟨xa, xn, xc, mv, xs, h1, h2, h3, h4⟩ := hd i hi
  exact ⟨xa, xn, xc, mv, xs, cell_kept hb h1, cell_kept hb h2, cell_kept hb h3, h4.kept hb⟩

/-- taken in so far: the first k rules' names, and of rule k's map what is no longer to come -/
def TakenIn (R : Nat → RD) (k : Nat) (D : DataW Unit) (left : Lit → Bool) (b : ByteArray) : Prop := Named k R b ∨ (Maps.has D (.string b.data.toList) = true ∧ left (.string b.data.toList) = false)

theorem taken_start (R : Nat → RD) (k : Nat) (D : DataW Unit) (b : ByteArray) : Named k R b ↔ TakenIn R k D (Maps.has D) b := by
  unfold TakenIn
  constructor
  · exact .inl
  · rintro (h | ⟨h1, h2⟩)
    · exact h
    · rw [h1] at h2; cases h2

theorem taken_step {R : Nat → RD} {k : Nat} {D S : DataW Unit} {left : Lit → Bool} {x : List UInt8} {d : DataW Unit} (h : KeysAre S (TakenIn R k D left)) (hS : IsMap S) (hx : Maps.has D (.string x) = true) :
    KeysAre (S.put (.string x) d) (TakenIn R k D (fun z => left z && !z.sameKey (.string x))) := by
  intro b
  by_cases e : b.data.toList = x
  · subst e
    exact ⟨fun _ => .inr ⟨hx, by simp [Lit.sameKey]⟩, fun _ => has_put_same (k := .string b.data.toList) hS (by trivial) d⟩
  · rw [has_put_other (by intro k; injection k with k; exact e k) d, h b]
    unfold TakenIn
    have : (Lit.string b.data.toList).sameKey (.string x) = false := by simpa [Lit.sameKey] using e
    simp only [this]
    simp

theorem taken_end {R : Nat → RD} {k : Nat} {D : DataW Unit} {left : Lit → Bool} (hl : ∀ kl, left kl = false) (hn : (R k).isNil = false) (hD : KeysAre D (Plain.Mem (R k).np (R k).xp)) (b : ByteArray) : TakenIn R k D left b ↔ Named (k + 1) R b := by
  rw [named_succ]
  unfold TakenIn
  rw [hl, hD b, hn]
  simp

theorem shared_nil (w : World) : Calls Try.prog 7 #[.pointer none] w fun e w' => e = .returned (.slice none 0 0) ∧ w' = w := by
  go_enter Try.func7, Try.ntmps7
  go_wp2
  go_ret
  exact ⟨rfl, rfl⟩

set_option maxRecDepth 100000 in
set_option maxHeartbeats 1000000 in
theorem shared_any (pb : Nat) (v : Value) (m : Nat) (R : Nat → RD) (w : World) (hm : m ≤ 65537) (hp : ∀ i, i < m → (R i).np ≤ 1048576) (hc : w.cell? ⟨pb, 4, none⟩ = some v) (hS : SharesAt w v m R) :
    Calls Try.prog 7 #[.pointer (some ⟨pb, 0, none⟩)] w fun e w' => ∃ v', e = .returned v' ∧ SetAt w' v' (room m) (Named m R) ∧ Below w.heap.size w w' := by
  obtain ⟨a, cap, rfl, hs⟩ := hS
  have HS := hid hs
  have HP := hid hp
  have hmm := @run_makeMap Try.prog
  have hpb : pb < w.heap.size := World.block_lt_of_cell? w _ hc
  clear hs hp
  go_enter Try.func7, Try.ntmps7
  go_wp2
  clear hmm
  go_loopw [15] (fun i wr => ∃ (k cnt : Nat) (S : DataW Unit), k ≤ m ∧ i = .int .i64 k ∧ wr.ownsMap Try.prog 9 (plainElem (H := Unit) Try.prog 4) w.heap.size cnt S ∧ cnt ≤ room k ∧ Hid (KeysAre S (Named k R)) ∧ Below w.heap.size w wr) (fun i _ => m - (intOf i).toNat)
  case atStart => exact ⟨0, 0, .map [], Nat.zero_le _, rfl, World.ownsMap_made _ _ _ _, Nat.zero_le _, keys_start (fun b ⟨j, h, _⟩ => absurd h (Nat.not_lt_zero _)), (Below.refl _ _).alloc (Nat.le_refl _) _⟩
  case round =>
    obtain ⟨k, cnt, S, hk, rfl, hown, hcnt, hkeys, hbel⟩ := hrel
    have hrm := room_le (show k ≤ 65537 by omega)
    by_cases hlt : k < m
    · obtain ⟨b, off, rfl, hd⟩ := HS.out (by omega)
      obtain ⟨xa, xn, xc, mv, xs, e0, e1, e2, hw⟩ := hd k hlt
      have c0 := cell_kept hbel e0
      have c1 := cell_kept hbel e1
      have c2 := cell_kept hbel e2
      have hnp := HP.out k hlt
      clear hd e0 e1 e2
      rcases hw with ⟨hn, rfl⟩ | ⟨hn, g, D, rfl, _, hD0, hKD⟩
      · have hrg := fun w => run_range_nilMap (P := Try.prog) w 39 9 4 Try.underlying39
        have hnx := fun ty => run_next_nilMap (P := Try.prog) (wr.alloc (.cells #[.slice xa xn xc, .map none, .string xs] 49)) ty 0 0 #[]
        rw [show (wr.alloc (.cells #[.slice xa xn xc, .map none, .string xs] 49)).heap.size = wr.heap.size + 1 by simp] at hnx
        have HK2 := hid (keys_congr hkeys.out (named_skip hn))
        clear hn
        go_wp2
        refine wp_loop_rounds 1 ?_
        rw [rounds_succ]
        go_wp2
        go_roundw
        case rel => exact ⟨k + 1, cnt, S, by omega, by go_num, (hown.alloc _).alloc _, by rw [room_succ]; omega, HK2, (hbel.alloc hbel.size _).alloc (by have := hbel.size; simp; omega) _⟩
        case measure => simp [intOf]; omega
      · have hgl : g < w.heap.size := hD0.lt
        have hD := hD0.kept (grown_of_below hbel) (by simp)
        have HKD := hid hKD
        have HN := hid hn
        clear hD0 hKD hn
        go_wp2_with (at_range; refine wpList_range_own _ rfl _ 39 rfl 9 4 law9 Try.underlying39 _ g (R k).np D rfl (hD.alloc _) ?_; intro w0 hrg0 hg0 hs0)
        go_frame
        have hsD := hD.size_le
        have hws := hbel.size
        have O0 := (hown.alloc _).kept hg0 (by simp)
        have B0 := (hbel.alloc hbel.size _).grown hg0 (by have := hbel.size; simp; omega) (fun j hj => by cases hj)
        clear hg0 hs0 c0 c1 c2
        generalize hr : (wr.alloc (.cells #[.slice xa xn xc, .map (some g), .string xs] 49)).heap.size = r at hrg0 ⊢
        have hrw : w.heap.size < r := by simp at hr; omega
        clear hr
        go_loopw [6] (fun _ wx => ∃ (left : Lit → Bool) (c2 cnt2 : Nat) (S2 : DataW Unit), wx.ranges Try.prog 9 (plainElem (H := Unit) Try.prog 4) g r (R k).np D left c2 ∧ wx.ownsMap Try.prog 9 (plainElem (H := Unit) Try.prog 4) w.heap.size cnt2 S2 ∧ cnt2 + c2 ≤ room k + (R k).np ∧ Hid (KeysAre S2 (TakenIn R k D left)) ∧ Below w.heap.size w wx)
          (fun _ wx => wx.rangeLeft g r)
        case atStart => exact ⟨_, _, cnt, S, hrg0, O0, by omega, keys_congr hkeys.out (taken_start R k D), B0⟩
        case round =>
          obtain ⟨left, c2, cnt2, S2, hrg, hown2, hc2, hkeys2, hbel2⟩ := hrel
          clear hrg0 O0 B0 hown hbel hD
          go_wp2_with (at_next; refine wpList_next_ranges _ rfl _ rfl 9 law9 (plainElem (H := Unit) Try.prog 4) encStr mkB (fun key kl hk => by obtain ⟨x, hx, _⟩ := Maps.keyOf_str Try.underlying9 hk; exact ⟨x, hx⟩) (fun v y hv => plainElem_bool_inv hv) g r (R k).np _ _ _ rfl hrg ?_ ?_)
          · intro hc0 hl0
            have HK2 := hid (keys_congr hkeys2.out (taken_end hl0 HN.out HKD.out))
            clear hl0
            go_wp2
            go_roundw
            case rel => exact ⟨k + 1, cnt2, S2, by omega, by go_num, hown2, by rw [room_succ]; omega, HK2, hbel2⟩
            case measure => simp [intOf]; omega
          · intro x c kl yd yp w2 c2' hkey hlk hv hat hrg2 hlt2 hg2 hs2 hen
            obtain ⟨x', ex, rfl, _⟩ := Maps.keyOf_str Try.underlying9 hkey
            obtain rfl : x = x' := encStr_inj ex
            have hown3 := hown2.kept hg2 (by simp; omega)
            have hbel3 := hbel2.grown hg2 hbel2.size (fun j hj => by cases hj; omega)
            have HK2 := hid (fun d => taken_step (x := x) (d := d) hkeys2.out hown2.isMap (has_true_of_atKey hat))
            clear hs2 hg2 hat hv hlk
            go_wp2_with (at_mapUpdate; refine wpList_mapUpdate_own _ rfl _ _ _ 39 rfl 9 4 law9 Try.underlying39 _ w.heap.size cnt2 _ rfl hown3 (by unfold maxLen; omega) _ _ _ rfl rfl hkey _ [] (plainElem_bool Try.underlying4 _) ?_; intro w3 hown4 hg3; go_frame)
            have hrg3 := hrg2.kept hg3 (by simp; omega) (by simp; omega)
            have hbel4 := hbel3.grown hg3 hbel3.size (fun j hj => by cases hj; exact Nat.le_refl _)
            go_roundw
            case rel => exact ⟨_, c2', cnt2 + 1, _, hrg3, hown4, by omega, HK2.out _, hbel4⟩
            case measure => rw [hrg3.left_eq, hrg.left_eq]; exact hlt2
    · have hke : m = k := by omega
      subst hke
      go_wp2_with (go_at_call 15; refine (keys_any _ cnt S (Named m R) _ hown hkeys.out (by omega)).mono ?_; rintro e w1 ⟨v', rfl, hS1, hb1⟩)
      go_ret
      exact ⟨_, rfl, hS1.mono hcnt, btrans hbel hb1⟩

end Go.Proofs.Qxb6626510a
