/- The contract of mergeUnion. -/
import Derived.Test.Qxb6626510aStrs
namespace Go.Proofs.Qxb6626510a
open Go.RowKit

theorem map_snoc (l : List ByteArray) (y : ByteArray) : l.map Value.string ++ [.string y] = (l ++ [y]).map Value.string := by simp

theorem strs_of_list {w : World} {base g cap : Nat} {l : List ByteArray} (h : w.ownsRow base 9 1 (.slice (some ⟨g, 0, none⟩) l.length cap) l.length (l.map Value.string)) : StrsAt w (.slice (some ⟨g, 0, none⟩) l.length cap) l.length (fun j => l.getD j ByteArray.empty) := by
  refine strs_own (base := base) ?_
  have e : (List.range l.length).map (fun j => Value.string (l.getD j ByteArray.empty)) = l.map Value.string := by
    apply List.ext_getElem?
    intro j
    by_cases hj : j < l.length
    · simp [hj]
    · rw [List.getElem?_eq_none (by simp; omega), List.getElem?_eq_none (by simp; omega)]
  rw [e]
  exact h

set_option maxHeartbeats 2000000 in
set_option maxRecDepth 100000 in
theorem merge_any (u v : Value) (n1 n2 : Nat) (p q : ByteArray → Prop) (w : World) (hn1 : n1 ≤ 1099511627776) (hn2 : n2 ≤ 1099511627776) (hU : SetAt w u n1 p) (hV : SetAt w v n2 q) :
    Calls Try.prog 11 #[u, v] w fun e w' => ∃ v', e = .returned v' ∧ SetAt w' v' (n1 + n2) (fun b => p b ∨ q b) ∧ Below w.heap.size w w' := by
  obtain ⟨ka, sa, hka, hsa, hinca, hmema⟩ := hU
  obtain ⟨kb, sb, hkb, hsb, hincb, hmemb⟩ := hV
  have IA := hid hinca
  have IB := hid hincb
  have MA := hid hmema
  have MB := hid hmemb
  obtain ⟨ua, uc, rfl, _, _, hua⟩ := hsa
  obtain ⟨va, vc, rfl, _, _, hvb⟩ := hsb
  have HU := hid hua
  have HV := hid hvb
  obtain ⟨i0, hi, hz0, hz1, hz2⟩ := info_parts Try.info9
  clear hinca hincb hmema hmemb hua hvb
  go_enter Try.func11, Try.ntmps11
  go_wp2_with (at_make; refine wpList_make_own _ rfl _ _ 27 rfl w.heap.size 9 i0 (.string ⟨#[]⟩) 1 Try.underlying27 hi hz0 hz1 _ _ _ (ka + kb) rfl rfl (by omega) (by rw [hz2]; omega) (by unfold maxLen; omega) (Nat.le_refl _) ?_; intro w1 hown1 hgrow1)
  have B1 := (Below.refl w.heap.size w).grown hgrow1 (Nat.le_refl _) (fun k h => by cases h)
  clear hgrow1
  go_wp2
  go_loopw [5, 6, 7] (fun o si sj wr => ∃ (i j : Nat) (l : List ByteArray), i ≤ ka ∧ j ≤ kb ∧ si = .int .i64 i ∧ sj = .int .i64 j ∧ o = .slice (some ⟨w.heap.size, 0, none⟩) l.length (ka + kb) ∧ wr.ownsRow w.heap.size 9 1 (.slice (some ⟨w.heap.size, 0, none⟩) l.length (ka + kb)) l.length (l.map Value.string) ∧ Hid (Plain.Merged ka sa kb sb i j l) ∧ Below w.heap.size w wr)
    (fun _ si sj _ => (ka - (intOf si).toNat) + (kb - (intOf sj).toNat))
  case atStart => exact ⟨0, 0, [], Nat.zero_le _, Nat.zero_le _, rfl, rfl, rfl, hown1, Plain.merged_start _ _ _ _, B1⟩
  case round =>
    obtain ⟨i, j, l, hia, hjb, rfl, rfl, rfl, hown, hM, hbel⟩ := hrel
    have hlen := hM.out.len
    clear hown1 B1
    by_cases hi1 : i < ka
    · obtain ⟨ub, uo, rfl, hua⟩ := HU.out (by omega)
      have c1 := cell_kept hbel (hua i hi1)
      have hiz : (i : Int) < (ka : Int) := by omega
      have hid1 : decide ((ka : Int) ≤ (i : Int)) = false := by simpa using hi1
      clear hua
      by_cases hj1 : j < kb
      · obtain ⟨vb, vo, rfl, hvb⟩ := HV.out (by omega)
        have c2 := cell_kept hbel (hvb j hj1)
        have hjz : (j : Int) < (kb : Int) := by omega
        have hjd1 : decide ((kb : Int) ≤ (j : Int)) = false := by simpa using hj1
        clear hvb
        by_cases hl : Plain.lt (sa i) (sb j)
        · have hb1 : Op.bytesLess (sa i).toList (sb j).toList = true := (Plain.less_iff _ _).2 hl
          have HM2 := hid (Plain.merged_a hM.out IA.out hi1 (fun _ => hl))
          clear hl hM
          go_wp2
          go_quiet (fail)
          go_wp2_with (at_builtin; refine wpList_append_fits _ rfl (.tmp 45) (.tmp 50) 27 rfl w.heap.size 9 i0 1 Try.underlying27 hi hz1 w.heap.size l.length (ka + kb) _ rfl (World.ownsRow.alloc (w := wr.drewN _) hown _) ⟨wr.heap.size, 0, none⟩ 1 1 [.string (sa i)] rfl rfl (cell_one_new _ _ _) (by intro u hu; simp at hu; subst hu; rfl) (by omega) ?_; intro w2 hown2 hgrow2)
          rw [map_snoc] at hown2
          have B2 := ((below_drewN hbel _).alloc hbel.size _).grown hgrow2 (by have := hbel.size; simp; omega) (fun k h => by cases h; exact Nat.le_refl _)
          clear hgrow2
          go_roundw
          case rel => exact ⟨i + 1, j, l ++ [sa i], by omega, by omega, by go_num, rfl, by simp, by simpa using hown2, HM2, B2⟩
          case measure => simp [intOf]; omega
        · have hb1 : Op.bytesLess (sa i).toList (sb j).toList = false := by have := mt (Plain.less_iff _ _).1 hl; simpa using this
          by_cases hl2 : Plain.lt (sb j) (sa i)
          · have hb2 : Op.bytesLess (sb j).toList (sa i).toList = true := (Plain.less_iff _ _).2 hl2
            have HM2 := hid (Plain.merged_b hM.out IB.out hj1 (fun _ => hl2))
            clear hl hl2 hM
            go_wp2
            go_quiet (fail)
            go_wp2
            go_quiet (fail)
            go_wp2_with (at_builtin; refine wpList_append_fits _ rfl (.tmp 69) (.tmp 74) 27 rfl w.heap.size 9 i0 1 Try.underlying27 hi hz1 w.heap.size l.length (ka + kb) _ rfl (World.ownsRow.alloc (w := wr.drewN _) hown _) ⟨wr.heap.size, 0, none⟩ 1 1 [.string (sb j)] rfl rfl (cell_one_new _ _ _) (by intro u hu; simp at hu; subst hu; rfl) (by omega) ?_; intro w2 hown2 hgrow2)
            rw [map_snoc] at hown2
            have B2 := ((below_drewN hbel _).alloc hbel.size _).grown hgrow2 (by have := hbel.size; simp; omega) (fun k h => by cases h; exact Nat.le_refl _)
            clear hgrow2
            go_roundw
            case rel => exact ⟨i, j + 1, l ++ [sb j], by omega, by omega, rfl, by go_num, by simp, by simpa using hown2, HM2, B2⟩
            case measure => simp [intOf]; omega
          · have hb2 : Op.bytesLess (sb j).toList (sa i).toList = false := by have := mt (Plain.less_iff _ _).1 hl2; simpa using this
            have he : sa i = sb j := Classical.byContradiction fun h => hl2 (Plain.lt_of_not hl h)
            have HM2 := hid (Plain.merged_ab hM.out IA.out IB.out hi1 hj1 he)
            clear hl hl2 hM he
            go_wp2
            go_quiet (fail)
            go_wp2
            go_quiet (fail)
            go_wp2_with (at_builtin; refine wpList_append_fits _ rfl (.tmp 78) (.tmp 83) 27 rfl w.heap.size 9 i0 1 Try.underlying27 hi hz1 w.heap.size l.length (ka + kb) _ rfl (World.ownsRow.alloc (w := wr.drewN _) hown _) ⟨wr.heap.size, 0, none⟩ 1 1 [.string (sa i)] rfl rfl (cell_one_new _ _ _) (by intro u hu; simp at hu; subst hu; rfl) (by omega) ?_; intro w2 hown2 hgrow2)
            rw [map_snoc] at hown2
            have B2 := ((below_drewN hbel _).alloc hbel.size _).grown hgrow2 (by have := hbel.size; simp; omega) (fun k h => by cases h; exact Nat.le_refl _)
            clear hgrow2
            go_roundw
            case rel => exact ⟨i + 1, j + 1, l ++ [sa i], by omega, by omega, by go_num, by go_num, by simp, by simpa using hown2, HM2, B2⟩
            case measure => simp [intOf]; omega
      · have hjd2 : (kb : Int) ≤ (j : Int) := by omega
        have HM2 := hid (Plain.merged_a hM.out IA.out hi1 (fun h => absurd h hj1))
        clear hM
        go_wp2
        go_quiet (fail)
        go_wp2_with (at_builtin; refine wpList_append_fits _ rfl (.tmp 45) (.tmp 50) 27 rfl w.heap.size 9 i0 1 Try.underlying27 hi hz1 w.heap.size l.length (ka + kb) _ rfl (World.ownsRow.alloc (w := wr.drewN _) hown _) ⟨wr.heap.size, 0, none⟩ 1 1 [.string (sa i)] rfl rfl (cell_one_new _ _ _) (by intro u hu; simp at hu; subst hu; rfl) (by omega) ?_; intro w2 hown2 hgrow2)
        rw [map_snoc] at hown2
        have B2 := ((below_drewN hbel _).alloc hbel.size _).grown hgrow2 (by have := hbel.size; simp; omega) (fun k h => by cases h; exact Nat.le_refl _)
        clear hgrow2
        go_roundw
        case rel => exact ⟨i + 1, j, l ++ [sa i], by omega, by omega, by go_num, rfl, by simp, by simpa using hown2, HM2, B2⟩
        case measure => simp [intOf]; omega
    · have hid2 : (ka : Int) ≤ (i : Int) := by omega
      have hidf : decide ((i : Int) < (ka : Int)) = false := by simpa using hi1
      have hidn : decide (i < ka) = false := by simpa using hi1
      by_cases hj1 : j < kb
      · obtain ⟨vb, vo, rfl, hvb⟩ := HV.out (by omega)
        have c2 := cell_kept hbel (hvb j hj1)
        have hjz : (j : Int) < (kb : Int) := by omega
        have hjd1 : decide ((kb : Int) ≤ (j : Int)) = false := by simpa using hj1
        have hjdn : decide (kb ≤ j) = false := by simpa using hj1
        have HM2 := hid (Plain.merged_b hM.out IB.out hj1 (fun h => absurd h hi1))
        clear hvb hM
        go_wp2
        go_quiet (fail)
        go_wp2
        go_quiet (fail)
        go_wp2_with (at_builtin; refine wpList_append_fits _ rfl (.tmp 69) (.tmp 74) 27 rfl w.heap.size 9 i0 1 Try.underlying27 hi hz1 w.heap.size l.length (ka + kb) _ rfl (World.ownsRow.alloc (w := wr.drewN _) hown _) ⟨wr.heap.size, 0, none⟩ 1 1 [.string (sb j)] rfl rfl (cell_one_new _ _ _) (by intro u hu; simp at hu; subst hu; rfl) (by omega) ?_; intro w2 hown2 hgrow2)
        rw [map_snoc] at hown2
        have B2 := ((below_drewN hbel _).alloc hbel.size _).grown hgrow2 (by have := hbel.size; simp; omega) (fun k h => by cases h; exact Nat.le_refl _)
        clear hgrow2
        go_roundw
        case rel => exact ⟨i, j + 1, l ++ [sb j], by omega, by omega, rfl, by go_num, by simp, by simpa using hown2, HM2, B2⟩
        case measure => simp [intOf]; omega
      · go_wp2
        go_ret
        refine ⟨_, rfl, ⟨l.length, _, by omega, strs_of_list hown, Plain.inc_of_pairwise hM.out.inc, fun b => ?_⟩, hbel⟩
        obtain rfl : ka = i := by omega
        obtain rfl : kb = j := by omega
        rw [Plain.mem_getD, hM.out.mem, MA.out, MB.out]

end Go.Proofs.Qxb6626510a
