/- The walk of FnSharedWithTakesInOneMoreRuleAnywhere. -/
import Derived.Test.Qxb6626510aIns
import Derived.Test.Qxb6626510aZzB
namespace Go.Proofs.Qxb6626510a
open Go.RowKit Go.Maps

set_option maxRecDepth 100000 in
set_option maxHeartbeats 4000000 in
theorem lawB_pt (pt : Addr) (R : Nat → RD) (v0 v1 v2 : Value) (x : RD) (w : World) (hR : RulesAt w (.slice (some pt) 0 0) 0 R) (hF : ∀ i, i < 0 → RFits (R i)) (hX : RuleOf w v0 v1 v2 x) (hx : RFits x) :
    Calls Try.prog 4 #[.slice (some pt) 0 0, .agg #[v0, v1, v2, .bool x.isNil, .string x.owner], .int .i64 0] w fun e w' => e = .returned (.bool true) ∧ Below w.heap.size w w' := by
  have hpos : 0 ≤ 0 := Nat.le_refl _
  have hval : ∀ j, j < 0 * 5 → w.cell? ⟨0, 0 + j, none⟩ = some ((fun _ => Value.bool false) j) ∧ ((fun _ => Value.bool false) j).oneCell' = true := fun j h => absurd h (by omega)
  have HV := hid hval
  clear hval
  have HX := hid hX
  have HR := hid hR
  have HF := hid hF
  obtain ⟨⟨a0, p0, rfl, _⟩, ⟨a1, p1, rfl, _, _, hps⟩, ⟨a2, p2, rfl, _⟩⟩ := hX
  have HPS := hid hps
  clear hps hF hR
  go_enter Try.func4, Try.ntmps4
  go_wp2_with fail
  obtain ⟨W0, hW0⟩ : ∃ W0, W0 = w.alloc (.cells #[.slice a0 x.na p0, .slice a1 x.np p1, .slice a2 x.nf p2, .bool x.isNil, .string x.owner] 35) := ⟨_, rfl⟩
  rw [← hW0]
  have A0 : Below w.heap.size w W0 := by rw [hW0]; exact (Below.refl _ _).alloc (Nat.le_refl _) _
  have E0 := hid (show W0.cell? ⟨w.heap.size, 0, none⟩ = some (.slice a0 x.na p0) by rw [hW0]; exact World.cell?_alloc_at _ _ _ _ rfl)
  have E1 := hid (show W0.cell? ⟨w.heap.size, 0 + 1, none⟩ = some (.slice a1 x.np p1) by rw [hW0]; exact World.cell?_alloc_at _ _ _ _ rfl)
  have E2 := hid (show W0.cell? ⟨w.heap.size, 0 + 2, none⟩ = some (.slice a2 x.nf p2) by rw [hW0]; exact World.cell?_alloc_at _ _ _ _ rfl)
  have E3 := hid (show W0.cell? ⟨w.heap.size, 0 + 3, none⟩ = some (.bool x.isNil) by rw [hW0]; exact World.cell?_alloc_at _ _ _ _ rfl)
  have E4 := hid (show W0.cell? ⟨w.heap.size, 0 + 4, none⟩ = some (.string x.owner) by rw [hW0]; exact World.cell?_alloc_at _ _ _ _ rfl)
  clear hW0
  simp only [Nat.zero_add] at E1 E2 E3 E4
  have HR0 := hid (HR.out.kept A0)
  have HX0 := hid (HX.out.kept A0)
  refine (zz12_any _ 0 R _ _ _ x _ W0 HR0.out HF.out HX0.out hx).mono ?_
  rintro e w1 ⟨⟨bb, rfl, _⟩, B1⟩
  cases bb
  · go_wp2
    go_ret
    exact ⟨rfl, btrans A0 B1⟩
  go_wp2_with fail
  refine (big_any _ 0 R _ (HR0.out.kept B1) HF.out).mono ?_
  rintro e w2 ⟨⟨t', c', bb, rfl, hbig⟩, hb2⟩
  have B2 := btrans B1 hb2
  clear hb2 B1
  cases bb
  case true =>
    go_wp2
    go_ret
    exact ⟨rfl, btrans A0 B2⟩
  obtain ⟨⟨t0, t1, c0, c1⟩, hm, hp⟩ := hbig rfl
  have HP := hid hp
  clear hbig hp
  have f0 := cell_kept B2 E0.out
  have f1 := cell_kept B2 E1.out
  have f2 := cell_kept B2 E2.out
  have f3 := cell_kept B2 E3.out
  have f4 := cell_kept B2 E4.out
  go_wp2_with fail
  refine (add_any _ _ _ x t' c' _ (HX0.out.kept B2) hx t0 t1 c0 c1).mono ?_
  rintro e w3 ⟨⟨t2, c2, bb, rfl, hbig⟩, hb3⟩
  have B3 := btrans B2 hb3
  clear hb3 B2 f0 f1 f2 f3 f4
  cases bb
  case true =>
    go_wp2
    go_ret
    exact ⟨rfl, btrans A0 B3⟩
  obtain ⟨_, hxp⟩ := hbig rfl
  clear hbig
  obtain ⟨i0, hi, hz0, hz1, hz2⟩ := info_parts Try.info35
  go_wp2_with (first
    | (at_make; refine wpList_make_own _ rfl _ _ 22 rfl W0.heap.size 35 i0 _ 5 Try.underlying22 hi hz0 hz1 _ _ _ (0 + 1) rfl rfl (by omega) (by rw [hz2]; omega) (by unfold maxLen; omega) B3.size ?_; intro w4 hown4 hgrow4; have B4 := B3.grown hgrow4 B3.size (fun k h => by cases h); clear hgrow4)
    | (at_builtin; refine wpList_append_fits_any _ rfl (.tmp 52) (.tmp 55) 22 rfl W0.heap.size 35 i0 5 Try.underlying22 hi hz1 w3.heap.size 0 (0 + 1) _ rfl hown4 _ 0 _ [] rfl (by simp) (by intro h; cases h) (by intro ad h t u hu; simp at hu) (by intro u hu; cases hu) (by omega) ?_; intro w5 hown5 hgrow5; simp only [Nat.zero_add, List.nil_append] at hown5; have B5 := B4.grown hgrow5 B4.size (fun k h => by cases h; exact B3.size); clear hgrow5 hown4; have f0 := cell_kept B5 E0.out; have f1 := cell_kept B5 E1.out; have f2 := cell_kept B5 E2.out; have f3 := cell_kept B5 E3.out; have f4 := cell_kept B5 E4.out)
    | (at_builtin; refine wpList_append_fits _ rfl (.tmp 57) (.tmp 59) 22 rfl W0.heap.size 35 i0 5 Try.underlying22 hi hz1 w3.heap.size 0 (0 + 1) _ rfl (hown5.alloc _) ⟨w5.heap.size, 0, none⟩ 1 1 [.slice a0 x.na p0, .slice a1 x.np p1, .slice a2 x.nf p2, .bool x.isNil, .string x.owner] rfl rfl (World.news_of_block (cs := #[.slice a0 x.na p0, .slice a1 x.np p1, .slice a2 x.nf p2, .bool x.isNil, .string x.owner]) (t := 35) (fr := (0, 0)) (heap_alloc_new w5 _)) (by simp [Value.oneCell']) (by omega) ?_; intro w6 hown6 hgrow6; have B6 := (B5.alloc B5.size _).grown hgrow6 (by have := B5.size; simp; omega) (fun k h => by cases h; exact B3.size); clear hgrow6 hown5 f0 f1 f2 f3 f4)
    | (at_builtin; refine wpList_append_fits_any _ rfl (.tmp 61) (.tmp 64) 22 rfl W0.heap.size 35 i0 5 Try.underlying22 hi hz1 w3.heap.size (0 + 1) (0 + 1) _ rfl hown6 _ 0 _ [] rfl (by simp) (by intro h; cases h) (by intro ad h t u hu; simp at hu) (by intro u hu; cases hu) (by omega) ?_; intro w7 hown7 hgrow7; have B7 := B6.grown hgrow7 B6.size (fun k h => by cases h; exact B3.size); clear hgrow7 hown6))
  have HG := hid (show RulesAt w7 (.slice (some ⟨w3.heap.size, 0, none⟩) (0 + 1) (0 + 1)) (0 + 1) (Plain.ins R x 0) from rules_grown_end (b := 0) (off := 0) (m := 0) (val := fun _ => Value.bool false) (base := W0.heap.size) (by omega) (fun i h => absurd h (Nat.not_lt_zero _)) HV.out HX.out (btrans A0 B7) (by simpa using hown7))
  clear hown7
  go_wp2_with fail
  refine (build_any _ 0 R _ (by omega) HP.out HF.out (HR0.out.kept B7)).mono ?_
  rintro e u1 ⟨⟨pb1, sv1, rfl, hc1, hs1⟩, hb1⟩
  have C1 := btrans B7 hb1
  have HS1 := hid hs1
  have HC1 := hid hc1
  clear hs1 hc1
  go_wp2_with fail
  refine (shared_any pb1 sv1 0 R _ (by omega) HP.out HC1.out HS1.out).mono ?_
  rintro e y1 ⟨v1, rfl, hset1, hb1'⟩
  have D1 := btrans C1 hb1'
  have SET1 := hid hset1
  clear hset1 C1 HS1 HC1
  go_wp2_with fail
  refine (build_any _ (0 + 1) (Plain.ins R x 0) _ (by omega) (ins_each (q := fun r => r.np ≤ 1048576) hpos HP.out hxp) (ins_each (q := RFits) hpos HF.out hx) (HG.out.kept (btrans hb1 hb1'))).mono ?_
  rintro e u2 ⟨⟨pb2, sv2, rfl, hc2, hs2⟩, hb2⟩
  have C2 := btrans D1 hb2
  have HS2 := hid hs2
  have HC2 := hid hc2
  clear hs2 hc2
  go_wp2_with fail
  refine (shared_any pb2 sv2 (0 + 1) (Plain.ins R x 0) _ (by omega) (ins_each (q := fun r => r.np ≤ 1048576) hpos HP.out hxp) HC2.out HS2.out).mono ?_
  rintro e y2 ⟨v2, rfl, hset2, hb2'⟩
  have D2 := btrans C2 hb2'
  have SET2 := hid hset2
  clear hset2 C2 HS2 HC2
  go_wp2_with fail
  refine (named_any _ 0 R _ (by omega) HP.out (HR0.out.kept D2)).mono ?_
  rintro e y4 ⟨v4, rfl, hset4, hb4⟩
  have D4 := btrans D2 hb4
  have S4 := hid hset4
  have S1 := hid (SET1.out.kept (btrans (btrans hb2 hb2') hb4))
  have S2 := hid (SET2.out.kept hb4)
  have hr1 := room_le (show 0 ≤ 65537 by omega)
  have hr2 := room_le (show 0 + 1 ≤ 65537 by omega)
  have f3 := cell_kept D4 E3.out
  clear hset4 SET1 SET2 hb1 hb1' hb2 hb2' hb4 HG B7
  cases hn : x.isNil
  · rw [hn] at f3
    have HN := hid hn
    clear hn
    go_wp2
    go_loopw [17, 18] (fun o j wr => ∃ q : Nat, q ≤ x.np ∧ j = .int .i64 q ∧ Hid (SetAt wr o (room 0 + q) (fun b => Named 0 R b ∨ Plain.Mem q x.xp b)) ∧ Below y4.heap.size y4 wr) (fun _ j _ => x.np - (intOf j).toNat)
    case atStart => exact ⟨0, Nat.zero_le _, rfl, (S4.out.mono (Nat.le_add_right (room 0) 0)).congr (fun b => ⟨.inl, fun h => h.elim id (fun ⟨j, h, _⟩ => absurd h (Nat.not_lt_zero _))⟩), Below.refl _ _⟩
    case round =>
      obtain ⟨q, hq, rfl, hS, hbel⟩ := hrel
      have g1 := cell_kept (btrans D4 hbel) E1.out
      clear f3
      by_cases hj : q < x.np
      · obtain ⟨pb, po, rfl, hps⟩ := HPS.out (by omega)
        have g2 := cell_kept (btrans A0 (btrans D4 hbel)) (hps q hj)
        clear hps
        go_wp2_with fail
        refine (insert_any _ _ _ _ _ (by omega) hS.out).mono ?_
        rintro e z1 ⟨v', rfl, hS3, hz⟩
        have HS3 := hid ((hS3.mono (Nat.le_of_eq (Nat.add_assoc (room 0) q 1))).congr (q := fun b => Named 0 R b ∨ Plain.Mem (q + 1) x.xp b) (fun b => by rw [Plain.mem_succ, or_assoc]; exact or_congr Iff.rfl (or_congr Iff.rfl eq_comm)))
        have Z := btrans hbel hz
        clear hS3 hz g1 g2
        go_wp2
        go_roundw
        case rel => exact ⟨q + 1, by omega, by go_num, HS3, Z⟩
        case measure => simp [intOf]; omega
      · have hqe : q = x.np := by omega
        subst hqe
        have S1' := hid (S1.out.kept hbel)
        have S2' := hid (S2.out.kept hbel)
        have S4' := hid (S4.out.kept hbel)
        go_wp2_with fail
        refine (same_sets _ _ _ _ _ _ _ (by omega) S1'.out S4'.out (fun _ => Iff.rfl)).mono ?_
        rintro e z1 ⟨rfl, hz1'⟩
        go_wp2_with fail
        refine (same_sets _ _ _ _ _ _ _ (by omega) (S2'.out.kept hz1') (hS.out.kept hz1') (fun b => by rw [named_ins hpos, HN.out]; simp)).mono ?_
        rintro e z2 ⟨rfl, hz2'⟩
        go_wp2
        go_ret
        exact ⟨rfl, btrans A0 (btrans D4 (btrans hbel (btrans hz1' hz2')))⟩
  · rw [hn] at f3
    have HN := hid hn
    clear hn
    go_wp2_with fail
    refine (same_sets _ _ _ _ _ _ _ (by omega) S1.out S4.out (fun _ => Iff.rfl)).mono ?_
    rintro e z1 ⟨rfl, hz1'⟩
    clear f3
    go_wp2_with fail
    refine (same_sets _ _ _ _ _ _ _ (by omega) (S2.out.kept hz1') (S4.out.kept hz1') (fun b => by rw [named_ins hpos, HN.out]; simp)).mono ?_
    rintro e z2 ⟨rfl, hz2'⟩
    go_wp2
    go_ret
    exact ⟨rfl, btrans A0 (btrans D4 (btrans hz1' hz2'))⟩

set_option maxRecDepth 100000 in
set_option maxHeartbeats 4000000 in
theorem lawB_none  (R : Nat → RD) (v0 v1 v2 : Value) (x : RD) (w : World) (hR : RulesAt w (.slice none 0 0) 0 R) (hF : ∀ i, i < 0 → RFits (R i)) (hX : RuleOf w v0 v1 v2 x) (hx : RFits x) :
    Calls Try.prog 4 #[.slice none 0 0, .agg #[v0, v1, v2, .bool x.isNil, .string x.owner], .int .i64 0] w fun e w' => e = .returned (.bool true) ∧ Below w.heap.size w w' := by
  have hpos : 0 ≤ 0 := Nat.le_refl _
  have hval : ∀ j, j < 0 * 5 → w.cell? ⟨0, 0 + j, none⟩ = some ((fun _ => Value.bool false) j) ∧ ((fun _ => Value.bool false) j).oneCell' = true := fun j h => absurd h (by omega)
  have HV := hid hval
  clear hval
  have HX := hid hX
  have HR := hid hR
  have HF := hid hF
  obtain ⟨⟨a0, p0, rfl, _⟩, ⟨a1, p1, rfl, _, _, hps⟩, ⟨a2, p2, rfl, _⟩⟩ := hX
  have HPS := hid hps
  clear hps hF hR
  go_enter Try.func4, Try.ntmps4
  go_wp2_with fail
  obtain ⟨W0, hW0⟩ : ∃ W0, W0 = w.alloc (.cells #[.slice a0 x.na p0, .slice a1 x.np p1, .slice a2 x.nf p2, .bool x.isNil, .string x.owner] 35) := ⟨_, rfl⟩
  rw [← hW0]
  have A0 : Below w.heap.size w W0 := by rw [hW0]; exact (Below.refl _ _).alloc (Nat.le_refl _) _
  have E0 := hid (show W0.cell? ⟨w.heap.size, 0, none⟩ = some (.slice a0 x.na p0) by rw [hW0]; exact World.cell?_alloc_at _ _ _ _ rfl)
  have E1 := hid (show W0.cell? ⟨w.heap.size, 0 + 1, none⟩ = some (.slice a1 x.np p1) by rw [hW0]; exact World.cell?_alloc_at _ _ _ _ rfl)
  have E2 := hid (show W0.cell? ⟨w.heap.size, 0 + 2, none⟩ = some (.slice a2 x.nf p2) by rw [hW0]; exact World.cell?_alloc_at _ _ _ _ rfl)
  have E3 := hid (show W0.cell? ⟨w.heap.size, 0 + 3, none⟩ = some (.bool x.isNil) by rw [hW0]; exact World.cell?_alloc_at _ _ _ _ rfl)
  have E4 := hid (show W0.cell? ⟨w.heap.size, 0 + 4, none⟩ = some (.string x.owner) by rw [hW0]; exact World.cell?_alloc_at _ _ _ _ rfl)
  clear hW0
  simp only [Nat.zero_add] at E1 E2 E3 E4
  have HR0 := hid (HR.out.kept A0)
  have HX0 := hid (HX.out.kept A0)
  refine (zz12_any _ 0 R _ _ _ x _ W0 HR0.out HF.out HX0.out hx).mono ?_
  rintro e w1 ⟨⟨bb, rfl, _⟩, B1⟩
  cases bb
  · go_wp2
    go_ret
    exact ⟨rfl, btrans A0 B1⟩
  go_wp2_with fail
  refine (big_any _ 0 R _ (HR0.out.kept B1) HF.out).mono ?_
  rintro e w2 ⟨⟨t', c', bb, rfl, hbig⟩, hb2⟩
  have B2 := btrans B1 hb2
  clear hb2 B1
  cases bb
  case true =>
    go_wp2
    go_ret
    exact ⟨rfl, btrans A0 B2⟩
  obtain ⟨⟨t0, t1, c0, c1⟩, hm, hp⟩ := hbig rfl
  have HP := hid hp
  clear hbig hp
  have f0 := cell_kept B2 E0.out
  have f1 := cell_kept B2 E1.out
  have f2 := cell_kept B2 E2.out
  have f3 := cell_kept B2 E3.out
  have f4 := cell_kept B2 E4.out
  go_wp2_with fail
  refine (add_any _ _ _ x t' c' _ (HX0.out.kept B2) hx t0 t1 c0 c1).mono ?_
  rintro e w3 ⟨⟨t2, c2, bb, rfl, hbig⟩, hb3⟩
  have B3 := btrans B2 hb3
  clear hb3 B2 f0 f1 f2 f3 f4
  cases bb
  case true =>
    go_wp2
    go_ret
    exact ⟨rfl, btrans A0 B3⟩
  obtain ⟨_, hxp⟩ := hbig rfl
  clear hbig
  obtain ⟨i0, hi, hz0, hz1, hz2⟩ := info_parts Try.info35
  go_wp2_with (first
    | (at_make; refine wpList_make_own _ rfl _ _ 22 rfl W0.heap.size 35 i0 _ 5 Try.underlying22 hi hz0 hz1 _ _ _ (0 + 1) rfl rfl (by omega) (by rw [hz2]; omega) (by unfold maxLen; omega) B3.size ?_; intro w4 hown4 hgrow4; have B4 := B3.grown hgrow4 B3.size (fun k h => by cases h); clear hgrow4)
    | (at_builtin; refine wpList_append_fits_any _ rfl (.tmp 52) (.tmp 55) 22 rfl W0.heap.size 35 i0 5 Try.underlying22 hi hz1 w3.heap.size 0 (0 + 1) _ rfl hown4 _ 0 _ [] rfl (by simp) (by intro h; exact ⟨rfl, rfl⟩) (by intro ad h t u hu; simp at hu) (by intro u hu; cases hu) (by omega) ?_; intro w5 hown5 hgrow5; simp only [Nat.zero_add, List.nil_append] at hown5; have B5 := B4.grown hgrow5 B4.size (fun k h => by cases h; exact B3.size); clear hgrow5 hown4; have f0 := cell_kept B5 E0.out; have f1 := cell_kept B5 E1.out; have f2 := cell_kept B5 E2.out; have f3 := cell_kept B5 E3.out; have f4 := cell_kept B5 E4.out)
    | (at_builtin; refine wpList_append_fits _ rfl (.tmp 57) (.tmp 59) 22 rfl W0.heap.size 35 i0 5 Try.underlying22 hi hz1 w3.heap.size 0 (0 + 1) _ rfl (hown5.alloc _) ⟨w5.heap.size, 0, none⟩ 1 1 [.slice a0 x.na p0, .slice a1 x.np p1, .slice a2 x.nf p2, .bool x.isNil, .string x.owner] rfl rfl (World.news_of_block (cs := #[.slice a0 x.na p0, .slice a1 x.np p1, .slice a2 x.nf p2, .bool x.isNil, .string x.owner]) (t := 35) (fr := (0, 0)) (heap_alloc_new w5 _)) (by simp [Value.oneCell']) (by omega) ?_; intro w6 hown6 hgrow6; have B6 := (B5.alloc B5.size _).grown hgrow6 (by have := B5.size; simp; omega) (fun k h => by cases h; exact B3.size); clear hgrow6 hown5 f0 f1 f2 f3 f4)
    | (at_builtin; refine wpList_append_fits_any _ rfl (.tmp 61) (.tmp 64) 22 rfl W0.heap.size 35 i0 5 Try.underlying22 hi hz1 w3.heap.size (0 + 1) (0 + 1) _ rfl hown6 _ 0 _ [] rfl (by simp) (by intro h; exact ⟨rfl, rfl⟩) (by intro ad h t u hu; simp at hu) (by intro u hu; cases hu) (by omega) ?_; intro w7 hown7 hgrow7; have B7 := B6.grown hgrow7 B6.size (fun k h => by cases h; exact B3.size); clear hgrow7 hown6))
  have HG := hid (show RulesAt w7 (.slice (some ⟨w3.heap.size, 0, none⟩) (0 + 1) (0 + 1)) (0 + 1) (Plain.ins R x 0) from rules_grown_end (b := 0) (off := 0) (m := 0) (val := fun _ => Value.bool false) (base := W0.heap.size) (by omega) (fun i h => absurd h (Nat.not_lt_zero _)) HV.out HX.out (btrans A0 B7) (by simpa using hown7))
  clear hown7
  go_wp2_with fail
  refine (build_any _ 0 R _ (by omega) HP.out HF.out (HR0.out.kept B7)).mono ?_
  rintro e u1 ⟨⟨pb1, sv1, rfl, hc1, hs1⟩, hb1⟩
  have C1 := btrans B7 hb1
  have HS1 := hid hs1
  have HC1 := hid hc1
  clear hs1 hc1
  go_wp2_with fail
  refine (shared_any pb1 sv1 0 R _ (by omega) HP.out HC1.out HS1.out).mono ?_
  rintro e y1 ⟨v1, rfl, hset1, hb1'⟩
  have D1 := btrans C1 hb1'
  have SET1 := hid hset1
  clear hset1 C1 HS1 HC1
  go_wp2_with fail
  refine (build_any _ (0 + 1) (Plain.ins R x 0) _ (by omega) (ins_each (q := fun r => r.np ≤ 1048576) hpos HP.out hxp) (ins_each (q := RFits) hpos HF.out hx) (HG.out.kept (btrans hb1 hb1'))).mono ?_
  rintro e u2 ⟨⟨pb2, sv2, rfl, hc2, hs2⟩, hb2⟩
  have C2 := btrans D1 hb2
  have HS2 := hid hs2
  have HC2 := hid hc2
  clear hs2 hc2
  go_wp2_with fail
  refine (shared_any pb2 sv2 (0 + 1) (Plain.ins R x 0) _ (by omega) (ins_each (q := fun r => r.np ≤ 1048576) hpos HP.out hxp) HC2.out HS2.out).mono ?_
  rintro e y2 ⟨v2, rfl, hset2, hb2'⟩
  have D2 := btrans C2 hb2'
  have SET2 := hid hset2
  clear hset2 C2 HS2 HC2
  go_wp2_with fail
  refine (named_any _ 0 R _ (by omega) HP.out (HR0.out.kept D2)).mono ?_
  rintro e y4 ⟨v4, rfl, hset4, hb4⟩
  have D4 := btrans D2 hb4
  have S4 := hid hset4
  have S1 := hid (SET1.out.kept (btrans (btrans hb2 hb2') hb4))
  have S2 := hid (SET2.out.kept hb4)
  have hr1 := room_le (show 0 ≤ 65537 by omega)
  have hr2 := room_le (show 0 + 1 ≤ 65537 by omega)
  have f3 := cell_kept D4 E3.out
  clear hset4 SET1 SET2 hb1 hb1' hb2 hb2' hb4 HG B7
  cases hn : x.isNil
  · rw [hn] at f3
    have HN := hid hn
    clear hn
    go_wp2
    go_loopw [17, 18] (fun o j wr => ∃ q : Nat, q ≤ x.np ∧ j = .int .i64 q ∧ Hid (SetAt wr o (room 0 + q) (fun b => Named 0 R b ∨ Plain.Mem q x.xp b)) ∧ Below y4.heap.size y4 wr) (fun _ j _ => x.np - (intOf j).toNat)
    case atStart => exact ⟨0, Nat.zero_le _, rfl, (S4.out.mono (Nat.le_add_right (room 0) 0)).congr (fun b => ⟨.inl, fun h => h.elim id (fun ⟨j, h, _⟩ => absurd h (Nat.not_lt_zero _))⟩), Below.refl _ _⟩
    case round =>
      obtain ⟨q, hq, rfl, hS, hbel⟩ := hrel
      have g1 := cell_kept (btrans D4 hbel) E1.out
      clear f3
      by_cases hj : q < x.np
      · obtain ⟨pb, po, rfl, hps⟩ := HPS.out (by omega)
        have g2 := cell_kept (btrans A0 (btrans D4 hbel)) (hps q hj)
        clear hps
        go_wp2_with fail
        refine (insert_any _ _ _ _ _ (by omega) hS.out).mono ?_
        rintro e z1 ⟨v', rfl, hS3, hz⟩
        have HS3 := hid ((hS3.mono (Nat.le_of_eq (Nat.add_assoc (room 0) q 1))).congr (q := fun b => Named 0 R b ∨ Plain.Mem (q + 1) x.xp b) (fun b => by rw [Plain.mem_succ, or_assoc]; exact or_congr Iff.rfl (or_congr Iff.rfl eq_comm)))
        have Z := btrans hbel hz
        clear hS3 hz g1 g2
        go_wp2
        go_roundw
        case rel => exact ⟨q + 1, by omega, by go_num, HS3, Z⟩
        case measure => simp [intOf]; omega
      · have hqe : q = x.np := by omega
        subst hqe
        have S1' := hid (S1.out.kept hbel)
        have S2' := hid (S2.out.kept hbel)
        have S4' := hid (S4.out.kept hbel)
        go_wp2_with fail
        refine (same_sets _ _ _ _ _ _ _ (by omega) S1'.out S4'.out (fun _ => Iff.rfl)).mono ?_
        rintro e z1 ⟨rfl, hz1'⟩
        go_wp2_with fail
        refine (same_sets _ _ _ _ _ _ _ (by omega) (S2'.out.kept hz1') (hS.out.kept hz1') (fun b => by rw [named_ins hpos, HN.out]; simp)).mono ?_
        rintro e z2 ⟨rfl, hz2'⟩
        go_wp2
        go_ret
        exact ⟨rfl, btrans A0 (btrans D4 (btrans hbel (btrans hz1' hz2')))⟩
  · rw [hn] at f3
    have HN := hid hn
    clear hn
    go_wp2_with fail
    refine (same_sets _ _ _ _ _ _ _ (by omega) S1.out S4.out (fun _ => Iff.rfl)).mono ?_
    rintro e z1 ⟨rfl, hz1'⟩
    clear f3
    go_wp2_with fail
    refine (same_sets _ _ _ _ _ _ _ (by omega) (S2.out.kept hz1') (S4.out.kept hz1') (fun b => by rw [named_ins hpos, HN.out]; simp)).mono ?_
    rintro e z2 ⟨rfl, hz2'⟩
    go_wp2
    go_ret
    exact ⟨rfl, btrans A0 (btrans D4 (btrans hz1' hz2'))⟩

end Go.Proofs.Qxb6626510a
