/- The walk of FnSharedWithAgreesOverAnyCutOfTheRules. -/
import Derived.Test.Qxb6626510aCommon
import Derived.Test.Qxb6626510aZzA
namespace Go.Proofs.Qxb6626510a
open Go.RowKit Go.Maps

set_option maxRecDepth 100000 in
set_option maxHeartbeats 2000000 in
theorem lawA_out (a : Option Addr) (m cap : Nat) (cut : Int) (isn : Bool) (R : Nat → RD) (w : World) (hR : RulesAt w (.slice a m cap) m R) (hF : ∀ i, i < m → RFits (R i)) (hc : cut < 0 ∨ (m : Int) < cut) :
    Calls Try.prog 3 #[.slice a m cap, .int .i64 cut, .bool isn] w fun e w' => e = .returned (.bool true) ∧ Below w.heap.size w w' := by
  have HR := hid hR
  have HF := hid hF
  obtain ⟨_, _, _, hcap, hmax, _⟩ := hR
  clear hF
  go_enter Try.func3, Try.ntmps3
  go_wp2_with fail
  refine (zz5_any _ m R _ _ w HR.out HF.out).mono ?_
  rintro e w1 ⟨⟨bb, rfl, _⟩, B1⟩
  cases bb
  · go_wp2
    go_ret
    exact ⟨rfl, B1⟩
  have HR1 := hid (HR.out.kept B1)
  go_wp2_with fail
  refine (big_any _ m R _ HR1.out HF.out).mono ?_
  rintro e w2 ⟨⟨t', c', bb, rfl, hbig⟩, hb2⟩
  have B2 := btrans B1 hb2
  clear hb2 HR1 B1
  cases bb
  case true =>
    go_wp2
    go_ret
    exact ⟨rfl, B2⟩
  obtain ⟨_, hm, hp⟩ := hbig rfl
  have HP := hid hp
  clear hbig hp
  by_cases h1 : cut < 0
  · go_wp2
    go_ret
    exact ⟨rfl, B2⟩
  · have h2 : (m : Int) < cut := by omega
    clear hc
    go_wp2
    go_ret
    exact ⟨rfl, B2⟩

set_option maxRecDepth 100000 in
set_option maxHeartbeats 2000000 in
theorem lawA_nil (a : Option Addr) (m cap cut : Nat) (R : Nat → RD) (w : World) (hR : RulesAt w (.slice a m cap) m R) (hF : ∀ i, i < m → RFits (R i)) (hcut : cut ≤ m) :
    Calls Try.prog 3 #[.slice a m cap, .int .i64 cut, .bool true] w fun e w' => e = .returned (.bool true) ∧ Below w.heap.size w w' := by
  have HR := hid hR
  have HF := hid hF
  obtain ⟨_, _, _, hcap, hmax, _⟩ := hR
  clear hF
  go_enter Try.func3, Try.ntmps3
  go_wp2_with fail
  refine (zz5_any _ m R _ _ w HR.out HF.out).mono ?_
  rintro e w1 ⟨⟨bb, rfl, _⟩, B1⟩
  cases bb
  · go_wp2
    go_ret
    exact ⟨rfl, B1⟩
  have HR1 := hid (HR.out.kept B1)
  go_wp2_with fail
  refine (big_any _ m R _ HR1.out HF.out).mono ?_
  rintro e w2 ⟨⟨t', c', bb, rfl, hbig⟩, hb2⟩
  have B2 := btrans B1 hb2
  clear hb2 HR1 B1
  cases bb
  case true =>
    go_wp2
    go_ret
    exact ⟨rfl, B2⟩
  obtain ⟨_, hm, hp⟩ := hbig rfl
  have HP := hid hp
  clear hbig hp
  have hnil := fun w => Lib.run_eql_slice_nil (P := Try.prog) w 27 9 none 0 0 0 0 Try.underlying27
  go_wp2_with (go_at_call 7; refine (shared_nil _).mono ?_; rintro e w3 ⟨rfl, hw⟩; obtain rfl := hw.symm)
  go_ret
  exact ⟨rfl, B2⟩

set_option maxRecDepth 100000 in
set_option maxHeartbeats 2000000 in
theorem lawA_in (b off m cap cut : Nat) (R : Nat → RD) (w : World) (hR : RulesAt w (.slice (some ⟨b, off, none⟩) m cap) m R) (hd : ∀ i, i < m → RuleAt w b (off + i * 5) (R i)) (hF : ∀ i, i < m → RFits (R i)) (hcut : cut ≤ m) (hcc : ¬ cap = cut) :
    Calls Try.prog 3 #[.slice (some ⟨b, off, none⟩) m cap, .int .i64 cut, .bool false] w fun e w' => e = .returned (.bool true) ∧ Below w.heap.size w w' := by
  have HD := hid hd
  clear hd
  have HR := hid hR
  have HF := hid hF
  obtain ⟨_, _, _, hcap, hmax, _⟩ := hR
  clear hF
  go_enter Try.func3, Try.ntmps3
  go_wp2_with fail
  refine (zz5_any _ m R _ _ w HR.out HF.out).mono ?_
  rintro e w1 ⟨⟨bb, rfl, _⟩, B1⟩
  cases bb
  · go_wp2
    go_ret
    exact ⟨rfl, B1⟩
  have HR1 := hid (HR.out.kept B1)
  go_wp2_with fail
  refine (big_any _ m R _ HR1.out HF.out).mono ?_
  rintro e w2 ⟨⟨t', c', bb, rfl, hbig⟩, hb2⟩
  have B2 := btrans B1 hb2
  clear hb2 HR1 B1
  cases bb
  case true =>
    go_wp2
    go_ret
    exact ⟨rfl, B2⟩
  obtain ⟨_, hm, hp⟩ := hbig rfl
  have HP := hid hp
  clear hbig hp
  go_wp2_with fail
  refine (build_any _ m R _ (by omega) HP.out HF.out (HR.out.kept B2)).mono ?_
  rintro e x1 ⟨⟨pb1, sv1, rfl, hc1, hs1⟩, hb1⟩
  have C1 := btrans B2 hb1
  have HS1 := hid hs1
  have HC1 := hid hc1
  clear hs1 hc1
  go_wp2_with fail
  refine (shared_any pb1 sv1 m R _ (by omega) HP.out HC1.out HS1.out).mono ?_
  rintro e y1 ⟨v1, rfl, hset1, hb1'⟩
  have D1 := btrans C1 hb1'
  have SET1 := hid hset1
  clear hset1 C1 HS1 HC1
  go_wp2_with fail
  refine (build_any _ cut R _ (by omega) (fun i hi => HP.out i (by omega)) (fun i hi => HF.out i (by omega)) (rules_to (HR.out.kept D1) hcut)).mono ?_
  rintro e x2 ⟨⟨pb2, sv2, rfl, hc2, hs2⟩, hb2⟩
  have C2 := btrans D1 hb2
  have HS2 := hid hs2
  have HC2 := hid hc2
  clear hs2 hc2
  go_wp2_with fail
  refine (shared_any pb2 sv2 cut R _ (by omega) (fun i hi => HP.out i (by omega)) HC2.out HS2.out).mono ?_
  rintro e y2 ⟨v2, rfl, hset2, hb2'⟩
  have D2 := btrans C2 hb2'
  have SET2 := hid hset2
  clear hset2 C2 HS2 HC2
  go_wp2_with fail
  refine (build_any _ (m - cut) (fun i => R (cut + i)) _ (by omega) (fun i hi => HP.out (cut + i) (by omega)) (fun i hi => HF.out (cut + i) (by omega)) (rules_from hcap hmax (fun i hi => (HD.out i hi).kept D2) hcut)).mono ?_
  rintro e x3 ⟨⟨pb3, sv3, rfl, hc3, hs3⟩, hb3⟩
  have C3 := btrans D2 hb3
  have HS3 := hid hs3
  have HC3 := hid hc3
  clear hs3 hc3
  go_wp2_with fail
  refine (shared_any pb3 sv3 (m - cut) (fun i => R (cut + i)) _ (by omega) (fun i hi => HP.out (cut + i) (by omega)) HC3.out HS3.out).mono ?_
  rintro e y3 ⟨v3, rfl, hset3, hb3'⟩
  have D3 := btrans C3 hb3'
  have SET3 := hid hset3
  clear hset3 C3 HS3 HC3
  go_wp2_with fail
  refine (named_any _ m R _ (by omega) HP.out (HR.out.kept D3)).mono ?_
  rintro e y4 ⟨v4, rfl, hset4, hb4⟩
  have D4 := btrans D3 hb4
  have SET4 := hid hset4
  have S1 := hid (SET1.out.kept (btrans (btrans (btrans hb2 hb2') (btrans hb3 hb3')) hb4))
  have S2 := hid (SET2.out.kept (btrans (btrans hb3 hb3') hb4))
  have S3 := hid (SET3.out.kept hb4)
  have hr1 := room_le (show m ≤ 65537 by omega)
  have hr2 := room_le (show cut ≤ 65537 by omega)
  have hr3 := room_le (show m - cut ≤ 65537 by omega)
  clear hset4 SET1 SET2 SET3 hb1 hb1' hb2 hb2' hb3 hb3' hb4
  go_wp2_with fail
  refine (same_sets _ _ _ _ _ _ _ (by omega) S1.out SET4.out (fun _ => Iff.rfl)).mono ?_
  rintro e y5 ⟨rfl, hb5⟩
  have D5 := btrans D4 hb5
  go_wp2_with fail
  refine (merge_any _ _ _ _ _ _ _ (by omega) (by omega) (S2.out.kept hb5) (S3.out.kept hb5)).mono ?_
  rintro e y6 ⟨v6, rfl, hset6, hb6⟩
  have D6 := btrans D5 hb6
  have SET6 := hid hset6
  have S1' := hid (S1.out.kept (btrans hb5 hb6))
  clear hset6 S1 S2 S3 SET4
  go_wp2_with fail
  refine (same_sets _ _ _ _ _ _ _ (by omega) S1'.out SET6.out (named_cut hcut)).mono ?_
  rintro e y7 ⟨rfl, hb7⟩
  have D7 := btrans D6 hb7
  go_wp2
  go_ret
  exact ⟨rfl, D7⟩

set_option maxRecDepth 100000 in
set_option maxHeartbeats 2000000 in
theorem lawA_end (pt : Addr) (m : Nat) (R : Nat → RD) (w : World) (hR : RulesAt w (.slice (some pt) m m) m R) (hF : ∀ i, i < m → RFits (R i)) :
    Calls Try.prog 3 #[.slice (some pt) m m, .int .i64 m, .bool false] w fun e w' => e = .returned (.bool true) ∧ Below w.heap.size w w' := by
  have HR := hid hR
  have HF := hid hF
  obtain ⟨_, _, _, hcap, hmax, _⟩ := hR
  clear hF
  go_enter Try.func3, Try.ntmps3
  go_wp2_with fail
  refine (zz5_any _ m R _ _ w HR.out HF.out).mono ?_
  rintro e w1 ⟨⟨bb, rfl, _⟩, B1⟩
  cases bb
  · go_wp2
    go_ret
    exact ⟨rfl, B1⟩
  have HR1 := hid (HR.out.kept B1)
  go_wp2_with fail
  refine (big_any _ m R _ HR1.out HF.out).mono ?_
  rintro e w2 ⟨⟨t', c', bb, rfl, hbig⟩, hb2⟩
  have B2 := btrans B1 hb2
  clear hb2 HR1 B1
  cases bb
  case true =>
    go_wp2
    go_ret
    exact ⟨rfl, B2⟩
  obtain ⟨_, hm, hp⟩ := hbig rfl
  have HP := hid hp
  clear hbig hp
  go_wp2_with fail
  refine (build_any _ m R _ (by omega) HP.out HF.out (HR.out.kept B2)).mono ?_
  rintro e x1 ⟨⟨pb1, sv1, rfl, hc1, hs1⟩, hb1⟩
  have C1 := btrans B2 hb1
  have HS1 := hid hs1
  have HC1 := hid hc1
  clear hs1 hc1
  go_wp2_with fail
  refine (shared_any pb1 sv1 m R _ (by omega) HP.out HC1.out HS1.out).mono ?_
  rintro e y1 ⟨v1, rfl, hset1, hb1'⟩
  have D1 := btrans C1 hb1'
  have SET1 := hid hset1
  clear hset1 C1 HS1 HC1
  go_wp2_with fail
  refine (build_any _ m R _ (by omega) (fun i hi => HP.out i (by omega)) (fun i hi => HF.out i (by omega)) (HR.out.kept D1)).mono ?_
  rintro e x2 ⟨⟨pb2, sv2, rfl, hc2, hs2⟩, hb2⟩
  have C2 := btrans D1 hb2
  have HS2 := hid hs2
  have HC2 := hid hc2
  clear hs2 hc2
  go_wp2_with fail
  refine (shared_any pb2 sv2 m R _ (by omega) (fun i hi => HP.out i (by omega)) HC2.out HS2.out).mono ?_
  rintro e y2 ⟨v2, rfl, hset2, hb2'⟩
  have D2 := btrans C2 hb2'
  have SET2 := hid hset2
  clear hset2 C2 HS2 HC2
  go_wp2_with fail
  refine (build_any _ 0 (fun i => R (m + i)) _ (by omega) (fun i hi => HP.out (m + i) (by omega)) (fun i hi => HF.out (m + i) (by omega)) (rules_none _ _ _)).mono ?_
  rintro e x3 ⟨⟨pb3, sv3, rfl, hc3, hs3⟩, hb3⟩
  have C3 := btrans D2 hb3
  have HS3 := hid hs3
  have HC3 := hid hc3
  clear hs3 hc3
  go_wp2_with fail
  refine (shared_any pb3 sv3 0 (fun i => R (m + i)) _ (by omega) (fun i hi => HP.out (m + i) (by omega)) HC3.out HS3.out).mono ?_
  rintro e y3 ⟨v3, rfl, hset3, hb3'⟩
  have D3 := btrans C3 hb3'
  have SET3 := hid hset3
  clear hset3 C3 HS3 HC3
  go_wp2_with fail
  refine (named_any _ m R _ (by omega) HP.out (HR.out.kept D3)).mono ?_
  rintro e y4 ⟨v4, rfl, hset4, hb4⟩
  have D4 := btrans D3 hb4
  have SET4 := hid hset4
  have S1 := hid (SET1.out.kept (btrans (btrans (btrans hb2 hb2') (btrans hb3 hb3')) hb4))
  have S2 := hid (SET2.out.kept (btrans (btrans hb3 hb3') hb4))
  have S3 := hid (SET3.out.kept hb4)
  have hr1 := room_le (show m ≤ 65537 by omega)
  have hr2 := room_le (show m ≤ 65537 by omega)
  have hr3 := room_le (show 0 ≤ 65537 by omega)
  clear hset4 SET1 SET2 SET3 hb1 hb1' hb2 hb2' hb3 hb3' hb4
  go_wp2_with fail
  refine (same_sets _ _ _ _ _ _ _ (by omega) S1.out SET4.out (fun _ => Iff.rfl)).mono ?_
  rintro e y5 ⟨rfl, hb5⟩
  have D5 := btrans D4 hb5
  go_wp2_with fail
  refine (merge_any _ _ _ _ _ _ _ (by omega) (by omega) (S2.out.kept hb5) (S3.out.kept hb5)).mono ?_
  rintro e y6 ⟨v6, rfl, hset6, hb6⟩
  have D6 := btrans D5 hb6
  have SET6 := hid hset6
  have S1' := hid (S1.out.kept (btrans hb5 hb6))
  clear hset6 S1 S2 S3 SET4
  go_wp2_with fail
  refine (same_sets _ _ _ _ _ _ _ (by omega) S1'.out SET6.out (named_end m R)).mono ?_
  rintro e y7 ⟨rfl, hb7⟩
  have D7 := btrans D6 hb7
  go_wp2
  go_ret
  exact ⟨rfl, D7⟩

set_option maxRecDepth 100000 in
set_option maxHeartbeats 2000000 in
theorem lawA_none  (R : Nat → RD) (w : World) (hR : RulesAt w (.slice none 0 0) 0 R) (hF : ∀ i, i < 0 → RFits (R i)) :
    Calls Try.prog 3 #[.slice none 0 0, .int .i64 0, .bool false] w fun e w' => e = .returned (.bool true) ∧ Below w.heap.size w w' := by
  have HR := hid hR
  have HF := hid hF
  obtain ⟨_, _, _, hcap, hmax, _⟩ := hR
  clear hF
  go_enter Try.func3, Try.ntmps3
  go_wp2_with fail
  refine (zz5_any _ 0 R _ _ w HR.out HF.out).mono ?_
  rintro e w1 ⟨⟨bb, rfl, _⟩, B1⟩
  cases bb
  · go_wp2
    go_ret
    exact ⟨rfl, B1⟩
  have HR1 := hid (HR.out.kept B1)
  go_wp2_with fail
  refine (big_any _ 0 R _ HR1.out HF.out).mono ?_
  rintro e w2 ⟨⟨t', c', bb, rfl, hbig⟩, hb2⟩
  have B2 := btrans B1 hb2
  clear hb2 HR1 B1
  cases bb
  case true =>
    go_wp2
    go_ret
    exact ⟨rfl, B2⟩
  obtain ⟨_, hm, hp⟩ := hbig rfl
  have HP := hid hp
  clear hbig hp
  go_wp2_with fail
  refine (build_any _ 0 R _ (by omega) HP.out HF.out (HR.out.kept B2)).mono ?_
  rintro e x1 ⟨⟨pb1, sv1, rfl, hc1, hs1⟩, hb1⟩
  have C1 := btrans B2 hb1
  have HS1 := hid hs1
  have HC1 := hid hc1
  clear hs1 hc1
  go_wp2_with fail
  refine (shared_any pb1 sv1 0 R _ (by omega) HP.out HC1.out HS1.out).mono ?_
  rintro e y1 ⟨v1, rfl, hset1, hb1'⟩
  have D1 := btrans C1 hb1'
  have SET1 := hid hset1
  clear hset1 C1 HS1 HC1
  go_wp2_with fail
  refine (build_any _ 0 R _ (by omega) (fun i hi => HP.out i (by omega)) (fun i hi => HF.out i (by omega)) (HR.out.kept D1)).mono ?_
  rintro e x2 ⟨⟨pb2, sv2, rfl, hc2, hs2⟩, hb2⟩
  have C2 := btrans D1 hb2
  have HS2 := hid hs2
  have HC2 := hid hc2
  clear hs2 hc2
  go_wp2_with fail
  refine (shared_any pb2 sv2 0 R _ (by omega) (fun i hi => HP.out i (by omega)) HC2.out HS2.out).mono ?_
  rintro e y2 ⟨v2, rfl, hset2, hb2'⟩
  have D2 := btrans C2 hb2'
  have SET2 := hid hset2
  clear hset2 C2 HS2 HC2
  go_wp2_with fail
  refine (build_any _ 0 (fun i => R (0 + i)) _ (by omega) (fun i hi => HP.out (0 + i) (by omega)) (fun i hi => HF.out (0 + i) (by omega)) (rules_none _ _ _)).mono ?_
  rintro e x3 ⟨⟨pb3, sv3, rfl, hc3, hs3⟩, hb3⟩
  have C3 := btrans D2 hb3
  have HS3 := hid hs3
  have HC3 := hid hc3
  clear hs3 hc3
  go_wp2_with fail
  refine (shared_any pb3 sv3 0 (fun i => R (0 + i)) _ (by omega) (fun i hi => HP.out (0 + i) (by omega)) HC3.out HS3.out).mono ?_
  rintro e y3 ⟨v3, rfl, hset3, hb3'⟩
  have D3 := btrans C3 hb3'
  have SET3 := hid hset3
  clear hset3 C3 HS3 HC3
  go_wp2_with fail
  refine (named_any _ 0 R _ (by omega) HP.out (HR.out.kept D3)).mono ?_
  rintro e y4 ⟨v4, rfl, hset4, hb4⟩
  have D4 := btrans D3 hb4
  have SET4 := hid hset4
  have S1 := hid (SET1.out.kept (btrans (btrans (btrans hb2 hb2') (btrans hb3 hb3')) hb4))
  have S2 := hid (SET2.out.kept (btrans (btrans hb3 hb3') hb4))
  have S3 := hid (SET3.out.kept hb4)
  have hr1 := room_le (show 0 ≤ 65537 by omega)
  have hr2 := room_le (show 0 ≤ 65537 by omega)
  have hr3 := room_le (show 0 ≤ 65537 by omega)
  clear hset4 SET1 SET2 SET3 hb1 hb1' hb2 hb2' hb3 hb3' hb4
  go_wp2_with fail
  refine (same_sets _ _ _ _ _ _ _ (by omega) S1.out SET4.out (fun _ => Iff.rfl)).mono ?_
  rintro e y5 ⟨rfl, hb5⟩
  have D5 := btrans D4 hb5
  go_wp2_with fail
  refine (merge_any _ _ _ _ _ _ _ (by omega) (by omega) (S2.out.kept hb5) (S3.out.kept hb5)).mono ?_
  rintro e y6 ⟨v6, rfl, hset6, hb6⟩
  have D6 := btrans D5 hb6
  have SET6 := hid hset6
  have S1' := hid (S1.out.kept (btrans hb5 hb6))
  clear hset6 S1 S2 S3 SET4
  go_wp2_with fail
  refine (same_sets _ _ _ _ _ _ _ (by omega) S1'.out SET6.out (named_end 0 R)).mono ?_
  rintro e y7 ⟨rfl, hb7⟩
  have D7 := btrans D6 hb7
  go_wp2
  go_ret
  exact ⟨rfl, D7⟩

end Go.Proofs.Qxb6626510a
