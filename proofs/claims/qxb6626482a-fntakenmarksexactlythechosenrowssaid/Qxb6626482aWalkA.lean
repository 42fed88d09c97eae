/- The walk of the first law, in its three ways. -/
import Derived.Test.Qxb6626482aMakes2
import Derived.Test.Qxb6626482aTaken2
import Derived.Test.Qxb6626482aSize
namespace Go.Proofs.Qxb6626482a
open Go.RowKit

set_option maxHeartbeats 1000000 in
theorem lawA_lone (pa : Option Addr) (pc : Nat) (x : Nat → Int) (v : Value) (m : Nat) (L : Nat → Nat) (X : Nat → Nat → Int) (r : Int) (tv : Value) (tn : Nat) (B : Nat → Bool) (w : World)
    (hpx : Fits 1 (fun _ => 1) (fun _ => x)) (hF : Fits m L X) (htn : tn ≤ 9223372036854775807) (hP : SymsAt w (.slice pa 1 pc) 1 x) (hR : RowsAt w v m L X) (hT : BoolsAt w tv tn B) :
    Calls Try.prog 3 #[.slice pa 1 pc, v, .int .i64 r, tv] w fun e w' => e = .returned (.bool true) ∧ Below w.heap.size w w' := by
  have HP : Hid (SymsAt w (.slice pa 1 pc) 1 x) := hP
  have HR : Hid (RowsAt w v m L X) := hR
  have HT : Hid (BoolsAt w tv tn B) := hT
  obtain ⟨ta, tc, rfl, _⟩ := hT
  obtain ⟨va, vc, rfl, _⟩ := hR
  have hpn := hpx.hL 0 (by omega)
  clear hP
  go_enter Try.func3, Try.ntmps3
  go_wp2_with fail
  refine (zz5_any pa ta 1 pc tn tc _ r m L X w hpn htn HR.out hF).mono ?_
  rintro e w' ⟨⟨b, rfl, _⟩, hw⟩
  obtain rfl := hw.symm
  cases b
  · go_wp2
    go_ret
    exact ⟨rfl, Below.refl _ _⟩
  go_wp2_with fail
  refine (sizeFits_any pa ta 1 pc tn tc _ m L X _ hpn htn HR.out hF).mono ?_
  rintro e w' ⟨⟨b, rfl, hsz⟩, hw⟩
  obtain rfl := hw.symm
  cases b
  · go_wp2
    go_ret
    exact ⟨rfl, Below.refl _ _⟩
  obtain ⟨s1, s2, s3, s4⟩ := hsz rfl
  have HS4 : Hid (∀ i, i < m → L i ≤ 1048576) := s4
  clear hsz s4
  go_wp2_with fail
  refine (allBelow_any (.slice none 0 0) 0 L X (tn : Int) _ (RowsAt.none w L X) ⟨by omega, fun i h => absurd h (Nat.not_lt_zero _), fun i j h => absurd h (Nat.not_lt_zero _)⟩).mono ?_
  rintro e w' ⟨⟨b, rfl, hlow⟩, hw⟩
  obtain rfl := hw.symm
  cases b
  · go_wp2
    go_ret
    exact ⟨rfl, (Below.refl _ _)⟩
  have HL := hid (hlow rfl)
  clear hlow
  go_wp2_with fail
  refine (toSyms_any _ 1 x _ (by omega) (HP.out.kept (Below.refl _ _))).mono ?_
  rintro e w1 ⟨v8, rfl, ho8, hb8⟩
  have HB8 : Below w.heap.size w w1 := (Below.refl _ _).trans (hb8.mono (Nat.le_refl _))
  have H8 : Hid (SymsAt w1 v8 1 x) := ho8.syms
  obtain ⟨a8, c8, rfl, _⟩ := ho8
  go_wp2_with fail
  refine (toRows_any _ m L X _ (by omega) HS4.out (HR.out.kept HB8)).mono ?_
  rintro e w2 ⟨v9, rfl, hr9, hb9⟩
  have HB9 : Below w.heap.size w w2 := HB8.trans (hb9.mono HB8.size)
  have H9 : Hid (RowsAt w2 v9 m L X) := hr9
  have H8' := hid (H8.out.kept hb9)
  obtain ⟨a9, c9, rfl, _⟩ := hr9
  clear H8
  go_wp2_with fail
  obtain ⟨w3, hw3⟩ : ∃ w3, w3 = w2.alloc (.cells #[.slice a8 1 c8, .slice a9 m c9] 34) := ⟨_, rfl⟩
  rw [← hw3]
  have hba : Below w2.heap.size w2 w3 := by rw [hw3]; exact (Below.refl _ _).alloc (Nat.le_refl _) _
  have e0 : w3.cell? ⟨w2.heap.size, 0, none⟩ = some (.slice a8 1 c8) := by rw [hw3]; exact World.cell?_alloc_at _ _ _ _ rfl
  have e1 : w3.cell? ⟨w2.heap.size, 1, none⟩ = some (.slice a9 m c9) := by rw [hw3]; exact World.cell?_alloc_at _ _ _ _ rfl
  have H8'' := H8'.out.kept hba
  have H9' := H9.out.kept hba
  have HB3 : Below w.heap.size w w3 := HB9.trans (hba.mono HB9.size)
  clear hw3 H9 H8'
  refine (cloneBools_any _ tn B _ s2 (HT.out.kept HB3)).mono ?_
  rintro e w4 ⟨v10, rfl, ho10, hb10⟩
  have H10 : Hid (OwnBools w4 v10 tn w3.heap.size B) := ho10
  obtain ⟨a10, c10, rfl, _⟩ := ho10
  have E0 := hid (e0)
  have E1 := hid (e1)
  have E8 := hid (H8'')
  have E9 := hid (H9')
  clear e0 e1 H8'' H9'
  go_wp2_with fail
  refine (taken_lone w2.heap.size _ _ x _ tn w3.heap.size B w3 w4 hb10 (Nat.le_refl _) E0.out E8.out H10.out).mono ?_
  rintro e w5 ⟨rfl, hf, hb11⟩
  have HF' := hid (hf)
  have HB5 : Below w.heap.size w w5 := HB3.trans (hb11.mono HB3.size)
  clear hf
  go_wp2_with fail
  refine (markedExactly_yes _ (.slice none 0 0) tn (fun _ => false) 0 L X w5 htn HF'.out.bools ((RowsAt.none w L X).kept (HB5)) ⟨by omega, fun i h => absurd h (Nat.not_lt_zero _), fun i j h => absurd h (Nat.not_lt_zero _)⟩ HL.out (fun i _ => ⟨fun h => (by cases h), fun ⟨k, j, h, _⟩ => absurd h (Nat.not_lt_zero _)⟩)).mono ?_
  rintro e w6 ⟨rfl, rfl⟩
  go_wp2
  go_ret
  exact ⟨rfl, HB5⟩

set_option maxHeartbeats 1000000 in
theorem lawA_rows (pa : Option Addr) (pn pc : Nat) (x : Nat → Int) (v : Value) (m : Nat) (L : Nat → Nat) (X : Nat → Nat → Int) (r : Int) (tv : Value) (tn : Nat) (B : Nat → Bool) (w : World)
    (hpx : Fits 1 (fun _ => pn) (fun _ => x)) (hF : Fits m L X) (htn : tn ≤ 9223372036854775807) (h1 : ((pn : Int) == 1) = false) (h2 : (r == 1) = false) (hP : SymsAt w (.slice pa pn pc) pn x) (hR : RowsAt w v m L X) (hT : BoolsAt w tv tn B) :
    Calls Try.prog 3 #[.slice pa pn pc, v, .int .i64 r, tv] w fun e w' => e = .returned (.bool true) ∧ Below w.heap.size w w' := by
  have HP : Hid (SymsAt w (.slice pa pn pc) pn x) := hP
  have HR : Hid (RowsAt w v m L X) := hR
  have HT : Hid (BoolsAt w tv tn B) := hT
  obtain ⟨ta, tc, rfl, _⟩ := hT
  obtain ⟨va, vc, rfl, _⟩ := hR
  have hpn := hpx.hL 0 (by omega)
  clear hP
  go_enter Try.func3, Try.ntmps3
  go_wp2_with fail
  refine (zz5_any pa ta pn pc tn tc _ r m L X w hpn htn HR.out hF).mono ?_
  rintro e w' ⟨⟨b, rfl, _⟩, hw⟩
  obtain rfl := hw.symm
  cases b
  · go_wp2
    go_ret
    exact ⟨rfl, Below.refl _ _⟩
  go_wp2_with fail
  refine (sizeFits_any pa ta pn pc tn tc _ m L X _ hpn htn HR.out hF).mono ?_
  rintro e w' ⟨⟨b, rfl, hsz⟩, hw⟩
  obtain rfl := hw.symm
  cases b
  · go_wp2
    go_ret
    exact ⟨rfl, Below.refl _ _⟩
  obtain ⟨s1, s2, s3, s4⟩ := hsz rfl
  have HS4 : Hid (∀ i, i < m → L i ≤ 1048576) := s4
  clear hsz s4
  go_wp2_with fail
  refine (allBelow_any _ m L X (tn : Int) _ HR.out hF).mono ?_
  rintro e w' ⟨⟨b, rfl, hlow⟩, hw⟩
  obtain rfl := hw.symm
  cases b
  · go_wp2
    go_ret
    exact ⟨rfl, (Below.refl _ _)⟩
  have HL := hid (hlow rfl)
  clear hlow
  go_wp2_with fail
  refine (toSyms_any _ pn x _ (by omega) (HP.out.kept (Below.refl _ _))).mono ?_
  rintro e w1 ⟨v8, rfl, ho8, hb8⟩
  have HB8 : Below w.heap.size w w1 := (Below.refl _ _).trans (hb8.mono (Nat.le_refl _))
  have H8 : Hid (SymsAt w1 v8 pn x) := ho8.syms
  obtain ⟨a8, c8, rfl, _⟩ := ho8
  go_wp2_with fail
  refine (toRows_any _ m L X _ (by omega) HS4.out (HR.out.kept HB8)).mono ?_
  rintro e w2 ⟨v9, rfl, hr9, hb9⟩
  have HB9 : Below w.heap.size w w2 := HB8.trans (hb9.mono HB8.size)
  have H9 : Hid (RowsAt w2 v9 m L X) := hr9
  have H8' := hid (H8.out.kept hb9)
  obtain ⟨a9, c9, rfl, _⟩ := hr9
  clear H8
  go_wp2_with fail
  obtain ⟨w3, hw3⟩ : ∃ w3, w3 = w2.alloc (.cells #[.slice a8 pn c8, .slice a9 m c9] 34) := ⟨_, rfl⟩
  rw [← hw3]
  have hba : Below w2.heap.size w2 w3 := by rw [hw3]; exact (Below.refl _ _).alloc (Nat.le_refl _) _
  have e0 : w3.cell? ⟨w2.heap.size, 0, none⟩ = some (.slice a8 pn c8) := by rw [hw3]; exact World.cell?_alloc_at _ _ _ _ rfl
  have e1 : w3.cell? ⟨w2.heap.size, 1, none⟩ = some (.slice a9 m c9) := by rw [hw3]; exact World.cell?_alloc_at _ _ _ _ rfl
  have H8'' := H8'.out.kept hba
  have H9' := H9.out.kept hba
  have HB3 : Below w.heap.size w w3 := HB9.trans (hba.mono HB9.size)
  clear hw3 H9 H8'
  refine (cloneBools_any _ tn B _ s2 (HT.out.kept HB3)).mono ?_
  rintro e w4 ⟨v10, rfl, ho10, hb10⟩
  have H10 : Hid (OwnBools w4 v10 tn w3.heap.size B) := ho10
  obtain ⟨a10, c10, rfl, _⟩ := ho10
  have E0 := hid (e0)
  have E1 := hid (e1)
  have E8 := hid (H8'')
  have E9 := hid (H9')
  clear e0 e1 H8'' H9'
  go_wp2_with fail
  refine (taken_rows w2.heap.size pn _ _ _ x r tn w3.heap.size B m L X w3 w4 hb10 (Nat.le_refl _) htn h1 h2 E0.out E1.out E8.out E9.out hF HL.out H10.out).mono ?_
  rintro e w5 ⟨rfl, ⟨f, hf, hfx⟩, hb11⟩
  have HF' := hid (hf)
  have HX := hid (hfx)
  have HB5 : Below w.heap.size w w5 := HB3.trans (hb11.mono HB3.size)
  clear hf hfx
  go_wp2_with fail
  refine (markedExactly_yes _ _ tn f m L X w5 htn HF'.out.bools (HR.out.kept (HB5)) hF HL.out HX.out).mono ?_
  rintro e w6 ⟨rfl, rfl⟩
  go_wp2
  go_ret
  exact ⟨rfl, HB5⟩

set_option maxHeartbeats 1000000 in
theorem lawA_principal (pa : Option Addr) (pn pc : Nat) (x : Nat → Int) (v : Value) (m : Nat) (L : Nat → Nat) (X : Nat → Nat → Int) (tv : Value) (tn : Nat) (B : Nat → Bool) (w : World)
    (hpx : Fits 1 (fun _ => pn) (fun _ => x)) (hF : Fits m L X) (htn : tn ≤ 9223372036854775807) (h1 : ((pn : Int) == 1) = false) (hP : SymsAt w (.slice pa pn pc) pn x) (hR : RowsAt w v m L X) (hT : BoolsAt w tv tn B) :
    Calls Try.prog 3 #[.slice pa pn pc, v, .int .i64 1, tv] w fun e w' => e = .returned (.bool true) ∧ Below w.heap.size w w' := by
  have HP : Hid (SymsAt w (.slice pa pn pc) pn x) := hP
  have HR : Hid (RowsAt w v m L X) := hR
  have HT : Hid (BoolsAt w tv tn B) := hT
  obtain ⟨ta, tc, rfl, _⟩ := hT
  obtain ⟨va, vc, rfl, _⟩ := hR
  have hpn := hpx.hL 0 (by omega)
  clear hP
  go_enter Try.func3, Try.ntmps3
  go_wp2_with fail
  refine (zz5_any pa ta pn pc tn tc _ 1 m L X w hpn htn HR.out hF).mono ?_
  rintro e w' ⟨⟨b, rfl, _⟩, hw⟩
  obtain rfl := hw.symm
  cases b
  · go_wp2
    go_ret
    exact ⟨rfl, Below.refl _ _⟩
  go_wp2_with fail
  refine (sizeFits_any pa ta pn pc tn tc _ m L X _ hpn htn HR.out hF).mono ?_
  rintro e w' ⟨⟨b, rfl, hsz⟩, hw⟩
  obtain rfl := hw.symm
  cases b
  · go_wp2
    go_ret
    exact ⟨rfl, Below.refl _ _⟩
  obtain ⟨s1, s2, s3, s4⟩ := hsz rfl
  have HS4 : Hid (∀ i, i < m → L i ≤ 1048576) := s4
  clear hsz s4
  go_wp2_with fail
  refine (allBelow_any (.slice (some ⟨w.heap.size, 0, none⟩) 1 1) 1 (fun _ => pn) (fun _ => x) (tn : Int) _ (RowsAt.one HP.out 22) hpx).mono ?_
  rintro e w' ⟨⟨b, rfl, hlow⟩, hw⟩
  obtain rfl := hw.symm
  cases b
  · go_wp2
    go_ret
    exact ⟨rfl, ((Below.refl _ _).alloc (Nat.le_refl _) _)⟩
  have HL := hid (hlow rfl)
  clear hlow
  go_wp2_with fail
  refine (toSyms_any _ pn x _ (by omega) (HP.out.kept ((Below.refl _ _).alloc (Nat.le_refl _) _))).mono ?_
  rintro e w1 ⟨v8, rfl, ho8, hb8⟩
  have HC8 := hb8
  have HB8 : Below w.heap.size w w1 := ((Below.refl _ _).alloc (Nat.le_refl _) _).trans (hb8.mono (by simp))
  have H8 : Hid (SymsAt w1 v8 pn x) := ho8.syms
  obtain ⟨a8, c8, rfl, _⟩ := ho8
  go_wp2_with fail
  refine (toRows_any _ m L X _ (by omega) HS4.out (HR.out.kept HB8)).mono ?_
  rintro e w2 ⟨v9, rfl, hr9, hb9⟩
  have HB9 : Below w.heap.size w w2 := HB8.trans (hb9.mono HB8.size)
  have H9 : Hid (RowsAt w2 v9 m L X) := hr9
  have H8' := hid (H8.out.kept hb9)
  obtain ⟨a9, c9, rfl, _⟩ := hr9
  clear H8
  go_wp2_with fail
  obtain ⟨w3, hw3⟩ : ∃ w3, w3 = w2.alloc (.cells #[.slice a8 pn c8, .slice a9 m c9] 34) := ⟨_, rfl⟩
  rw [← hw3]
  have hba : Below w2.heap.size w2 w3 := by rw [hw3]; exact (Below.refl _ _).alloc (Nat.le_refl _) _
  have e0 : w3.cell? ⟨w2.heap.size, 0, none⟩ = some (.slice a8 pn c8) := by rw [hw3]; exact World.cell?_alloc_at _ _ _ _ rfl
  have e1 : w3.cell? ⟨w2.heap.size, 1, none⟩ = some (.slice a9 m c9) := by rw [hw3]; exact World.cell?_alloc_at _ _ _ _ rfl
  have H8'' := H8'.out.kept hba
  have H9' := H9.out.kept hba
  have HB3 : Below w.heap.size w w3 := HB9.trans (hba.mono HB9.size)
  clear hw3 H9 H8'
  refine (cloneBools_any _ tn B _ s2 (HT.out.kept HB3)).mono ?_
  rintro e w4 ⟨v10, rfl, ho10, hb10⟩
  have H10 : Hid (OwnBools w4 v10 tn w3.heap.size B) := ho10
  obtain ⟨a10, c10, rfl, _⟩ := ho10
  have E0 := hid (e0)
  have E1 := hid (e1)
  have E8 := hid (H8'')
  have E9 := hid (H9')
  clear e0 e1 H8'' H9'
  go_wp2_with fail
  refine (taken_principal w2.heap.size pn _ _ _ x tn w3.heap.size B m L X w3 w4 hb10 (Nat.le_refl _) htn h1 E0.out E1.out E8.out E9.out hpx (fun j hj => HL.out 0 j (by omega) hj) H10.out).mono ?_
  rintro e w5 ⟨rfl, ⟨f, hf, hfx⟩, hb11⟩
  have HF' := hid (hf)
  have HX := hid (hfx)
  have HB1X := (HC8.trans ((hb9.trans (hba.mono hb9.size |>.trans (hb11.mono (Nat.le_trans hb9.size hba.size)))).mono HC8.size))
  have HB5 : Below w.heap.size w w5 := HB3.trans (hb11.mono HB3.size)
  clear hf hfx
  go_wp2_with fail
  refine (markedExactly_yes _ (.slice (some ⟨w.heap.size, 0, none⟩) 1 1) tn f 1 (fun _ => pn) (fun _ => x) w5 htn HF'.out.bools ((RowsAt.one HP.out 22).kept (HB1X)) hpx HL.out HX.out).mono ?_
  rintro e w6 ⟨rfl, rfl⟩
  go_wp2
  go_ret
  exact ⟨rfl, HB5⟩

end Go.Proofs.Qxb6626482a
