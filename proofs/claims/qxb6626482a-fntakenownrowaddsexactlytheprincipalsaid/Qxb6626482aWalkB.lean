/- The walk of the second law, in its two ways. -/
import Derived.Test.Qxb6626482aIns
import Derived.Deep.QuietTactic
import Derived.BigQuiet
namespace Go.Proofs.Qxb6626482a
open Go.RowKit

theorem btrans {a b c : World} (h : Below a.heap.size a b) (k : Below b.heap.size b c) : Below a.heap.size a c := h.trans (k.mono h.size)

theorem or_of {f1 f2 f3 : Bool} {p q r : Prop} (h1 : f1 = true ↔ p) (h2 : f2 = true ↔ q) (h3 : f3 = true ↔ r) (h : r ↔ p ∨ q) : f3 = (f1 || f2) := by
  rw [Bool.eq_iff_iff, Bool.or_eq_true, h1, h2, h3, h]

set_option maxHeartbeats 1000000 in
set_option maxRecDepth 100000 in
/-- the place lies outside: true at once -/
theorem lawB_out (pa : Option Addr) (pn pc : Nat) (x : Nat → Int) (v : Value) (m : Nat) (L : Nat → Nat) (X : Nat → Nat → Int) (pos : Int) (tv : Value) (tn : Nat) (B : Nat → Bool) (w : World)
    (hpx : Fits 1 (fun _ => pn) (fun _ => x)) (hF : Fits m L X) (htn : tn ≤ 9223372036854775807) (hm : m ≤ 9223372036854775807) (ho : pos < 0 ∨ (m : Int) < pos) (hP : SymsAt w (.slice pa pn pc) pn x) (hR : RowsAt w v m L X) (hT : BoolsAt w tv tn B) :
    Calls Try.prog 4 #[.slice pa pn pc, v, .int .i64 pos, tv] w fun e w' => e = .returned (.bool true) ∧ Below w.heap.size w w' := by
  have HP := hid hP
  have HR := hid hR
  have HT := hid hT
  obtain ⟨ta, tc, rfl, _⟩ := hT
  obtain ⟨va, vc, rfl, _⟩ := hR
  have hpn := hpx.hL 0 (by omega)
  clear hP
  go_enter Try.func4, Try.ntmps4
  go_wp2_with fail
  refine (zz13_any pa ta pn pc tn tc _ _ m L X w hpn htn HR.out hF).mono ?_
  rintro e w' ⟨⟨b, rfl, _⟩, hw⟩
  obtain rfl := hw.symm
  clear hw
  cases b
  · go_wp2
    go_ret
    exact ⟨rfl, Below.refl _ _⟩
  go_wp2_with fail
  refine (sizeFits_any pa ta pn pc tn tc _ m L X _ hpn htn HR.out hF).mono ?_
  rintro e w' ⟨⟨b, rfl, hsz⟩, hw⟩
  obtain rfl := hw.symm
  clear hw
  cases b
  · go_wp2
    go_ret
    exact ⟨rfl, Below.refl _ _⟩
  obtain ⟨s1, s2, s3, s4⟩ := hsz rfl
  have HS4 := hid s4
  clear hsz s4
  by_cases h1 : pos < 0
  · go_wp2
    go_ret
    exact ⟨rfl, Below.refl _ _⟩
  · have h2 : (m : Int) < pos := by omega
    clear ho
    go_wp2
    go_ret
    exact ⟨rfl, Below.refl _ _⟩

set_option maxHeartbeats 2000000 in
set_option maxRecDepth 100000 in
/-- a principal vector of length one -/
theorem lawB_lone (pa : Option Addr) (pc : Nat) (x : Nat → Int) (v : Value) (m : Nat) (L : Nat → Nat) (X : Nat → Nat → Int) (pos : Nat) (tv : Value) (tn : Nat) (B : Nat → Bool) (w : World)
    (hpx : Fits 1 (fun _ => 1) (fun _ => x)) (hF : Fits m L X) (htn : tn ≤ 9223372036854775807) (hpos : pos ≤ m) (hP : SymsAt w (.slice pa 1 pc) 1 x) (hR : RowsAt w v m L X) (hT : BoolsAt w tv tn B) :
    Calls Try.prog 4 #[.slice pa 1 pc, v, .int .i64 pos, tv] w fun e w' => e = .returned (.bool true) ∧ Below w.heap.size w w' := by
  have HP := hid hP
  have HR := hid hR
  have HT := hid hT
  obtain ⟨ta, tc, rfl, _⟩ := hT
  obtain ⟨va, vc, vb, vo, R, rfl, hva, hRR⟩ := rows_choose hR
  have hpn := hpx.hL 0 (by omega)
  clear hP
  go_enter Try.func4, Try.ntmps4
  go_wp2_with fail
  refine (zz13_any pa ta 1 pc tn tc _ _ m L X w hpn htn HR.out hF).mono ?_
  rintro e w' ⟨⟨b, rfl, _⟩, hw⟩
  obtain rfl := hw.symm
  clear hw
  cases b
  · go_wp2
    go_ret
    exact ⟨rfl, Below.refl _ _⟩
  go_wp2_with fail
  refine (sizeFits_any pa ta 1 pc tn tc _ m L X _ hpn htn HR.out hF).mono ?_
  rintro e w' ⟨⟨b, rfl, hsz⟩, hw⟩
  obtain rfl := hw.symm
  clear hw
  cases b
  · go_wp2
    go_ret
    exact ⟨rfl, Below.refl _ _⟩
  obtain ⟨s1, s2, s3, s4⟩ := hsz rfl
  have HS4 := hid s4
  clear hsz s4
  obtain ⟨i0, hi, hz0, hz1, hz2⟩ := info_parts Try.info22
  have HRR := hid hRR
  have HVA := hid hva
  clear hRR hva
  have HB0 : Below w.heap.size w w := Below.refl _ _
  go_wp2_with (at_make; refine wpList_make_own _ rfl _ _ 23 rfl w.heap.size 22 i0 (.slice none 0 0) 1 Try.underlying23 hi hz0 hz1 _ _ _ (m + 1) rfl rfl (by omega) ?b2 ?b3 HB0.size ?_)
  case b2 => rw [hz2]; omega
  case b3 => unfold maxLen; omega
  intro wm hown0 hgrow0
  have HBm : Below w.heap.size w wm := HB0.grown hgrow0 HB0.size (fun k h => by cases h)
  clear hgrow0
  have hGw := HB0.size
  go_wp2
  go_loopw [9, 10] (fun o i wr => ∃ k : Nat, k ≤ pos ∧ i = .int .i64 k ∧ o = .slice (some ⟨w.heap.size, 0, none⟩) k (m + 1) ∧ wr.ownsRow w.heap.size 22 1 (.slice (some ⟨w.heap.size, 0, none⟩) k (m + 1)) k (vals R (.slice pa 1 pc) pos k) ∧ Below w.heap.size w wr) (fun _ i _ => pos - (intOf i).toNat)
  case atStart => exact ⟨0, Nat.zero_le _, rfl, rfl, hown0, HBm⟩
  case round =>
    obtain ⟨k, hk, rfl, rfl, hown, hbel⟩ := hrel
    clear hown0 HBm
    by_cases hlt : k < pos
    · obtain rfl := HVA.out (by omega)
      obtain ⟨r1, ra, rc, r2, _⟩ := HRR.out k (by omega)
      have c1 := cell_kept hbel r1
      have HI := hid (ins_lt (P := Value.slice pa 1 pc) hlt |>.trans r2)
      rw [r2] at c1
      clear r1 r2
      go_wp2_with (at_builtin; refine wpList_append_fits _ rfl (.tmp 63) (.tmp 68) 23 rfl w.heap.size 22 i0 1 Try.underlying23 hi hz1 w.heap.size k (m + 1) _ rfl (hown.alloc _) ⟨wr.heap.size, 0, none⟩ 1 1 [.slice ra (L k) rc] rfl rfl (cell_one_new _ _ _) (by intro u hu; simp at hu; subst hu; rfl) (by omega) ?_; intro w1 hown1 hgrow1)
      go_roundw
      case rel => exact ⟨k + 1, by omega, by go_num, rfl, by rw [vals_snoc _ _ _ _ _ HI.out] at hown1; exact hown1, (hbel.alloc hbel.size _).grown hgrow1 (by have := hbel.size; simp; omega) (fun k hk => by cases hk; exact hGw)⟩
      case measure => simp [intOf]; omega
    · have hke : k = pos := by omega
      subst hke
      go_wp2_with (at_builtin; refine wpList_append_fits _ rfl (.tmp 70) (.tmp 72) 23 rfl w.heap.size 22 i0 1 Try.underlying23 hi hz1 w.heap.size k (m + 1) _ rfl (hown.alloc _) ⟨wr.heap.size, 0, none⟩ 1 1 [.slice pa 1 pc] rfl rfl (cell_one_new _ _ _) (by intro u hu; simp at hu; subst hu; rfl) (by omega) ?_; intro w1 hown1 hgrow1)
      rw [vals_snoc _ _ _ _ _ ins_eq] at hown1
      have HB1 : Below w.heap.size w w1 := (hbel.alloc hbel.size _).grown hgrow1 (by have := hbel.size; simp; omega) (fun k hk => by cases hk; exact hGw)
      clear hown hbel hgrow1
      go_loopw [9, 11] (fun o i wr => ∃ q : Nat, k ≤ q ∧ q ≤ m ∧ i = .int .i64 q ∧ o = .slice (some ⟨w.heap.size, 0, none⟩) (q + 1) (m + 1) ∧ wr.ownsRow w.heap.size 22 1 (.slice (some ⟨w.heap.size, 0, none⟩) (q + 1) (m + 1)) (q + 1) (vals R (.slice pa 1 pc) k (q + 1)) ∧ Below w.heap.size w wr) (fun _ i _ => m - (intOf i).toNat)
      case atStart => exact ⟨k, Nat.le_refl _, hpos, rfl, rfl, hown1, HB1⟩
      case round =>
        obtain ⟨q, hq1, hq2, rfl, rfl, hown, hbel⟩ := hrel
        clear hown1 HB1
        by_cases hlt2 : q < m
        · obtain rfl := HVA.out (by omega)
          obtain ⟨r1, ra, rc, r2, _⟩ := HRR.out q hlt2
          have c1 := cell_kept hbel r1
          have HI := hid (ins_gt (P := Value.slice pa 1 pc) hq1 |>.trans r2)
          rw [r2] at c1
          clear r1 r2
          go_wp2_with (at_builtin; refine wpList_append_fits _ rfl (.tmp 81) (.tmp 86) 23 rfl w.heap.size 22 i0 1 Try.underlying23 hi hz1 w.heap.size (q + 1) (m + 1) _ rfl (hown.alloc _) ⟨wr.heap.size, 0, none⟩ 1 1 [.slice ra (L q) rc] rfl rfl (cell_one_new _ _ _) (by intro u hu; simp at hu; subst hu; rfl) (by omega) ?_; intro w1 hown1 hgrow1)
          go_roundw
          case rel => exact ⟨q + 1, by omega, by omega, by go_num, rfl, by rw [vals_snoc _ _ _ _ _ HI.out] at hown1; exact hown1, (hbel.alloc hbel.size _).grown hgrow1 (by have := hbel.size; simp; omega) (fun k hk => by cases hk; exact hGw)⟩
          case measure => simp [intOf]; omega
        · have hqe : m = q := by omega
          subst hqe
          have HO := hid (rows_ins hpos hown (fun i hi => (HRR.out i hi).2.kept hbel) (HP.out.kept hbel))
          clear hown
          go_wp2_with fail
          refine (toSyms_any _ 1 x _ (by omega) (HP.out.kept hbel)).mono ?_
          rintro e u1 ⟨v8, rfl, ho8, hb8⟩
          have B1 := btrans hbel hb8
          have H8 := hid ho8.syms
          have O1 := hid (HO.out.kept hb8)
          obtain ⟨a8, c8, rfl, _⟩ := ho8
          clear HO hbel
          go_wp2_with fail
          refine (toRows_any _ m L X _ (by omega) HS4.out (HR.out.kept B1)).mono ?_
          rintro e u2 ⟨v9, rfl, hr9, hb9⟩
          have B2 := btrans B1 hb9
          have H9 := hid hr9
          have H8' := hid (H8.out.kept hb9)
          have O2 := hid (O1.out.kept hb9)
          obtain ⟨a9, c9, rfl, _⟩ := hr9
          clear H8 O1 hb8 hb9 B1
          go_wp2_with fail
          obtain ⟨u3, hu3⟩ : ∃ u3, u3 = u2.alloc (.cells #[.slice a8 1 c8, .slice a9 m c9] 34) := ⟨_, rfl⟩
          rw [← hu3]
          have hba : Below u2.heap.size u2 u3 := by rw [hu3]; exact (Below.refl _ _).alloc (Nat.le_refl _) _
          have E0 := hid (show u3.cell? ⟨u2.heap.size, 0, none⟩ = some (.slice a8 1 c8) by rw [hu3]; exact World.cell?_alloc_at _ _ _ _ rfl)
          have E1 := hid (show u3.cell? ⟨u2.heap.size, 1, none⟩ = some (.slice a9 m c9) by rw [hu3]; exact World.cell?_alloc_at _ _ _ _ rfl)
          have S8 := hid (H8'.out.kept hba)
          have R9 := hid (H9.out.kept hba)
          have O3 := hid (O2.out.kept hba)
          have B3 := btrans B2 hba
          clear hu3 H9 H8' O2 hba B2
          refine (toSyms_any _ 1 x _ (by omega) (HP.out.kept B3)).mono ?_
          rintro e u4 ⟨v8', rfl, ho8, hb4⟩
          have B4 := btrans B3 hb4
          have H8 := hid ho8.syms
          have O4 := hid (O3.out.kept hb4)
          obtain ⟨a8', c8', rfl, _⟩ := ho8
          clear O3 B3
          go_wp2_with fail
          refine (toRows_any _ (m + 1) (ins L 1 k) (ins X x k) _ (by omega) (ins_all (X := X) (x := x) (q := fun l _ => l ≤ 1048576) hpos HS4.out (by omega)) O4.out).mono ?_
          rintro e u5 ⟨v9', rfl, hr9, hb5⟩
          have K5 := btrans hb4 hb5
          have B5 := btrans B4 hb5
          have H9 := hid hr9
          have H8' := hid (H8.out.kept hb5)
          obtain ⟨a9', c9', rfl, _⟩ := hr9
          clear H8 O4 hb4 hb5 B4
          go_wp2_with fail
          obtain ⟨u6, hu6⟩ : ∃ u6, u6 = u5.alloc (.cells #[.slice a8' 1 c8', .slice a9' (m + 1) c9'] 34) := ⟨_, rfl⟩
          rw [← hu6]
          have hba : Below u5.heap.size u5 u6 := by rw [hu6]; exact (Below.refl _ _).alloc (Nat.le_refl _) _
          have F0 := hid (show u6.cell? ⟨u5.heap.size, 0, none⟩ = some (.slice a8' 1 c8') by rw [hu6]; exact World.cell?_alloc_at _ _ _ _ rfl)
          have F1 := hid (show u6.cell? ⟨u5.heap.size, 1, none⟩ = some (.slice a9' (m + 1) c9') by rw [hu6]; exact World.cell?_alloc_at _ _ _ _ rfl)
          have T8 := hid (H8'.out.kept hba)
          have T9 := hid (H9.out.kept hba)
          have K6 := btrans K5 hba
          have B6 := btrans B5 hba
          clear hu6 H9 H8' hba K5 B5
          refine (cloneBools_any _ tn B _ s2 (HT.out.kept B6)).mono ?_
          rintro e u7 ⟨g1, rfl, hg1, hb7⟩
          have G1 := hid hg1
          obtain ⟨ga1, gc1, rfl, _⟩ := hg1
          go_wp2_with fail
          refine (taken_r0 u2.heap.size 1 _ _ _ x tn u6.heap.size B m L X u6 u7 hb7 (Nat.le_refl _) htn (cell_kept K6 E0.out) (cell_kept K6 E1.out) (S8.out.kept K6) (R9.out.kept K6) hF (fun h => absurd rfl h) G1.out).mono ?_
          rintro e u8 ⟨rfl, ⟨f1, hf1, hx1⟩, hb8⟩
          have M1 := hid hf1
          have X1 := hid hx1
          have K8 := btrans K6 hb8
          have B8 := btrans B6 hb8
          have D8 := hb8
          clear hf1 hx1 hb7 G1 hb8
          go_wp2_with fail
          refine (cloneBools_any _ tn B _ s2 (HT.out.kept B8)).mono ?_
          rintro e u9 ⟨g2, rfl, hg2, hb9⟩
          have G2 := hid hg2
          obtain ⟨ga2, gc2, rfl, _⟩ := hg2
          go_wp2_with fail
          refine (taken_r1 u2.heap.size 1 _ _ _ x tn u8.heap.size B m L X u8 u9 hb9 (Nat.le_refl _) htn (cell_kept K8 E0.out) (cell_kept K8 E1.out) (S8.out.kept K8) (R9.out.kept K8) hpx (fun h => absurd rfl h) G2.out).mono ?_
          rintro e u10 ⟨rfl, ⟨f2, hf2, hx2⟩, hb10⟩
          have M2 := hid hf2
          have X2 := hid hx2
          have M1' := hid (M1.out.kept hb10)
          have B10 := btrans B8 hb10
          have D10 := btrans D8 hb10
          clear hf2 hx2 hb9 G2 hb10 M1 K8 B8 D8
          go_wp2_with fail
          refine (cloneBools_any _ tn B _ s2 (HT.out.kept B10)).mono ?_
          rintro e u11 ⟨g3, rfl, hg3, hb11⟩
          have G3 := hid hg3
          obtain ⟨ga3, gc3, rfl, _⟩ := hg3
          go_wp2_with fail
          refine (taken_r0 u5.heap.size 1 _ _ _ x tn u10.heap.size B (m + 1) (ins L 1 k) (ins X x k) u10 u11 hb11 (Nat.le_refl _) htn (cell_kept D10 F0.out) (cell_kept D10 F1.out) (T8.out.kept D10) (T9.out.kept D10) (fits_ins hpos s3 hF hpx) (fun h => absurd rfl h) G3.out).mono ?_
          rintro e u12 ⟨rfl, ⟨f3, hf3, hx3⟩, hb12⟩
          have M3 := hid hf3
          have X3 := hid hx3
          have M1 := hid (M1'.out.kept hb12)
          have M2' := hid (M2.out.kept hb12)
          have B12 := btrans B10 hb12
          clear hf3 hx3 hb11 G3 hb12 M1' M2 D10 B10 B6 K6 E0 E1 F0 F1 S8 R9 T8 T9
          go_wp2
          go_loopw [17] (fun i wr => ∃ q n' : Nat, q ≤ tn ∧ i = .int .i64 q ∧ wr = u12.drewN n') (fun i _ => tn - (intOf i).toNat)
          case atStart => exact ⟨0, 0, Nat.zero_le _, rfl, rfl⟩
          case round =>
            obtain ⟨q, n', hq, rfl, rfl⟩ := hrel
            by_cases hqt : q < tn
            · obtain ⟨b1, d1, e1, l1⟩ := M1.out
              obtain ⟨rfl, rfl⟩ : ga1 = b1 ∧ gc1 = d1 := by cases e1; exact ⟨rfl, rfl⟩
              obtain ⟨rfl, l1'⟩ := l1 (by omega)
              obtain ⟨b2, d2, e2, l2⟩ := M2'.out
              obtain ⟨rfl, rfl⟩ : ga2 = b2 ∧ gc2 = d2 := by cases e2; exact ⟨rfl, rfl⟩
              obtain ⟨rfl, l2'⟩ := l2 (by omega)
              obtain ⟨b3, d3, e3, l3⟩ := M3.out
              obtain ⟨rfl, rfl⟩ : ga3 = b3 ∧ gc3 = d3 := by cases e3; exact ⟨rfl, rfl⟩
              obtain ⟨rfl, l3'⟩ := l3 (by omega)
              have z1 := l1'.cell hqt
              have z2 := l2'.cell hqt
              have z3 := l3'.cell hqt
              have ho := or_of (X1.out q hqt) (X2.out q hqt) (X3.out q hqt) (by rw [occurs_ins hpos]; exact and_or_left)
              have hqz : (q : Int) < (tn : Int) := by omega
              rw [ho] at z3
              clear ho e1 e2 e3 l1 l2 l3 l1' l2' l3'
              cases h1 : f1 q
              · cases h2 : f2 q
                · rw [h1, h2] at z3
                  rw [h1] at z1
                  rw [h2] at z2
                  simp only [Bool.or_self] at z3
                  clear h1 h2
                  go_wp2
                  go_quiet (fail)
                  go_wp2
                  go_roundw
                  case rel => exact ⟨q + 1, _, by omega, by go_num, rfl⟩
                  case measure => simp [intOf]; omega
                · rw [h1, h2] at z3
                  rw [h1] at z1
                  rw [h2] at z2
                  simp only [Bool.or_true] at z3
                  clear h1 h2
                  go_wp2
                  go_quiet (fail)
                  go_wp2
                  go_roundw
                  case rel => exact ⟨q + 1, _, by omega, by go_num, rfl⟩
                  case measure => simp [intOf]; omega
              · rw [h1] at z3
                rw [h1] at z1
                simp only [Bool.true_or] at z3
                clear h1
                go_wp2
                go_quiet (fail)
                go_wp2
                go_roundw
                case rel => exact ⟨q + 1, _, by omega, by go_num, rfl⟩
                case measure => simp [intOf]; omega
            · go_wp2_with fail
              refine (markedExactly_yes _ (.slice none 0 0) tn f2 0 L X (u12.drewN n') htn (M2'.out.kept (below_drewN (Below.refl _ _) n')).bools (RowsAt.none _ L X) ⟨by omega, fun i h => absurd h (Nat.not_lt_zero _), fun i j h => absurd h (Nat.not_lt_zero _)⟩ (fun i j h => absurd h (Nat.not_lt_zero _))
                (fun i hi => (X2.out i hi).trans ⟨fun h => absurd rfl h.1, fun ⟨k, j, h, _⟩ => absurd h (Nat.not_lt_zero _)⟩)).mono ?_
              rintro e w6 ⟨rfl, rfl⟩
              go_wp2
              go_ret
              exact ⟨rfl, below_drewN B12 n'⟩

set_option maxHeartbeats 2000000 in
set_option maxRecDepth 100000 in
/-- any other -/
theorem lawB_many (pa : Option Addr) (pn pc : Nat) (x : Nat → Int) (v : Value) (m : Nat) (L : Nat → Nat) (X : Nat → Nat → Int) (pos : Nat) (tv : Value) (tn : Nat) (B : Nat → Bool) (w : World)
    (hpx : Fits 1 (fun _ => pn) (fun _ => x)) (hF : Fits m L X) (htn : tn ≤ 9223372036854775807) (h1 : ((pn : Int) == 1) = false) (hpos : pos ≤ m) (hP : SymsAt w (.slice pa pn pc) pn x) (hR : RowsAt w v m L X) (hT : BoolsAt w tv tn B) :
    Calls Try.prog 4 #[.slice pa pn pc, v, .int .i64 pos, tv] w fun e w' => e = .returned (.bool true) ∧ Below w.heap.size w w' := by
  have HP := hid hP
  have HR := hid hR
  have HT := hid hT
  obtain ⟨ta, tc, rfl, _⟩ := hT
  obtain ⟨va, vc, vb, vo, R, rfl, hva, hRR⟩ := rows_choose hR
  have hpn := hpx.hL 0 (by omega)
  clear hP
  go_enter Try.func4, Try.ntmps4
  go_wp2_with fail
  refine (zz13_any pa ta pn pc tn tc _ _ m L X w hpn htn HR.out hF).mono ?_
  rintro e w' ⟨⟨b, rfl, _⟩, hw⟩
  obtain rfl := hw.symm
  clear hw
  cases b
  · go_wp2
    go_ret
    exact ⟨rfl, Below.refl _ _⟩
  go_wp2_with fail
  refine (sizeFits_any pa ta pn pc tn tc _ m L X _ hpn htn HR.out hF).mono ?_
  rintro e w' ⟨⟨b, rfl, hsz⟩, hw⟩
  obtain rfl := hw.symm
  clear hw
  cases b
  · go_wp2
    go_ret
    exact ⟨rfl, Below.refl _ _⟩
  obtain ⟨s1, s2, s3, s4⟩ := hsz rfl
  have HS4 := hid s4
  clear hsz s4
  obtain ⟨i0, hi, hz0, hz1, hz2⟩ := info_parts Try.info22
  have HRR := hid hRR
  have HVA := hid hva
  clear hRR hva
  go_wp2_with fail
  refine (allBelow_any _ m L X tn _ HR.out hF).mono ?_
  rintro e w' ⟨⟨b, rfl, hlow⟩, hw⟩
  obtain rfl := hw.symm
  clear hw
  cases b
  · go_wp2
    go_ret
    exact ⟨rfl, Below.refl _ _⟩
  have HL1 := hid (hlow rfl)
  clear hlow
  go_wp2_with fail
  refine (allBelow_any (.slice (some ⟨w.heap.size, 0, none⟩) 1 1) 1 (fun _ => pn) (fun _ => x) tn _ (RowsAt.one HP.out 22) hpx).mono ?_
  rintro e w' ⟨⟨b, rfl, hlow⟩, hw⟩
  obtain rfl := hw.symm
  clear hw
  cases b
  · go_wp2
    go_ret
    exact ⟨rfl, (Below.refl _ _).alloc (Nat.le_refl _) _⟩
  have HL2 := hid (hlow rfl)
  clear hlow
  obtain ⟨W0, hW0⟩ : ∃ W0, W0 = w.alloc (.cells #[.slice pa pn pc] 22) := ⟨_, rfl⟩
  rw [← hW0]
  have HB0 : Below w.heap.size w W0 := by rw [hW0]; exact (Below.refl _ _).alloc (Nat.le_refl _) _
  clear hW0
  go_wp2_with (at_make; refine wpList_make_own _ rfl _ _ 23 rfl w.heap.size 22 i0 (.slice none 0 0) 1 Try.underlying23 hi hz0 hz1 _ _ _ (m + 1) rfl rfl (by omega) ?b2 ?b3 HB0.size ?_)
  case b2 => rw [hz2]; omega
  case b3 => unfold maxLen; omega
  intro wm hown0 hgrow0
  have HBm : Below w.heap.size w wm := HB0.grown hgrow0 HB0.size (fun k h => by cases h)
  clear hgrow0
  have hGw := HB0.size
  go_wp2
  go_loopw [9, 10] (fun o i wr => ∃ k : Nat, k ≤ pos ∧ i = .int .i64 k ∧ o = .slice (some ⟨W0.heap.size, 0, none⟩) k (m + 1) ∧ wr.ownsRow w.heap.size 22 1 (.slice (some ⟨W0.heap.size, 0, none⟩) k (m + 1)) k (vals R (.slice pa pn pc) pos k) ∧ Below w.heap.size w wr) (fun _ i _ => pos - (intOf i).toNat)
  case atStart => exact ⟨0, Nat.zero_le _, rfl, rfl, hown0, HBm⟩
  case round =>
    obtain ⟨k, hk, rfl, rfl, hown, hbel⟩ := hrel
    clear hown0 HBm
    by_cases hlt : k < pos
    · obtain rfl := HVA.out (by omega)
      obtain ⟨r1, ra, rc, r2, _⟩ := HRR.out k (by omega)
      have c1 := cell_kept hbel r1
      have HI := hid (ins_lt (P := Value.slice pa pn pc) hlt |>.trans r2)
      rw [r2] at c1
      clear r1 r2
      go_wp2_with (at_builtin; refine wpList_append_fits _ rfl (.tmp 63) (.tmp 68) 23 rfl w.heap.size 22 i0 1 Try.underlying23 hi hz1 W0.heap.size k (m + 1) _ rfl (hown.alloc _) ⟨wr.heap.size, 0, none⟩ 1 1 [.slice ra (L k) rc] rfl rfl (cell_one_new _ _ _) (by intro u hu; simp at hu; subst hu; rfl) (by omega) ?_; intro w1 hown1 hgrow1)
      go_roundw
      case rel => exact ⟨k + 1, by omega, by go_num, rfl, by rw [vals_snoc _ _ _ _ _ HI.out] at hown1; exact hown1, (hbel.alloc hbel.size _).grown hgrow1 (by have := hbel.size; simp; omega) (fun k hk => by cases hk; exact hGw)⟩
      case measure => simp [intOf]; omega
    · have hke : k = pos := by omega
      subst hke
      go_wp2_with (at_builtin; refine wpList_append_fits _ rfl (.tmp 70) (.tmp 72) 23 rfl w.heap.size 22 i0 1 Try.underlying23 hi hz1 W0.heap.size k (m + 1) _ rfl (hown.alloc _) ⟨wr.heap.size, 0, none⟩ 1 1 [.slice pa pn pc] rfl rfl (cell_one_new _ _ _) (by intro u hu; simp at hu; subst hu; rfl) (by omega) ?_; intro w1 hown1 hgrow1)
      rw [vals_snoc _ _ _ _ _ ins_eq] at hown1
      have HB1 : Below w.heap.size w w1 := (hbel.alloc hbel.size _).grown hgrow1 (by have := hbel.size; simp; omega) (fun k hk => by cases hk; exact hGw)
      clear hown hbel hgrow1
      go_loopw [9, 11] (fun o i wr => ∃ q : Nat, k ≤ q ∧ q ≤ m ∧ i = .int .i64 q ∧ o = .slice (some ⟨W0.heap.size, 0, none⟩) (q + 1) (m + 1) ∧ wr.ownsRow w.heap.size 22 1 (.slice (some ⟨W0.heap.size, 0, none⟩) (q + 1) (m + 1)) (q + 1) (vals R (.slice pa pn pc) k (q + 1)) ∧ Below w.heap.size w wr) (fun _ i _ => m - (intOf i).toNat)
      case atStart => exact ⟨k, Nat.le_refl _, hpos, rfl, rfl, hown1, HB1⟩
      case round =>
        obtain ⟨q, hq1, hq2, rfl, rfl, hown, hbel⟩ := hrel
        clear hown1 HB1
        by_cases hlt2 : q < m
        · obtain rfl := HVA.out (by omega)
          obtain ⟨r1, ra, rc, r2, _⟩ := HRR.out q hlt2
          have c1 := cell_kept hbel r1
          have HI := hid (ins_gt (P := Value.slice pa pn pc) hq1 |>.trans r2)
          rw [r2] at c1
          clear r1 r2
          go_wp2_with (at_builtin; refine wpList_append_fits _ rfl (.tmp 81) (.tmp 86) 23 rfl w.heap.size 22 i0 1 Try.underlying23 hi hz1 W0.heap.size (q + 1) (m + 1) _ rfl (hown.alloc _) ⟨wr.heap.size, 0, none⟩ 1 1 [.slice ra (L q) rc] rfl rfl (cell_one_new _ _ _) (by intro u hu; simp at hu; subst hu; rfl) (by omega) ?_; intro w1 hown1 hgrow1)
          go_roundw
          case rel => exact ⟨q + 1, by omega, by omega, by go_num, rfl, by rw [vals_snoc _ _ _ _ _ HI.out] at hown1; exact hown1, (hbel.alloc hbel.size _).grown hgrow1 (by have := hbel.size; simp; omega) (fun k hk => by cases hk; exact hGw)⟩
          case measure => simp [intOf]; omega
        · have hqe : m = q := by omega
          subst hqe
          have HO := hid (rows_ins hpos hown (fun i hi => (HRR.out i hi).2.kept hbel) (HP.out.kept hbel))
          clear hown
          go_wp2_with fail
          refine (toSyms_any _ pn x _ (by omega) (HP.out.kept hbel)).mono ?_
          rintro e u1 ⟨v8, rfl, ho8, hb8⟩
          have B1 := btrans hbel hb8
          have H8 := hid ho8.syms
          have O1 := hid (HO.out.kept hb8)
          obtain ⟨a8, c8, rfl, _⟩ := ho8
          clear HO hbel
          go_wp2_with fail
          refine (toRows_any _ m L X _ (by omega) HS4.out (HR.out.kept B1)).mono ?_
          rintro e u2 ⟨v9, rfl, hr9, hb9⟩
          have B2 := btrans B1 hb9
          have H9 := hid hr9
          have H8' := hid (H8.out.kept hb9)
          have O2 := hid (O1.out.kept hb9)
          obtain ⟨a9, c9, rfl, _⟩ := hr9
          clear H8 O1 hb8 hb9 B1
          go_wp2_with fail
          obtain ⟨u3, hu3⟩ : ∃ u3, u3 = u2.alloc (.cells #[.slice a8 pn c8, .slice a9 m c9] 34) := ⟨_, rfl⟩
          rw [← hu3]
          have hba : Below u2.heap.size u2 u3 := by rw [hu3]; exact (Below.refl _ _).alloc (Nat.le_refl _) _
          have E0 := hid (show u3.cell? ⟨u2.heap.size, 0, none⟩ = some (.slice a8 pn c8) by rw [hu3]; exact World.cell?_alloc_at _ _ _ _ rfl)
          have E1 := hid (show u3.cell? ⟨u2.heap.size, 1, none⟩ = some (.slice a9 m c9) by rw [hu3]; exact World.cell?_alloc_at _ _ _ _ rfl)
          have S8 := hid (H8'.out.kept hba)
          have R9 := hid (H9.out.kept hba)
          have O3 := hid (O2.out.kept hba)
          have B3 := btrans B2 hba
          clear hu3 H9 H8' O2 hba B2
          refine (toSyms_any _ pn x _ (by omega) (HP.out.kept B3)).mono ?_
          rintro e u4 ⟨v8', rfl, ho8, hb4⟩
          have B4 := btrans B3 hb4
          have H8 := hid ho8.syms
          have O4 := hid (O3.out.kept hb4)
          obtain ⟨a8', c8', rfl, _⟩ := ho8
          clear O3 B3
          go_wp2_with fail
          refine (toRows_any _ (m + 1) (ins L pn k) (ins X x k) _ (by omega) (ins_all (X := X) (x := x) (q := fun l _ => l ≤ 1048576) hpos HS4.out (by omega)) O4.out).mono ?_
          rintro e u5 ⟨v9', rfl, hr9, hb5⟩
          have K5 := btrans hb4 hb5
          have B5 := btrans B4 hb5
          have H9 := hid hr9
          have H8' := hid (H8.out.kept hb5)
          obtain ⟨a9', c9', rfl, _⟩ := hr9
          clear H8 O4 hb4 hb5 B4
          go_wp2_with fail
          obtain ⟨u6, hu6⟩ : ∃ u6, u6 = u5.alloc (.cells #[.slice a8' pn c8', .slice a9' (m + 1) c9'] 34) := ⟨_, rfl⟩
          rw [← hu6]
          have hba : Below u5.heap.size u5 u6 := by rw [hu6]; exact (Below.refl _ _).alloc (Nat.le_refl _) _
          have F0 := hid (show u6.cell? ⟨u5.heap.size, 0, none⟩ = some (.slice a8' pn c8') by rw [hu6]; exact World.cell?_alloc_at _ _ _ _ rfl)
          have F1 := hid (show u6.cell? ⟨u5.heap.size, 1, none⟩ = some (.slice a9' (m + 1) c9') by rw [hu6]; exact World.cell?_alloc_at _ _ _ _ rfl)
          have T8 := hid (H8'.out.kept hba)
          have T9 := hid (H9.out.kept hba)
          have K6 := btrans K5 hba
          have B6 := btrans B5 hba
          clear hu6 H9 H8' hba K5 B5
          refine (cloneBools_any _ tn B _ s2 (HT.out.kept B6)).mono ?_
          rintro e u7 ⟨g1, rfl, hg1, hb7⟩
          have G1 := hid hg1
          obtain ⟨ga1, gc1, rfl, _⟩ := hg1
          go_wp2_with fail
          refine (taken_r0 u2.heap.size pn _ _ _ x tn u6.heap.size B m L X u6 u7 hb7 (Nat.le_refl _) htn (cell_kept K6 E0.out) (cell_kept K6 E1.out) (S8.out.kept K6) (R9.out.kept K6) hF (fun _ => HL1.out) G1.out).mono ?_
          rintro e u8 ⟨rfl, ⟨f1, hf1, hx1⟩, hb8⟩
          have M1 := hid hf1
          have X1 := hid hx1
          have K8 := btrans K6 hb8
          have B8 := btrans B6 hb8
          have D8 := hb8
          clear hf1 hx1 hb7 G1 hb8
          go_wp2_with fail
          refine (cloneBools_any _ tn B _ s2 (HT.out.kept B8)).mono ?_
          rintro e u9 ⟨g2, rfl, hg2, hb9⟩
          have G2 := hid hg2
          obtain ⟨ga2, gc2, rfl, _⟩ := hg2
          go_wp2_with fail
          refine (taken_r1 u2.heap.size pn _ _ _ x tn u8.heap.size B m L X u8 u9 hb9 (Nat.le_refl _) htn (cell_kept K8 E0.out) (cell_kept K8 E1.out) (S8.out.kept K8) (R9.out.kept K8) hpx (fun _ j hj => HL2.out 0 j (by omega) hj) G2.out).mono ?_
          rintro e u10 ⟨rfl, ⟨f2, hf2, hx2⟩, hb10⟩
          have M2 := hid hf2
          have X2 := hid hx2
          have M1' := hid (M1.out.kept hb10)
          have B10 := btrans B8 hb10
          have D10 := btrans D8 hb10
          clear hf2 hx2 hb9 G2 hb10 M1 K8 B8 D8
          go_wp2_with fail
          refine (cloneBools_any _ tn B _ s2 (HT.out.kept B10)).mono ?_
          rintro e u11 ⟨g3, rfl, hg3, hb11⟩
          have G3 := hid hg3
          obtain ⟨ga3, gc3, rfl, _⟩ := hg3
          go_wp2_with fail
          refine (taken_r0 u5.heap.size pn _ _ _ x tn u10.heap.size B (m + 1) (ins L pn k) (ins X x k) u10 u11 hb11 (Nat.le_refl _) htn (cell_kept D10 F0.out) (cell_kept D10 F1.out) (T8.out.kept D10) (T9.out.kept D10) (fits_ins hpos s3 hF hpx) (fun _ => fun i j hi hj => ins_all (q := fun l y => ∀ j, j < l → y j < tn) hpos (fun i hi j hj => HL1.out i j hi hj) (fun j hj => HL2.out 0 j (by omega) hj) i hi j hj) G3.out).mono ?_
          rintro e u12 ⟨rfl, ⟨f3, hf3, hx3⟩, hb12⟩
          have M3 := hid hf3
          have X3 := hid hx3
          have M1 := hid (M1'.out.kept hb12)
          have M2' := hid (M2.out.kept hb12)
          have B12 := btrans B10 hb12
          clear hf3 hx3 hb11 G3 hb12 M1' M2 D10 B10 B6 K6 E0 E1 F0 F1 S8 R9 T8 T9
          go_wp2
          go_loopw [17] (fun i wr => ∃ q n' : Nat, q ≤ tn ∧ i = .int .i64 q ∧ wr = u12.drewN n') (fun i _ => tn - (intOf i).toNat)
          case atStart => exact ⟨0, 0, Nat.zero_le _, rfl, rfl⟩
          case round =>
            obtain ⟨q, n', hq, rfl, rfl⟩ := hrel
            by_cases hqt : q < tn
            · obtain ⟨b1, d1, e1, l1⟩ := M1.out
              obtain ⟨rfl, rfl⟩ : ga1 = b1 ∧ gc1 = d1 := by cases e1; exact ⟨rfl, rfl⟩
              obtain ⟨rfl, l1'⟩ := l1 (by omega)
              obtain ⟨b2, d2, e2, l2⟩ := M2'.out
              obtain ⟨rfl, rfl⟩ : ga2 = b2 ∧ gc2 = d2 := by cases e2; exact ⟨rfl, rfl⟩
              obtain ⟨rfl, l2'⟩ := l2 (by omega)
              obtain ⟨b3, d3, e3, l3⟩ := M3.out
              obtain ⟨rfl, rfl⟩ : ga3 = b3 ∧ gc3 = d3 := by cases e3; exact ⟨rfl, rfl⟩
              obtain ⟨rfl, l3'⟩ := l3 (by omega)
              have z1 := l1'.cell hqt
              have z2 := l2'.cell hqt
              have z3 := l3'.cell hqt
              have ho := or_of (X1.out q hqt) (X2.out q hqt) (X3.out q hqt) (by rw [occurs_ins hpos]; exact and_or_left)
              have hqz : (q : Int) < (tn : Int) := by omega
              rw [ho] at z3
              clear ho e1 e2 e3 l1 l2 l3 l1' l2' l3'
              cases h1 : f1 q
              · cases h2 : f2 q
                · rw [h1, h2] at z3
                  rw [h1] at z1
                  rw [h2] at z2
                  simp only [Bool.or_self] at z3
                  clear h1 h2
                  go_wp2
                  go_quiet (fail)
                  go_wp2
                  go_roundw
                  case rel => exact ⟨q + 1, _, by omega, by go_num, rfl⟩
                  case measure => simp [intOf]; omega
                · rw [h1, h2] at z3
                  rw [h1] at z1
                  rw [h2] at z2
                  simp only [Bool.or_true] at z3
                  clear h1 h2
                  go_wp2
                  go_quiet (fail)
                  go_wp2
                  go_roundw
                  case rel => exact ⟨q + 1, _, by omega, by go_num, rfl⟩
                  case measure => simp [intOf]; omega
              · rw [h1] at z3
                rw [h1] at z1
                simp only [Bool.true_or] at z3
                clear h1
                go_wp2
                go_quiet (fail)
                go_wp2
                go_roundw
                case rel => exact ⟨q + 1, _, by omega, by go_num, rfl⟩
                case measure => simp [intOf]; omega
            · go_wp2_with fail
              have hne : pn ≠ 1 := by intro h; subst h; cases h1
              have HB := below_drewN (Below.refl u12.heap.size u12) n'
              have HA : Below u12.heap.size u12 ((u12.drewN n').alloc (.cells #[.slice pa pn pc] 22)) := HB.alloc (Nat.le_refl _) _
              refine (markedExactly_yes _ _ tn f2 1 (fun _ => pn) (fun _ => x) _ htn (M2'.out.kept HA).bools (RowsAt.one (w := u12.drewN n') (HP.out.kept (btrans B12 HB)) 22) hpx HL2.out
                (fun i hi => (X2.out i hi).trans ⟨fun h => h.2, fun h => ⟨hne, h⟩⟩)).mono ?_
              rintro e w6 ⟨rfl, rfl⟩
              go_wp2
              go_ret
              exact ⟨rfl, btrans B12 HA⟩

end Go.Proofs.Qxb6626482a
