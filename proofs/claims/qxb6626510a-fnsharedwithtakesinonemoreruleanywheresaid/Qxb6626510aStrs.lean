/- The contracts over slices of strings: sameStrings, insertSorted. -/
import Derived.Test.Qxb6626510aMem
import Derived.Deep.QuietTactic
import Derived.BigQuiet
namespace Go.Proofs.Qxb6626510a
open Go.RowKit

theorem Try.info9 : (Try.prog.info? 9).map (fun i => (i.zero, i.size, i.bytes)) = some (some (.string ⟨#[]⟩), 1, 16) := by kernel_rfl

set_option maxHeartbeats 1000000 in
theorem same_yes (u v : Value) (n : Nat) (s : Nat → ByteArray) (w : World) (hn : n ≤ 9223372036854775807) (hu : StrsAt w u n s) (hv : StrsAt w v n s) :
    Calls Try.prog 10 #[u, v] w fun e w' => e = .returned (.bool true) ∧ Below w.heap.size w w' := by
  obtain ⟨ua, uc, rfl, _, _, hu⟩ := hu
  obtain ⟨va, vc, rfl, _, _, hv⟩ := hv
  have HU := hid hu
  have HV := hid hv
  clear hu hv
  go_enter Try.func10, Try.ntmps10
  go_wp2
  go_loopw [5] (fun i wr => ∃ k m : Nat, k ≤ n ∧ i = .int .i64 k ∧ wr = w.drewN m) (fun i _ => n - (intOf i).toNat)
  case atStart => exact ⟨0, 0, Nat.zero_le _, rfl, rfl⟩
  case round =>
    obtain ⟨k, m, hk, rfl, rfl⟩ := hrel
    by_cases hlt : k < n
    · obtain ⟨ub, uo, rfl, hu⟩ := HU.out (by omega)
      obtain ⟨vb, vo, rfl, hv⟩ := HV.out (by omega)
      have c1 := hu k hlt
      have c2 := hv k hlt
      have hkz : (k : Int) < (n : Int) := by omega
      clear hu hv
      go_wp2
      go_quiet (fail)
      go_wp2
      go_roundw
      case rel => exact ⟨k + 1, _, by omega, by go_num, rfl⟩
      case measure => simp [intOf]; omega
    · go_wp2
      go_ret
      exact ⟨rfl, below_drewN (Below.refl _ _) m⟩

theorem news_cells {w : World} {b off n i m : Nat} {s : Nat → ByteArray} (h : ∀ j, j < n → w.cell? ⟨b, off + j, none⟩ = some (.string (s j))) (hm : i + m ≤ n) :
    ∀ t u, ((List.range m).map fun t => Value.string (s (i + t)))[t]? = some u → w.cell? ((⟨b, off + i, none⟩ : Addr).add t) = some u := by
  intro t u hu
  have ht : t < m := by have := (List.getElem?_eq_some_iff.1 hu).1; simpa using this
  have e : u = .string (s (i + t)) := by simpa [ht] using hu.symm
  rw [at_plain, Nat.add_assoc, h (i + t) (by omega), e]

theorem strs_one (m : Nat) (f : Nat → ByteArray) : ∀ u ∈ (List.range m).map (fun t => Value.string (f t)), u.oneCell' = true := by
  intro u hu
  obtain ⟨t, _, rfl⟩ := List.mem_map.1 hu
  rfl

theorem ins_list (s : Nat → ByteArray) (x : ByteArray) (q k : Nat) (hq : q ≤ k) :
    ((List.range q).map fun t => Value.string (s t)) ++ [.string x] ++ ((List.range (k - q)).map fun t => Value.string (s (q + t))) = (List.range (k + 1)).map fun j => Value.string (Plain.ins s x q j) := by
  apply List.ext_getElem?
  intro j
  by_cases h1 : j < q
  · rw [List.append_assoc, List.getElem?_append_left (by simpa using h1)]
    simp [h1, show j < k + 1 by omega, Plain.ins_lt h1]
  · by_cases h2 : j = q
    · subst h2
      rw [List.append_assoc, List.getElem?_append_right (by simp)]
      simp [show j < k + 1 by omega, Plain.ins_eq]
    · obtain ⟨t, rfl⟩ : ∃ t, j = q + 1 + t := ⟨j - q - 1, by omega⟩
      rw [List.getElem?_append_right (by simp)]
      by_cases h3 : t < k - q
      · have e1 : q + 1 + t - (q + 1) = t := by omega
        have e2 : q + 1 + t = (q + t) + 1 := by omega
        simp [e1, h3, show q + 1 + t < k + 1 by omega]
        rw [e2, Plain.ins_gt (by omega)]
      · rw [List.getElem?_eq_none (by simp; omega), List.getElem?_eq_none (by simp; omega)]

theorem ins_done {w : World} {base g q k n : Nat} {s : Nat → ByteArray} {x : ByteArray} {p : ByteArray → Prop} (hq : q ≤ k) (hk : k ≤ n)
    (ho : w.ownsRow base 9 1 (.slice (some ⟨g, 0, none⟩) (q + 1 + (k - q)) (k + 1)) (q + 1 + (k - q)) (((List.range q).map fun t => Value.string (s t)) ++ [.string x] ++ ((List.range (k - q)).map fun t => Value.string (s (q + t)))))
    (hinc : Plain.Inc k s) (hmem : ∀ b, Plain.Mem k s b ↔ p b) (hlow : ∀ j, j < q → Plain.lt (s j) x) (hup : q < k → Plain.lt x (s q)) :
    SetAt w (.slice (some ⟨g, 0, none⟩) (q + 1 + (k - q)) (k + 1)) (n + 1) (fun b => p b ∨ b = x) := by
  have e : q + 1 + (k - q) = k + 1 := by omega
  rw [ins_list s x q k hq, e] at ho
  rw [e]
  exact ⟨k + 1, _, by omega, strs_own ho, Plain.ins_inc hinc hq hlow hup, fun b => (Plain.ins_mem hq b).trans (or_congr (hmem b) Iff.rfl)⟩

theorem ins_end {w : World} {base g k n : Nat} {s : Nat → ByteArray} {x : ByteArray} {p : ByteArray → Prop} (hk : k ≤ n)
    (ho : w.ownsRow base 9 1 (.slice (some ⟨g, 0, none⟩) (k + 1) (k + 1)) (k + 1) (((List.range k).map fun t => Value.string (s t)) ++ [.string x]))
    (hinc : Plain.Inc k s) (hmem : ∀ b, Plain.Mem k s b ↔ p b) (hlow : ∀ j, j < k → Plain.lt (s j) x) :
    SetAt w (.slice (some ⟨g, 0, none⟩) (k + 1) (k + 1)) (n + 1) (fun b => p b ∨ b = x) := by
  have := ins_done (q := k) (Nat.le_refl k) hk (base := base) (w := w) (g := g) (by simpa using ho) hinc hmem hlow (fun h => absurd h (Nat.lt_irrefl _))
  simpa using this

set_option maxHeartbeats 1000000 in
set_option maxRecDepth 100000 in
/-- s is put in its place -/
theorem insert_any (v : Value) (n : Nat) (p : ByteArray → Prop) (x : ByteArray) (w : World) (hn : n ≤ 1099511627776) (hS : SetAt w v n p) :
    Calls Try.prog 14 #[v, .string x] w fun e w' => ∃ v', e = .returned v' ∧ SetAt w' v' (n + 1) (fun b => p b ∨ b = x) ∧ Below w.heap.size w w' := by
  obtain ⟨k, s, hk, hs, hinc, hmem⟩ := hS
  have HS := hid hs
  have HI := hid hinc
  have HM := hid hmem
  obtain ⟨a, cap, rfl, hcap, hnil, hc⟩ := hs
  have HC := hid hc
  obtain ⟨i0, hi, hz0, hz1, hz2⟩ := info_parts Try.info9
  clear hc hinc hmem
  go_enter Try.func14, Try.ntmps14
  go_wp2
  go_loop [5] (fun i => ∃ q : Nat, q ≤ k ∧ i = .int .i64 q ∧ Hid (∀ j, j < q → Plain.lt (s j) x)) (fun i => k - (intOf i).toNat)
  case atStart => exact ⟨0, Nat.zero_le _, rfl, fun j h => absurd h (Nat.not_lt_zero _)⟩
  case round =>
    obtain ⟨q, hq, rfl, hlow⟩ := hrel
    by_cases hlt : q < k
    · obtain ⟨b, off, rfl, hc⟩ := HC.out (by omega)
      have c1 := hc q hlt
      have hc2 := hid hc
      clear hc
      by_cases hl : Plain.lt (s q) x
      · have hb : Op.bytesLess (s q).toList x.toList = true := (Plain.less_iff _ _).2 hl
        have HL := hid hl
        clear hl
        go_wp2
        go_round
        case rel => exact ⟨q + 1, by omega, by go_num, fun j h => by
          by_cases e : j = q
          · subst e; exact HL.out
          · exact hlow.out j (by omega)⟩
        case measure => simp [intOf]; omega
      · have hb : Op.bytesLess (s q).toList x.toList = false := by
          have := mt (Plain.less_iff _ _).1 hl; simpa using this
        by_cases he : s q = x
        · have hb2 : ((s q).toList == x.toList) = true := (Plain.same_iff _ _).2 he
          have HE := hid he
          clear he hl
          go_wp2
          go_ret
          refine ⟨_, rfl, ⟨k, s, by omega, HS.out, HI.out, fun b => ?_⟩, Below.refl _ _⟩
          rw [HM.out b]
          exact ⟨.inl, fun h => h.elim id (fun e => (HM.out b).1 ⟨q, hlt, by rw [HE.out, e]⟩)⟩
        · have hb2 : ((s q).toList == x.toList) = false := by
            have := mt (Plain.same_iff _ _).1 he; simpa using this
          have HG := hid (Plain.lt_of_not hl he)
          clear he hl
          go_wp2_with (first
            | (at_make; refine wpList_make_own _ rfl _ _ 27 rfl w.heap.size 9 i0 (.string ⟨#[]⟩) 1 Try.underlying27 hi hz0 hz1 _ _ _ (k + 1) rfl rfl (by omega) (by rw [hz2]; omega) (by unfold maxLen; omega) (Nat.le_refl _) ?_; intro w1 hown1 hgrow1; have B1 := (Below.refl w.heap.size w).grown hgrow1 (Nat.le_refl _) (fun k h => by cases h); clear hgrow1)
            | (at_builtin; refine wpList_append_fits_any _ rfl (.tmp 38) (.tmp 41) 27 rfl w.heap.size 9 i0 1 Try.underlying27 hi hz1 w.heap.size 0 (k + 1) _ rfl hown1 _ q _ ((List.range q).map fun t => Value.string (s (0 + t))) rfl (by simp) (by intro h; cases h) (by intro ad h; cases h; exact news_cells (i := 0) (fun j hj => cell_kept B1 (hc2.out j hj)) (by omega)) (strs_one _ _) (by omega) ?_; intro w2 hown2 hgrow2; simp only [Nat.zero_add, List.nil_append] at hown2; have B2 := B1.grown hgrow2 B1.size (fun k h => by cases h; exact Nat.le_refl _); clear hgrow2 hown1)
            | (at_builtin; refine wpList_append_fits _ rfl (.tmp 43) (.tmp 45) 27 rfl w.heap.size 9 i0 1 Try.underlying27 hi hz1 w.heap.size q (k + 1) _ rfl (hown2.alloc _) ⟨w2.heap.size, 0, none⟩ 1 1 [.string x] rfl rfl (cell_one_new _ _ _) (by intro u hu; simp at hu; subst hu; rfl) (by omega) ?_; intro w3 hown3 hgrow3; have B3 := (B2.alloc B2.size _).grown hgrow3 (by have := B2.size; simp; omega) (fun k h => by cases h; exact Nat.le_refl _); clear hgrow3 hown2)
            | (at_builtin; refine wpList_append_fits_any _ rfl (.tmp 47) (.tmp 50) 27 rfl w.heap.size 9 i0 1 Try.underlying27 hi hz1 w.heap.size (q + 1) (k + 1) _ rfl hown3 _ (k - q) _ ((List.range (k - q)).map fun t => Value.string (s (q + t))) rfl (by simp) (by intro h; first | cases h | (split at h <;> cases h)) (by intro ad h; first | (cases h; exact news_cells (fun j hj => cell_kept B3 (hc2.out j hj)) (by omega)) | (split at h; · omega; · cases h; exact news_cells (fun j hj => cell_kept B3 (hc2.out j hj)) (by omega))) (strs_one _ _) (by omega) ?_; intro w4 hown4 hgrow4; have B4 := B3.grown hgrow4 B3.size (fun k h => by cases h; exact Nat.le_refl _); clear hgrow4 hown3))
          go_ret
          exact ⟨_, rfl, ins_done hq hk hown4 HI.out HM.out hlow.out (fun _ => HG.out), B4⟩
    · have hqe : k = q := by omega
      subst hqe
      by_cases h0 : k = 0
      · subst h0
        cases a with
        | none =>
          obtain rfl := hnil rfl
          go_wp2_with (first
            | (at_make; refine wpList_make_own _ rfl _ _ 27 rfl w.heap.size 9 i0 (.string ⟨#[]⟩) 1 Try.underlying27 hi hz0 hz1 _ _ _ (0 + 1) rfl rfl (by omega) (by rw [hz2]; omega) (by unfold maxLen; omega) (Nat.le_refl _) ?_; intro w1 hown1 hgrow1; have B1 := (Below.refl w.heap.size w).grown hgrow1 (Nat.le_refl _) (fun k h => by cases h); clear hgrow1)
            | (at_builtin; refine wpList_append_fits_any _ rfl (.tmp 38) (.tmp 41) 27 rfl w.heap.size 9 i0 1 Try.underlying27 hi hz1 w.heap.size 0 (0 + 1) _ rfl hown1 _ 0 _ ((List.range 0).map fun t => Value.string (s (0 + t))) rfl (by simp) (by intro h; exact ⟨rfl, rfl⟩) (by intro ad h t u hu; simp at hu) (strs_one _ _) (by omega) ?_; intro w2 hown2 hgrow2; simp only [Nat.zero_add, List.nil_append] at hown2; have B2 := B1.grown hgrow2 B1.size (fun k h => by cases h; exact Nat.le_refl _); clear hgrow2 hown1)
            | (at_builtin; refine wpList_append_fits _ rfl (.tmp 43) (.tmp 45) 27 rfl w.heap.size 9 i0 1 Try.underlying27 hi hz1 w.heap.size 0 (0 + 1) _ rfl (hown2.alloc _) ⟨w2.heap.size, 0, none⟩ 1 1 [.string x] rfl rfl (cell_one_new _ _ _) (by intro u hu; simp at hu; subst hu; rfl) (by omega) ?_; intro w3 hown3 hgrow3; have B3 := (B2.alloc B2.size _).grown hgrow3 (by have := B2.size; simp; omega) (fun k h => by cases h; exact Nat.le_refl _); clear hgrow3 hown2)
            | (at_builtin; refine wpList_append_fits_any _ rfl (.tmp 47) (.tmp 50) 27 rfl w.heap.size 9 i0 1 Try.underlying27 hi hz1 w.heap.size (0 + 1) (0 + 1) _ rfl hown3 _ (0 - 0) _ ((List.range (0 - 0)).map fun t => Value.string (s (0 + t))) rfl (by simp) (by intro h; exact ⟨rfl, rfl⟩) (by intro ad h t u hu; simp at hu) (strs_one _ _) (by omega) ?_; intro w4 hown4 hgrow4; have B4 := B3.grown hgrow4 B3.size (fun k h => by cases h; exact Nat.le_refl _); clear hgrow4 hown3))
          go_ret
          exact ⟨_, rfl, ins_done hq hk hown4 HI.out HM.out hlow.out (fun h => absurd h (Nat.lt_irrefl _)), B4⟩
        | some pt =>
          go_wp2_with (first
            | (at_make; refine wpList_make_own _ rfl _ _ 27 rfl w.heap.size 9 i0 (.string ⟨#[]⟩) 1 Try.underlying27 hi hz0 hz1 _ _ _ (0 + 1) rfl rfl (by omega) (by rw [hz2]; omega) (by unfold maxLen; omega) (Nat.le_refl _) ?_; intro w1 hown1 hgrow1; have B1 := (Below.refl w.heap.size w).grown hgrow1 (Nat.le_refl _) (fun k h => by cases h); clear hgrow1)
            | (at_builtin; refine wpList_append_fits_any _ rfl (.tmp 38) (.tmp 41) 27 rfl w.heap.size 9 i0 1 Try.underlying27 hi hz1 w.heap.size 0 (0 + 1) _ rfl hown1 _ 0 _ ((List.range 0).map fun t => Value.string (s (0 + t))) rfl (by simp) (by intro h; cases h) (by intro ad h t u hu; simp at hu) (strs_one _ _) (by omega) ?_; intro w2 hown2 hgrow2; simp only [Nat.zero_add, List.nil_append] at hown2; have B2 := B1.grown hgrow2 B1.size (fun k h => by cases h; exact Nat.le_refl _); clear hgrow2 hown1)
            | (at_builtin; refine wpList_append_fits _ rfl (.tmp 43) (.tmp 45) 27 rfl w.heap.size 9 i0 1 Try.underlying27 hi hz1 w.heap.size 0 (0 + 1) _ rfl (hown2.alloc _) ⟨w2.heap.size, 0, none⟩ 1 1 [.string x] rfl rfl (cell_one_new _ _ _) (by intro u hu; simp at hu; subst hu; rfl) (by omega) ?_; intro w3 hown3 hgrow3; have B3 := (B2.alloc B2.size _).grown hgrow3 (by have := B2.size; simp; omega) (fun k h => by cases h; exact Nat.le_refl _); clear hgrow3 hown2)
            | (at_builtin; refine wpList_append_fits_any _ rfl (.tmp 47) (.tmp 50) 27 rfl w.heap.size 9 i0 1 Try.underlying27 hi hz1 w.heap.size (0 + 1) (0 + 1) _ rfl hown3 _ (0 - 0) _ ((List.range (0 - 0)).map fun t => Value.string (s (0 + t))) rfl (by simp) (by intro h; first | cases h | (split at h <;> cases h)) (by intro ad h t u hu; simp at hu) (strs_one _ _) (by omega) ?_; intro w4 hown4 hgrow4; have B4 := B3.grown hgrow4 B3.size (fun k h => by cases h; exact Nat.le_refl _); clear hgrow4 hown3))
          go_ret
          exact ⟨_, rfl, ins_done hq hk hown4 HI.out HM.out hlow.out (fun h => absurd h (Nat.lt_irrefl _)), B4⟩
      · obtain ⟨b, off, rfl, hc⟩ := HC.out (by omega)
        have hc2 := hid hc
        clear hc
        go_wp2_with (first
          | (at_make; refine wpList_make_own _ rfl _ _ 27 rfl w.heap.size 9 i0 (.string ⟨#[]⟩) 1 Try.underlying27 hi hz0 hz1 _ _ _ (k + 1) rfl rfl (by omega) (by rw [hz2]; omega) (by unfold maxLen; omega) (Nat.le_refl _) ?_; intro w1 hown1 hgrow1; have B1 := (Below.refl w.heap.size w).grown hgrow1 (Nat.le_refl _) (fun k h => by cases h); clear hgrow1)
          | (at_builtin; refine wpList_append_fits_any _ rfl (.tmp 38) (.tmp 41) 27 rfl w.heap.size 9 i0 1 Try.underlying27 hi hz1 w.heap.size 0 (k + 1) _ rfl hown1 _ k _ ((List.range k).map fun t => Value.string (s (0 + t))) rfl (by simp) (by intro h; cases h) (by intro ad h; cases h; exact news_cells (i := 0) (fun j hj => cell_kept B1 (hc2.out j hj)) (by omega)) (strs_one _ _) (by omega) ?_; intro w2 hown2 hgrow2; simp only [Nat.zero_add, List.nil_append] at hown2; have B2 := B1.grown hgrow2 B1.size (fun k h => by cases h; exact Nat.le_refl _); clear hgrow2 hown1)
          | (at_builtin; refine wpList_append_fits _ rfl (.tmp 43) (.tmp 45) 27 rfl w.heap.size 9 i0 1 Try.underlying27 hi hz1 w.heap.size k (k + 1) _ rfl (hown2.alloc _) ⟨w2.heap.size, 0, none⟩ 1 1 [.string x] rfl rfl (cell_one_new _ _ _) (by intro u hu; simp at hu; subst hu; rfl) (by omega) ?_; intro w3 hown3 hgrow3; have B3 := (B2.alloc B2.size _).grown hgrow3 (by have := B2.size; simp; omega) (fun k h => by cases h; exact Nat.le_refl _); clear hgrow3 hown2)
          | (at_builtin; refine wpList_append_fits_any _ rfl (.tmp 47) (.tmp 50) 27 rfl w.heap.size 9 i0 1 Try.underlying27 hi hz1 w.heap.size (k + 1) (k + 1) _ rfl hown3 _ 0 _ [] rfl rfl (by intro h; first | cases h | (split at h <;> cases h)) (by intro ad h t u hu; simp at hu) (by intro u hu; cases hu) (by omega) ?_; intro w4 hown4 hgrow4; have B4 := B3.grown hgrow4 B3.size (fun k h => by cases h; exact Nat.le_refl _); clear hgrow4 hown3))
        all_goals
          go_ret
          exact ⟨_, rfl, ins_end hk (by simpa using hown4) HI.out HM.out hlow.out, B4⟩

end Go.Proofs.Qxb6626510a
