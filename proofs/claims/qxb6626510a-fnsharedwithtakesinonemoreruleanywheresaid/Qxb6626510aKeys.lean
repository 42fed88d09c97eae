/- The contract of sortedKeys. -/
import Derived.Test.Qxb6626510aWith
import Derived.Test.Qxb6626510aMerge
import Derived.Test.Qxb6626510aShelf
import Derived.Maps.RangeWalk
import Derived.Sort.KeysCollected
import Derived.Sort.OwnSorted
namespace Go.Proofs.Qxb6626510a
open Go.RowKit Go.Maps Go.Sort

/-- a bool, told by a number (so that the walk does not part on it) -/
def mkB (c : Nat) : Value := .bool (c == 0)
theorem plainElem_bool_inv {v : Value} {z : DataW Unit × List MemPlace} (h : plainElem Try.prog 4 v = some z) : ∃ c, v = mkB c := by
  unfold plainElem at h
  rw [Try.underlying4] at h
  cases v <;> simp at h
  rename_i x
  cases x
  · exact ⟨1, rfl⟩
  · exact ⟨0, rfl⟩

theorem strict_of : ∀ {l : List (List UInt8)}, l.Pairwise (fun a b => leB a b = true) → l.Nodup → l.Pairwise (fun a b => a < b)
  | [], _, _ => List.Pairwise.nil
  | a :: l, h, hn => by
    obtain ⟨h1, h2⟩ := List.pairwise_cons.1 h
    obtain ⟨n1, n2⟩ := List.nodup_cons.1 hn
    refine List.pairwise_cons.2 ⟨fun b hb => ?_, strict_of h2 n2⟩
    have hle : a ≤ b := by simpa [leB] using h1 b hb
    by_cases k : a < b
    · exact k
    · exact absurd (List.le_antisymm hle (List.not_lt.1 k)) (fun e => n1 (e ▸ hb))

/-- the collected keys, sorted, as strings -/
def strs (ss : List (List UInt8)) : List ByteArray := (ss.mergeSort leB).map fun x => ⟨x.toArray⟩

theorem strs_map (ss : List (List UInt8)) : (strs ss).map Value.string = (ss.mergeSort (fun x y => decide (x ≤ y))).map encStr := by
  unfold strs; rw [List.map_map]; rfl
theorem strs_length (ss : List (List UInt8)) : (strs ss).length = ss.length := by simp [strs]

theorem strs_inc {ss : List (List UInt8)} (hn : ss.Nodup) : (strs ss).Pairwise Plain.lt := by
  have tr : ∀ a b c : List UInt8, leB a b = true → leB b c = true → leB a c = true := fun a b c h1 h2 => by simp only [leB, decide_eq_true_eq] at *; exact List.le_trans h1 h2
  have to : ∀ a b : List UInt8, (leB a b || leB b a) = true := fun a b => by simp only [leB, Bool.or_eq_true, decide_eq_true_eq]; exact List.le_total a b
  have hp := strict_of (List.pairwise_mergeSort tr to ss) ((List.mergeSort_perm ss leB).nodup_iff.2 hn)
  unfold strs
  rw [List.pairwise_map]
  exact hp

theorem strs_mem {ss : List (List UInt8)} {b : ByteArray} : b ∈ strs ss ↔ b.data.toList ∈ ss := by
  unfold strs
  rw [List.mem_map]
  constructor
  · rintro ⟨x, hx, rfl⟩
    simpa using hx
  · intro h
    exact ⟨b.data.toList, by simpa using h, by simp⟩

set_option maxRecDepth 100000 in
set_option maxHeartbeats 1000000 in
theorem keys_any (b n : Nat) (D0 : DataW Unit) (p : ByteArray → Prop) (w : World) (hown : w.ownsMap Try.prog 9 (plainElem (H := Unit) Try.prog 4) b n D0) (hk : KeysAre D0 p) (hn : n ≤ 1099511627776) :
    Calls Try.prog 15 #[.map (some b)] w fun e w' => ∃ v', e = .returned v' ∧ SetAt w' v' n p ∧ Below w.heap.size w w' := by
  obtain ⟨i0, hi, hz0, hz1, hz2⟩ := info_parts Try.info9
  have hbl := hown.lt
  have hsz := hown.size_le
  have HK := hid hk
  clear hk
  go_enter Try.func15, Try.ntmps15
  go_wp2_with (first
    | (at_len; refine wpList_len_own _ rfl _ 39 rfl 9 4 Try.underlying39 _ b n _ rfl hown ?_)
    | (at_make; refine wpList_make_own _ rfl _ _ 27 rfl w.heap.size 9 i0 (.string ⟨#[]⟩) 1 Try.underlying27 hi hz0 hz1 _ _ _ (Maps.size D0) rfl rfl rfl (by rw [hz2]; omega) (by unfold maxLen; omega) (Nat.le_refl _) ?_; intro w1 hrow1 hg1)
    | (at_range; refine wpList_range_own _ rfl _ 39 rfl 9 4 law9 Try.underlying39 _ b n _ rfl (hown.kept hg1 (by simp)) ?_; intro w0 hrg0 hg0 hs0)
    | go_in)
  go_frame
  go_loopw [3] (fun v wr => ∃ (left : Lit → Bool) (cnt : Nat) (ss : List (List UInt8)), wr.ranges Try.prog 9 (plainElem (H := Unit) Try.prog 4) b w1.heap.size n D0 left cnt ∧ ss.length + cnt ≤ Maps.size D0 ∧
      wr.ownsRow w.heap.size 9 1 v ss.length (ss.map encStr) ∧ v ≠ .slice none 0 0 ∧ Collected D0 left ss ∧ Below w.heap.size w wr)
    (fun _ wr => wr.rangeLeft b w1.heap.size)
  case atStart =>
    exact ⟨_, _, [], hrg0, by simp, hrow1.kept hg0 (Or.inr (by simp [Value.ownBlock])), by simp, Collected.start D0,
      ((Below.refl _ _).grown hg1 (Nat.le_refl _) (fun j hj => by cases hj)).grown hg0 hg1.size (fun j hj => by cases hj)⟩
  case round =>
    obtain ⟨left, cnt, ss, hrg, hcs, hrow, hnn, hC, hnx⟩ := hrel
    go_wp2_with (first
      | (at_next; refine wpList_next_ranges _ rfl _ rfl 9 law9 (plainElem (H := Unit) Try.prog 4) encStr mkB (fun key kl hk => by obtain ⟨x, hx, _⟩ := Maps.keyOf_str Try.underlying9 hk; exact ⟨x, hx⟩) (fun v y hv => plainElem_bool_inv hv) b w1.heap.size n _ _ _ rfl hrg ?_ ?_)
      | go_in)
    · -- nothing is left: the slice is sorted and handed back
      intro hc0 hl0
      rcases hrow.2 with ⟨hnil, _⟩ | ⟨g, cap, cur, rfl, hbase, hb, h1, h2, h3, h4⟩
      · exact absurd hnil hnn
      have hH : Holds encStr wr g 0 ss.toArray := holds_of_block hb (by simpa using h4)
      have hgl : g < wr.heap.size := (Array.getElem?_eq_some_iff.1 hb).1
      have hc := Try.sort_Strings g 0 cap ss wr hH hgl (by omega)
      go_wp2_with (go_at_call 19; refine hc.mono ?_; rintro e w' ⟨rfl, nn, os, rfl⟩)
      go_ret
      have ho := ownsRow_sorted (n := nn) (os := os) (ss := ss) (ts := ss.mergeSort (fun x y => decide (x ≤ y))) (by simp) hbase hb h1 h2 h3
      rw [← strs_map, ← strs_length ss] at ho
      refine ⟨_, rfl, ⟨(strs ss).length, _, by rw [strs_length]; omega, by have := strs_of_list ho; rw [strs_length] at this ⊢; exact this, Plain.inc_of_pairwise (strs_inc hC.1), fun x => ?_⟩, hnx.grown (grownBy_sorted _) hnx.size (fun j hj => by cases hj; exact hbase)⟩
      rw [Plain.mem_getD, strs_mem, hC.2, ← HK.out x]
      exact ⟨fun h => h.1, fun h => ⟨h, hl0 _⟩⟩
    · -- an entry has come: its key goes to the slice's end
      intro x c kl yd yp w2 cnt2 hkey hlk hv hat hrg2 hlt hg2 hs2 hen
      obtain ⟨x', ex, rfl, _⟩ := Maps.keyOf_str Try.underlying9 hkey
      obtain rfl : x = x' := encStr_inj ex
      have hrow2 := hrow.kept hg2 (Or.inr (row_ne_iter hrow hrg).symm)
      clear hs2
      go_wp2_with (first
        | (at_builtin; refine wpList_append_own _ rfl _ _ 27 rfl w.heap.size 9 i0 (.string ⟨#[]⟩) 1 16 Try.underlying27 hi hz0 hz1 hz2 rfl (by decide) _ _ _ rfl (hrow2.alloc _) ⟨w2.heap.size, 0, none⟩ 1 1 [encStr x] rfl rfl (cell_one_new _ _ _) (by simp [Value.oneCell', encStr]) (by unfold maxLen at *; omega) (by omega) (by have := hnx.size; have := hg2.size; simp; omega) ?_; intro v' w3 hown' hg3 hnil3; go_frame)
        | go_in)
      have hrg3 := (hrg2.alloc _).kept hg3 (row_ne_low hrow2 hbl) (row_ne_iter hrow2 hrg2)
      go_roundw
      case rel =>
        refine ⟨_, cnt2, ss ++ [x], hrg3, by simp; omega, by simpa using hown', fun hv' => by have := (hnil3.1 hv').2; omega, hC.step hlk hat, ?_⟩
        exact ((hnx.grown hg2 hnx.size (fun j hj => by cases hj; exact hg1.size)).alloc (by have := hnx.size; have := hg2.size; omega) _).grown hg3 (by have := hnx.size; have := hg2.size; simp; omega) (fun j hj => (hrow2.lt j hj).1)
      case measure => rw [hrg3.left_eq, hrg.left_eq]; exact hlt

end Go.Proofs.Qxb6626510a
