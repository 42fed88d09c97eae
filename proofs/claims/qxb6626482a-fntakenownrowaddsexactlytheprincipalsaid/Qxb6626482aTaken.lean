/- The contract of Taken. -/
import Derived.Test.Qxb6626482aMakes
namespace Go.Proofs.Qxb6626482a
open Go.RowKit

theorem zero4 (w : World) : (zeroValue 4).run Try.prog w = .ok (.bool false) w := by kernel_rfl

theorem setCells_row {g n : Nat} {t : TypeId} (z : Value) : ∀ (k o : Nat) (w : World) (f : Nat → Value), w.rowIs g t n f →
    (w.setCells g o (List.replicate k z)).rowIs g t n (fun j => if o ≤ j ∧ j < o + k then z else f j)
  | 0, o, w, f, h => h.congr (fun j _ => by rw [if_neg (by omega)])
  | k + 1, o, w, f, h => by
    rw [List.replicate_succ]
    show ((w.setCell ⟨g, o, none⟩ z).setCells g (o + 1) (List.replicate k z)).rowIs g t n _
    refine (setCells_row z k (o + 1) _ _ (h.set o z)).congr (fun j _ => ?_)
    by_cases e : j = o
    · subst e; simp
    · rw [if_neg e]
      by_cases h : o + 1 ≤ j ∧ j < o + 1 + k
      · rw [if_pos h, if_pos (by omega)]
      · rw [if_neg h, if_neg (by omega)]

theorem setCells_below {g N : Nat} (hN : N ≤ g) : ∀ (vs : List Value) (o : Nat) (w : World), Below N w (w.setCells g o vs)
  | [], _, _ => Below.refl _ _
  | v :: r, o, w => ((Below.refl N w).setCell (p := ⟨g, o, none⟩) hN v).trans (setCells_below hN r (o + 1) _)

/-- 'clear(taken)' -/
theorem clear_run (v : Value) (n g : Nat) (f : Nat → Bool) (w : World) (h : OwnBools w v n g f) (N : Nat) (hN : N ≤ g) :
    ∃ wc, (∀ ty, (Builtin.clear_ #[24] ty #[v]).run Try.prog w = .ok (.tuple #[]) wc) ∧ OwnBools wc v n g (fun _ => false) ∧ Below N w wc := by
  obtain ⟨a, cap, rfl, hc⟩ := h
  by_cases hn : n = 0
  · subst hn
    refine ⟨w, fun ty => ?_, ⟨a, cap, rfl, fun h => absurd h (Nat.lt_irrefl _)⟩, Below.refl _ _⟩
    cases a <;> simp [Builtin.clear_, run_underlying Try.underlying24]
  · obtain ⟨rfl, hr⟩ := hc (by omega)
    refine ⟨w.setCells g 0 (List.replicate n (.bool false)), fun ty => Lib.run_clear_slice w 24 4 ty (.bool false) Try.underlying24 zero4 rfl rfl g 0 n cap (by omega) (fun j hj => by rw [Nat.zero_add, hr.cell hj]; rfl) (fun j hj => by rw [Nat.zero_add]; exact hr.frozen j),
      ⟨_, cap, rfl, fun _ => ⟨rfl, (setCells_row (.bool false) n 0 w _ hr).congr (fun j hj => by rw [if_pos (by omega)])⟩⟩, setCells_below hN _ _ _⟩

/-- marked so far: all symbols of the first k rows and of the first c places of row k -/
def Upto (L : Nat → Nat) (X : Nat → Nat → Int) (k c : Nat) (i : Nat) : Prop := ∃ k' j, (k' < k ∧ j < L k' ∨ k' = k ∧ j < c) ∧ X k' j = i

def Marked (w : World) (n g : Nat) (L : Nat → Nat) (X : Nat → Nat → Int) (k c : Nat) : Prop :=
  ∃ f : Nat → Bool, (0 < n → w.rowIs g 4 n (fun i => .bool (f i))) ∧ ∀ i, i < n → (f i = true ↔ Upto L X k c i)

theorem Marked.start {w : World} {n g : Nat} (L : Nat → Nat) (X : Nat → Nat → Int) (h : 0 < n → w.rowIs g 4 n (fun _ => .bool false)) : Marked w n g L X 0 0 :=
  ⟨fun _ => false, h, fun i _ => ⟨fun h => (by cases h), fun ⟨k', j, h1, _⟩ => by omega⟩⟩

theorem Marked.next {w : World} {n g : Nat} {L : Nat → Nat} {X : Nat → Nat → Int} {k : Nat} (h : Marked w n g L X k (L k)) : Marked w n g L X (k + 1) 0 := by
  obtain ⟨f, h1, h2⟩ := h
  refine ⟨f, h1, fun i hi => (h2 i hi).trans ⟨?_, ?_⟩⟩
  · rintro ⟨k', j, h | ⟨rfl, h⟩, e⟩
    · exact ⟨k', j, .inl ⟨by omega, h.2⟩, e⟩
    · exact ⟨k', j, .inl ⟨by omega, h⟩, e⟩
  · rintro ⟨k', j, h | ⟨rfl, h⟩, e⟩
    · by_cases e' : k' = k
      · subst e'; exact ⟨k', j, .inr ⟨rfl, h.2⟩, e⟩
      · exact ⟨k', j, .inl ⟨by omega, h.2⟩, e⟩
    · omega

theorem Marked.store {w : World} {n g : Nat} {L : Nat → Nat} {X : Nat → Nat → Int} {k c xn : Nat} (h : Marked w n g L X k c) (hx : X k c = xn) (hn : xn < n) : Marked (w.setCell ⟨g, xn, none⟩ (.bool true)) n g L X k (c + 1) := by
  obtain ⟨f, h1, h2⟩ := h
  refine ⟨fun i => if i = xn then true else f i, fun h => ((h1 h).set xn (.bool true)).congr (fun i _ => by by_cases e : i = xn <;> simp [e]), fun i hi => ?_⟩
  by_cases e : i = xn
  · subst e
    simp only [if_true, true_iff]
    exact ⟨k, c, .inr ⟨rfl, by omega⟩, hx⟩
  · simp only [if_neg e]
    refine (h2 i hi).trans ⟨?_, ?_⟩
    · rintro ⟨k', j, h | ⟨rfl, h⟩, e'⟩
      · exact ⟨k', j, .inl h, e'⟩
      · exact ⟨k', j, .inr ⟨rfl, by omega⟩, e'⟩
    · rintro ⟨k', j, h | ⟨rfl, h⟩, e'⟩
      · exact ⟨k', j, .inl h, e'⟩
      · by_cases ej : j = c
        · subst ej; omega
        · exact ⟨k', j, .inr ⟨rfl, by omega⟩, e'⟩

theorem Marked.alloc {w : World} {n g : Nat} {L : Nat → Nat} {X : Nat → Nat → Int} {k c : Nat} (h : Marked w n g L X k c) (o : Obj) : Marked (w.alloc o) n g L X k c := by
  obtain ⟨f, h1, h2⟩ := h
  exact ⟨f, fun h => (h1 h).alloc o, h2⟩

theorem Marked.own {w : World} {n g m : Nat} {L : Nat → Nat} {X : Nat → Nat → Int} {a : Option Addr} {cap : Nat} (h : Marked w n g L X m 0) (ha : 0 < n → a = some ⟨g, 0, none⟩) :
    ∃ f, OwnBools w (.slice a n cap) n g f ∧ ∀ i, i < n → (f i = true ↔ Occurs m L X i) := by
  obtain ⟨f, h1, h2⟩ := h
  refine ⟨f, ⟨a, cap, rfl, fun h => ⟨ha h, h1 h⟩⟩, fun i hi => (h2 i hi).trans ⟨?_, ?_⟩⟩
  · rintro ⟨k', j, h | ⟨rfl, h⟩, e⟩
    · exact ⟨k', j, h.1, h.2, e⟩
    · omega
  · rintro ⟨k', j, h1, h2, e⟩
    exact ⟨k', j, .inl ⟨h1, h2⟩, e⟩

set_option maxHeartbeats 1000000 in
/-- a principal vector of length one: nothing is marked -/
theorem taken_lone (bl : Nat) (pv v : Value) (x : Nat → Int) (r : Int) (n g : Nat) (f : Nat → Bool) (w0 w : World) (hb : Below w0.heap.size w0 w) (hg : w0.heap.size ≤ g)
    (c0 : w0.cell? ⟨bl, 0, none⟩ = some pv) (hP : SymsAt w0 pv 1 x) (hG : OwnBools w v n g f) :
    Calls Try.prog 11 #[.pointer (some ⟨bl, 0, none⟩), .int .i64 r, v] w fun e w' => e = .returned (.tuple #[]) ∧ OwnBools w' v n g (fun _ => false) ∧ Below w0.heap.size w0 w' := by
  obtain ⟨wc, hcl, hown, hbc⟩ := clear_run v n g f w hG w0.heap.size hg
  have hbel := hb.trans hbc
  have c1 := cell_kept hbel c0
  obtain ⟨pa, pc, rfl, _⟩ := hP
  have HO : Hid (OwnBools wc v n g (fun _ => false)) := hown
  clear hbc hG hown
  go_enter Try.func11, Try.ntmps11
  go_wp2_with (simp only [hcl])
  refine bodyPost_ret (results_none rfl _ _ _) rfl ?_
  exact ⟨rfl, HO.out, hbel⟩

set_option maxHeartbeats 1000000 in
/-- the construction's rule: the stamp's rows are marked -/
theorem taken_rows (bl pn : Nat) (pv rv v : Value) (x : Nat → Int) (r : Int) (n g : Nat) (f : Nat → Bool) (m : Nat) (L : Nat → Nat) (X : Nat → Nat → Int) (w0 w : World) (hb : Below w0.heap.size w0 w) (hg : w0.heap.size ≤ g) (hn : n ≤ 9223372036854775807)
    (hpn : ((pn : Int) == 1) = false) (hr : (r == 1) = false) (c0 : w0.cell? ⟨bl, 0, none⟩ = some pv) (c1 : w0.cell? ⟨bl, 1, none⟩ = some rv) (hP : SymsAt w0 pv pn x) (hR : RowsAt w0 rv m L X) (hF : Fits m L X) (hlow : ∀ i j, i < m → j < L i → X i j < n) (hG : OwnBools w v n g f) :
    Calls Try.prog 11 #[.pointer (some ⟨bl, 0, none⟩), .int .i64 r, v] w fun e w' => e = .returned (.tuple #[]) ∧ (∃ f, OwnBools w' v n g f ∧ ∀ i, i < n → (f i = true ↔ Occurs m L X i)) ∧ Below w0.heap.size w0 w' := by
  obtain ⟨wc, hcl, hown, hbc⟩ := clear_run v n g f w hG w0.heap.size hg
  have hbel := hb.trans hbc
  have d0 := cell_kept hbel c0
  have d1 := cell_kept hbel c1
  have HR : Hid (RowsAt w0 rv m L X) := hR
  have HL : Hid (∀ i j, i < m → j < L i → X i j < n) := hlow
  obtain ⟨pa, pc, rfl, _⟩ := hP
  obtain ⟨ra, rc, rfl, _⟩ := hR
  obtain ⟨va, vc, rfl, hva⟩ := hown
  have hM : Marked wc n g L X 0 0 := Marked.start L X (fun h => (hva h).2)
  have HV : Hid (0 < n → va = some ⟨g, 0, none⟩) := fun h => (hva h).1
  have hm := hF.hm
  clear hbc hG hva hlow c0 c1
  go_enter Try.func11, Try.ntmps11
  go_wp2_with (simp only [hcl])
  go_loopw [31] (fun i wr => ∃ k : Nat, k ≤ m ∧ i = .int .i64 k ∧ Marked wr n g L X k 0 ∧ Below w0.heap.size w0 wr) (fun i _ => m - (intOf i).toNat)
  case atStart => exact ⟨0, Nat.zero_le _, rfl, hM, hbel⟩
  case round =>
    obtain ⟨k, hk, rfl, hMk, hbk⟩ := hrel
    clear hM hbel hcl d0 d1
    by_cases hlt : k < m
    · obtain ⟨a', cap', ev, hc⟩ := HR.out
      obtain ⟨rfl, rfl⟩ : a' = ra ∧ cap' = rc := by cases ev; exact ⟨rfl, rfl⟩
      clear ev
      obtain ⟨b, off, rfl, hc2⟩ := hc (by omega)
      obtain ⟨sv, c0, sa, sc, rfl, hs⟩ := hc2 k hlt
      have HS : Hid (0 < L k → ∃ b off, sa = some ⟨b, off, none⟩ ∧ ∀ j, j < L k → w0.cell? ⟨b, off + j, none⟩ = some (.int .u16 (X k j))) := hs
      have c1 := cell_kept hbk c0
      have hLk := hF.hL k hlt
      clear hc hc2 c0 hs
      go_wp2
      go_loopw [37] (fun j wr => ∃ q : Nat, q ≤ L k ∧ j = .int .i64 q ∧ Marked wr n g L X k q ∧ Below w0.heap.size w0 wr) (fun j _ => L k - (intOf j).toNat)
      case atStart => exact ⟨0, Nat.zero_le _, rfl, hMk, hbk⟩
      case round =>
        obtain ⟨q, hq, rfl, hMq, hbq⟩ := hrel
        clear hMk 
        by_cases hj : q < L k
        · obtain ⟨sb, so, rfl, hs⟩ := HS.out (by omega)
          have c2 := cell_kept hbq (hs q hj)
          have bx := hF.hX k q hlt hj
          have bl := HL.out k q hlt hj
          obtain ⟨xn, hxn⟩ : ∃ xn : Nat, X k q = xn := ⟨(X k q).toNat, by omega⟩
          obtain rfl := HV.out (by omega)
          have hM' := hMq.store hxn (by omega)
          obtain ⟨f', hf', _⟩ := hMq
          rw [hxn] at c2 bx bl
          have c3 := (hf' (by omega)).cell (i := xn) (by omega)
          have c4 := (hf' (by omega)).frozen xn
          clear hf' hs hxn
          go_wp2
          go_roundw
          case rel => exact ⟨q + 1, by omega, by go_num, hM', hbq.setCell hg _⟩
          case measure => simp [intOf]; omega
        · have hqe : q = L k := by omega
          subst hqe
          have hM' := hMq.next
          clear hMq
          go_wp2
          go_roundw
          case rel => exact ⟨k + 1, by omega, by go_num, hM', hbq⟩
          case measure => simp [intOf]; omega
    · have hke : k = m := by omega
      subst hke
      go_wp2
      go_end0
      exact ⟨rfl, hMk.own HV.out, hbk⟩

end Go.Proofs.Qxb6626482a
