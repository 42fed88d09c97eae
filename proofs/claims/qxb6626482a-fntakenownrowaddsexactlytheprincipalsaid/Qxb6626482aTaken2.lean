/- The contract of Taken under the rejected rule: the principal vector alone is marked. -/
import Derived.Test.Qxb6626482aTaken
namespace Go.Proofs.Qxb6626482a
open Go.RowKit

set_option maxHeartbeats 1000000 in
theorem taken_principal (bl pn : Nat) (pv rv v : Value) (x : Nat → Int) (n g : Nat) (f : Nat → Bool) (m : Nat) (L' : Nat → Nat) (X' : Nat → Nat → Int) (w0 w : World) (hb : Below w0.heap.size w0 w) (hg : w0.heap.size ≤ g) (hn : n ≤ 9223372036854775807)
    (hpn : ((pn : Int) == 1) = false) (c0 : w0.cell? ⟨bl, 0, none⟩ = some pv) (c1 : w0.cell? ⟨bl, 1, none⟩ = some rv) (hP : SymsAt w0 pv pn x) (hR : RowsAt w0 rv m L' X') (hF : Fits 1 (fun _ => pn) (fun _ => x)) (hlow : ∀ j, j < pn → x j < n) (hG : OwnBools w v n g f) :
    Calls Try.prog 11 #[.pointer (some ⟨bl, 0, none⟩), .int .i64 1, v] w fun e w' => e = .returned (.tuple #[]) ∧ (∃ f, OwnBools w' v n g f ∧ ∀ i, i < n → (f i = true ↔ Occurs 1 (fun _ => pn) (fun _ => x) i)) ∧ Below w0.heap.size w0 w' := by
  obtain ⟨wc, hcl, hown, hbc⟩ := clear_run v n g f w hG w0.heap.size hg
  have hbel := hb.trans hbc
  have d0 := cell_kept hbel c0
  have d1 := cell_kept hbel c1
  have HL : Hid (∀ j, j < pn → x j < n) := hlow
  obtain ⟨pa, pc, rfl, hs⟩ := hP
  have HS : Hid (0 < pn → ∃ b off, pa = some ⟨b, off, none⟩ ∧ ∀ j, j < pn → w0.cell? ⟨b, off + j, none⟩ = some (.int .u16 (x j))) := hs
  obtain ⟨ra, rc, rfl, _⟩ := hR
  obtain ⟨va, vc, rfl, hva⟩ := hown
  have hM : Marked wc n g (fun _ => pn) (fun _ => x) 0 0 := Marked.start _ _ (fun h => (hva h).2)
  have HV : Hid (0 < n → va = some ⟨g, 0, none⟩ ∧ g < wc.heap.size) := fun h => ⟨(hva h).1, (hva h).2.lt⟩
  have hpn2 := hF.hL 0 (by omega)
  have hsz := hbel.size
  clear hbc hG hva hlow c0 c1 hs
  go_enter Try.func11, Try.ntmps11
  go_wp2_with (simp only [hcl])
  go_loopw [31] (fun i wr => ∃ k : Nat, k ≤ 1 ∧ i = .int .i64 k ∧ Marked wr n g (fun _ => pn) (fun _ => x) k 0 ∧ Below w0.heap.size w0 wr ∧ wr.cell? ⟨wc.heap.size, 0, none⟩ = some (.slice pa pn pc)) (fun i _ => 1 - (intOf i).toNat)
  case atStart => exact ⟨0, Nat.zero_le _, rfl, hM.alloc _, hbel.alloc hsz _, World.cell?_alloc_at _ _ _ _ rfl⟩
  case round =>
    obtain ⟨k, hk, rfl, hMk, hbk, hck⟩ := hrel
    clear hM hbel hcl d0 d1
    by_cases hlt : k < 1
    · obtain rfl : k = 0 := by omega
      go_wp2
      go_loopw [37] (fun j wr => ∃ q : Nat, q ≤ pn ∧ j = .int .i64 q ∧ Marked wr n g (fun _ => pn) (fun _ => x) 0 q ∧ Below w0.heap.size w0 wr ∧ wr.cell? ⟨wc.heap.size, 0, none⟩ = some (.slice pa pn pc)) (fun j _ => pn - (intOf j).toNat)
      case atStart => exact ⟨0, Nat.zero_le _, rfl, hMk, hbk, hck⟩
      case round =>
        obtain ⟨q, hq, rfl, hMq, hbq, hcq⟩ := hrel
        clear hMk hck hbk
        by_cases hj : q < pn
        · obtain ⟨sb, so, rfl, hs⟩ := HS.out (by omega)
          have c2 := cell_kept hbq (hs q hj)
          have bx := hF.hX 0 q (by omega) hj
          have bl := HL.out q hj
          obtain ⟨xn, hxn⟩ : ∃ xn : Nat, x q = xn := ⟨(x q).toNat, by omega⟩
          obtain ⟨rfl, hgl⟩ := HV.out (by omega)
          have hM' := hMq.store hxn (by omega)
          obtain ⟨f', hf', _⟩ := hMq
          simp only [hxn] at c2 bx bl
          have c3 := (hf' (by omega)).cell (i := xn) (by omega)
          have c4 := (hf' (by omega)).frozen xn
          have HK : Hid (∀ u, (wr.setCell ⟨g, xn, none⟩ u).cell? ⟨wc.heap.size, 0, none⟩ = some (.slice (some ⟨sb, so, none⟩) pn pc)) := fun u => by
            rw [World.cell?_setCell_other _ _ _ _ (fun e => by have := congrArg Addr.block e; simp at this; omega)]
            exact hcq
          clear hf' hs hxn hcq
          go_wp2
          go_roundw
          case rel => exact ⟨q + 1, by omega, by go_num, hM', hbq.setCell hg _, HK.out _⟩
          case measure => simp [intOf]; omega
        · have hqe : q = pn := by omega
          subst hqe
          have hM' := hMq.next
          clear hMq
          go_wp2
          go_roundw
          case rel => exact ⟨1, by omega, by go_num, hM', hbq, hcq⟩
          case measure => simp [intOf]
    · have hke : k = 1 := by omega
      subst hke
      go_wp2
      go_end0
      exact ⟨rfl, hMk.own (fun h => (HV.out h).1), hbk⟩

end Go.Proofs.Qxb6626482a
