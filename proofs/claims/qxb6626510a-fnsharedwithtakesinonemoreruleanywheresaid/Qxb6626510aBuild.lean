/- The contract of buildParty. -/
import Derived.Test.Qxb6626510aShared
import Derived.Deep.RegionHeld3
import Derived.Deep.AppendLies
import Derived.Deep.DrawnRows
namespace Go.Proofs.Qxb6626510a
open Go.RowKit Go.Maps

theorem Try.info49 : (Try.prog.info? 49).map (fun i => (i.zero, i.size, i.bytes)) = some (some (.agg #[.slice none 0 0, .map none, .string ⟨#[]⟩]), 3, 48) := by kernel_rfl

theorem share_new (xa : Option Addr) (xn xc : Nat) (o : Option Nat) (s : ByteArray) (w : World) :
    Calls Try.prog 16 #[.slice xa xn xc, .map o, .string s] w fun e w' => e = .returned (.agg #[.slice xa xn xc, .map o, .string s]) ∧ Below w.heap.size w w' := by
  go_enter Try.func16, Try.ntmps16
  go_wp2
  exact bodyPost_ret (v := .agg #[.slice xa xn xc, .map o, .string s]) (by simp [results, Try.results16, go_sem]) rfl ⟨rfl, (Below.refl _ _).alloc (Nat.le_refl _) _⟩

theorem row_ne_map {H : Type} {P : Program} {k : TypeId} {Rd : Value → Option (DataW H × List MemPlace)} {w : World} {b n : Nat} {D : DataW H} {base : Nat} {e : TypeId} {size : Nat} {v : Value} {m : Nat} {xs : List Value}
    (h : w.ownsRow base e size v m xs) (hr : w.ownsMap P k Rd b n D) : some b ≠ v.ownBlock := by
  obtain ⟨es, clock, hm, _⟩ := hr
  rcases h.2 with ⟨rfl, _⟩ | ⟨g, cap, cur, rfl, _, hb, _⟩
  · simp [Value.ownBlock]
  · intro e1
    have : b = g := by simpa [Value.ownBlock] using e1
    subst this
    rw [hm] at hb
    cases hb

theorem own_kept {w w' : World} {base : Nat} {e : TypeId} {size : Nat} {v : Value} {m : Nat} {xs : List Value} (h : w.ownsRow base e size v m xs) (hb : Below w.heap.size w w') : w'.ownsRow base e size v m xs :=
  h.kept (grown_of_below hb) (Classical.em _)

/-- the cells xs are k rules of "shares" -/
def ShareCells (w : World) (base k : Nat) (xs : List Value) (R : Nat → RD) : Prop :=
  ∀ i, i < k → ∃ xa xn xc mv s, xs[i * 3]? = some (.slice xa xn xc) ∧ xs[i * 3 + 1]? = some mv ∧ xs[i * 3 + 2]? = some (.string s) ∧ WithAt w base mv (R i)

theorem with_grown {w w' : World} {base base' : Nat} {e : TypeId} {size : Nat} {v : Value} {m : Nat} {xs : List Value} {mv : Value} {r : RD} (h : WithAt w base mv r) (ho : w.ownsRow base' e size v m xs) (hg : w.grownBy w' v.ownBlock) : WithAt w' base mv r := by
  rcases h with h | ⟨h1, g, D, h2, h3, h4, h5⟩
  · exact .inl h
  · exact .inr ⟨h1, g, D, h2, h3, h4.kept hg (row_ne_map ho h4), h5⟩

theorem with_map {w : World} {base : Nat} {mv : Value} {r : RD} (h : WithAt w base mv r) : ∃ o, mv = .map o := by
  rcases h with ⟨_, rfl⟩ | ⟨_, g, D, rfl, _⟩ <;> exact ⟨_, rfl⟩

theorem with_mono {w : World} {base base' : Nat} {mv : Value} {r : RD} (h : WithAt w base mv r) (hb : base' ≤ base) : WithAt w base' mv r := by
  rcases h with h | ⟨h1, g, D, h2, h3, h4, h5⟩
  · exact .inl h
  · exact .inr ⟨h1, g, D, h2, by omega, h4, h5⟩

theorem cell_far {W wr w1 w2 w3 : World} {o : Obj} {e : TypeId} {size : Nat} {v : Value} {m : Nat} {xs : List Value} {b off : Nat} {u : Value} (h : wr.ownsRow W.heap.size e size v m xs) (hb : b < W.heap.size) (hb1 : Below wr.drew.heap.size wr.drew w1) (hb2 : Below w1.heap.size w1 w2)
    (hg : (w2.alloc o).grownBy w3 v.ownBlock) (hc : wr.cell? ⟨b, off, none⟩ = some u) : w3.cell? ⟨b, off, none⟩ = some u := by
  have h2 : w2.cell? ⟨b, off, none⟩ = some u := cell_kept hb2 (cell_kept hb1 hc)
  have h3 : (w2.alloc o).cell? ⟨b, off, none⟩ = some u := (World.cell?_alloc_past _ _ _ (World.block_lt_of_cell? w2 _ h2)).trans h2
  exact hg.cell h3 (fun e => by have := (h.lt b e.symm).1; omega)

/-- a pointer to a party whose rules are R -/
def PartyAt (e : Ending) (w : World) (m : Nat) (R : Nat → RD) : Prop := ∃ pb sv, e = .returned (.pointer (some ⟨pb, 0, none⟩)) ∧ w.cell? ⟨pb, 4, none⟩ = some sv ∧ SharesAt w sv m R

theorem share_done {w : World} {base k : Nat} {v : Value} {xs : List Value} {R : Nat → RD} (h : w.ownsRow base 49 3 v k xs) (hsc : ShareCells w base k xs R) : ∃ sa sc, v = .slice sa k sc ∧ SharesAt w v k R := by
  rcases h.2 with ⟨rfl, rfl⟩ | ⟨g, cap, cur, rfl, _⟩
  · exact ⟨_, _, rfl, none, 0, rfl, fun h => absurd h (Nat.lt_irrefl _)⟩
  · refine ⟨_, _, rfl, _, _, rfl, fun _ => ⟨g, 0, rfl, fun i hi => ?_⟩⟩
    obtain ⟨xa, xn, xc, mv, s, h1, h2, h3, h4⟩ := hsc i hi
    have d1 := h.cells (g := g) rfl _ _ h1
    have d2 := h.cells (g := g) rfl _ _ h2
    have d3 := h.cells (g := g) rfl _ _ h3
    rw [at_plain] at d1 d2 d3
    exact ⟨xa, xn, xc, mv, s, d1, d2, d3, with_mono h4 (Nat.zero_le _)⟩

theorem w2_drew {W wr : World} (h : Below W.heap.size W wr) : Below W.heap.size W wr.drew := h.drew

theorem share_step {W wr w1 w2 w3 : World} {v : Value} {k : Nat} {xs : List Value} {R : Nat → RD} {xa : Option Addr} {xn xc : Nat} {mo : Option Nat} {ow : ByteArray} (h : wr.ownsRow W.heap.size 49 3 v k xs) (hbel : Below W.heap.size W wr) (hsc : ShareCells wr W.heap.size k xs R)
    (hmv : WithAt w1 wr.drew.heap.size (.map mo) (R k)) (hb1 : Below wr.drew.heap.size wr.drew w1) (hb2 : Below w1.heap.size w1 w2) (hg : (w2.alloc (.cells #[.slice xa xn xc, .map mo, .string ow] 49)).grownBy w3 v.ownBlock) :
    ShareCells w3 W.heap.size (k + 1) (xs ++ [.slice xa xn xc, .map mo, .string ow]) R ∧ Below W.heap.size W w3 := by
  have hlen : xs.length = k * 3 := h.1
  have ho : (w2.alloc (.cells #[.slice xa xn xc, .map mo, .string ow] 49)).ownsRow W.heap.size 49 3 v k xs := (own_kept (own_kept h.drew hb1) hb2).alloc _
  have hba : Below w2.heap.size w2 (w2.alloc (.cells #[.slice xa xn xc, .map mo, .string ow] 49)) := (Below.refl _ _).alloc (Nat.le_refl _) _
  refine ⟨fun i hi => ?_, ?_⟩
  · by_cases e : i = k
    · subst e
      refine ⟨xa, xn, xc, .map mo, ow, ?_, ?_, ?_, with_grown ((with_mono hmv hbel.size).kept hb2 |>.kept hba) ho hg⟩
      · rw [List.getElem?_append_right (by omega), hlen]; simp
      · rw [List.getElem?_append_right (by omega), hlen]; simp
      · rw [List.getElem?_append_right (by omega), hlen]; simp
    · obtain ⟨ya, yn, yc, mv, s, h1, h2, h3, h4⟩ := hsc i (by omega)
      refine ⟨ya, yn, yc, mv, s, ?_, ?_, ?_, with_grown (WithAt.kept (WithAt.kept (WithAt.kept (w := wr.drew) h4 hb1) hb2) hba) ho hg⟩
      · rw [List.getElem?_append_left (by omega)]; exact h1
      · rw [List.getElem?_append_left (by omega)]; exact h2
      · rw [List.getElem?_append_left (by omega)]; exact h3
  · have B2 := btrans (btrans (w2_drew hbel) hb1) hb2
    exact (B2.alloc B2.size _).grown hg (by have := B2.size; simp; omega) (fun j hj => (h.lt j hj).1)

set_option maxRecDepth 100000 in
set_option maxHeartbeats 2000000 in
theorem build_any (v : Value) (m : Nat) (R : Nat → RD) (w : World) (hm : m ≤ 65537) (hp : ∀ i, i < m → (R i).np ≤ 1048576) (hF : ∀ i, i < m → RFits (R i)) (hR : RulesAt w v m R) :
    Calls Try.prog 8 #[v] w fun e w' => PartyAt e w' m R ∧ Below w.heap.size w w' := by
  obtain ⟨a, cap, rfl, _, _, _, hc⟩ := hR
  have HC := hid hc
  have HP := hid hp
  have HF := hid hF
  obtain ⟨i0, hi, hz0, hz1, hz2⟩ := info_parts Try.info49
  clear hc hp hF
  go_enter Try.func8, Try.ntmps8
  go_wp2_with (at_make; refine wpList_make_own _ rfl _ _ 44 rfl w.heap.size 49 i0 _ 3 Try.underlying44 hi hz0 hz1 _ _ _ m rfl rfl rfl (by rw [hz2]; omega) (by unfold maxLen; omega) (Nat.le_refl _) ?_; intro w1 hown1 hgrow1)
  have B1 := (Below.refl w.heap.size w).grown hgrow1 (Nat.le_refl _) (fun k h => by cases h)
  clear hgrow1
  go_wp2
  go_loopw [3, 4] (fun o i wr => ∃ (k : Nat) (xs : List Value), k ≤ m ∧ i = .int .i64 k ∧ wr.ownsRow w.heap.size 49 3 o k xs ∧ Hid (ShareCells wr w.heap.size k xs R) ∧ Below w.heap.size w wr) (fun _ i _ => m - (intOf i).toNat)
  case atStart => exact ⟨0, [], Nat.zero_le _, rfl, hown1, fun i h => absurd h (Nat.not_lt_zero _), B1⟩
  case round =>
    obtain ⟨k, xs, hk, rfl, hown, hsc, hbel⟩ := hrel
    clear hown1 B1
    by_cases hlt : k < m
    · obtain ⟨b, off, rfl, hd⟩ := HC.out (by omega)
      obtain ⟨v0, v1, v2, hr, e0, e1, e2, e3, e4⟩ := hd k hlt
      have c0 := cell_kept hbel e0
      have c1 := cell_kept hbel e1
      have c2 := cell_kept hbel e2
      have c3 := cell_kept hbel e3
      have c4 := cell_kept hbel e4
      have hbw : b < w.heap.size := World.block_lt_of_cell? w _ e0
      have hrk := hr.kept hbel
      have HR := hid hrk
      obtain ⟨⟨xa, xc, rfl, _⟩, ⟨ya, yc, rfl, _⟩, ⟨za, zc, rfl, _⟩⟩ := hr
      have hkz : (k : Int) < (m : Int) := by omega
      have hk0 : (0 : Int) ≤ (k : Int) := by omega
      clear hd e0 e1 e2 e3 e4 hrk
      have hfk := HF.out k hlt
      have hpk := HP.out k hlt
      have HO := hid hown
      go_wp2_with fail
      go_region_held3 (fun w' => w'.cell? ⟨b, off + k * 5, none⟩ = some (.slice xa (R k).na xc) ∧ w'.cell? ⟨b, off + k * 5 + 1, none⟩ = some (.slice ya (R k).np yc) ∧ w'.cell? ⟨b, off + k * 5 + 2, none⟩ = some (.slice za (R k).nf zc) ∧ w'.cell? ⟨b, off + k * 5 + 3, none⟩ = some (.bool (R k).isNil) ∧ w'.cell? ⟨b, off + k * 5 + 4, none⟩ = some (.string (R k).owner))
        (first
          | go_keep
          | (exact ⟨cell_kept hb1 c0, cell_kept hb1 c1, cell_kept hb1 c2, cell_kept hb1 c3, cell_kept hb1 c4⟩)
          | (exact ⟨cell_kept hb2 (cell_kept hb1 c0), cell_kept hb2 (cell_kept hb1 c1), cell_kept hb2 (cell_kept hb1 c2), cell_kept hb2 (cell_kept hb1 c3), cell_kept hb2 (cell_kept hb1 c4)⟩)
          | (exact ⟨cell_far hown hbw hb1 hb2 hgrow c0, cell_far hown hbw hb1 hb2 hgrow c1, cell_far hown hbw hb1 hb2 hgrow c2, cell_far hown hbw hb1 hb2 hgrow c3, cell_far hown hbw hb1 hb2 hgrow c4⟩))
        (first
          | (go_at_call 17; refine (with_any _ _ _ (R k) _ (HR.out.kept (Below.drew (Below.refl _ _))) hfk hpk).mono ?_; rintro e w1 ⟨mv, rfl, hmv, hb1⟩; obtain ⟨mo, rfl⟩ := with_map hmv)
          | (go_at_call 16; refine (share_new _ _ _ _ _ _).mono ?_; rintro e w2 ⟨rfl, hb2⟩)
          | (refine step_append_lies _ (by rfl) _ _ _ (by rfl) w.heap.size 49 i0 _ 3 48 Try.underlying44 hi hz0 hz1 hz2 rfl (by omega) _ k xs (by rfl) ((own_kept (own_kept HO.out.drew hb1) hb2).alloc _) ⟨w2.heap.size, 0, none⟩ 1 1 [.slice xa (R k).na xc, .map mo, .string (R k).owner] (by rfl) (by rfl) (World.news_of_block (cs := #[.slice xa (R k).na xc, .map mo, .string (R k).owner]) (t := 49) (fr := (0, 0)) (heap_alloc_new w2 _)) (by simp [Value.oneCell']) (by omega) (by unfold maxLen; omega) (by omega) (by have := hbel.size; have := hb1.size; have := hb2.size; simp at *; omega) (w2.heap.size + 1) (by simp) ?_; intro gg cap' w3 hown3 hgrow hat hlt3))
      have RS := share_step hown hbel hsc.out hmv hb1 hb2 hgrow
      clear hgrow hat hlt3 hmv hb1 hb2 hown hbel c0 c1 c2 c3 c4
      go_wp2
      go_roundw
      case rel => exact ⟨k + 1, _, by omega, by go_num, hown3, RS.1, RS.2⟩
      case measure => simp [intOf]; omega
    · have hke : m = k := by omega
      subst hke
      obtain ⟨sa, sc, rfl, hSh⟩ := share_done hown hsc.out
      have HSh := hid hSh
      clear hSh hown
      go_wp2
      go_ret
      exact ⟨⟨wr.heap.size, _, rfl, World.cell?_alloc_at _ _ _ _ rfl, HSh.out.kept ((Below.refl _ _).alloc (Nat.le_refl _) _)⟩, hbel.alloc hbel.size _⟩

end Go.Proofs.Qxb6626510a
