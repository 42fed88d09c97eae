/- What the walks say of memory: slices of symbols, slices of such slices, a row of bools of the call's own. -/
import Derived.Test.Qxb6626482aRows
import Derived.WalkKit
import Derived.WalkSpells
import Derived.WalkLawsBesides
import Derived.Deep.OwnRows
namespace Go.Proofs.Qxb6626482a
open Go.RowKit

theorem hid {p : Prop} (h : p) : Hid p := h

theorem at_plain (b off i : Nat) : (⟨b, off, none⟩ : Addr).add i = ⟨b, off + i, none⟩ := by
  unfold Addr.add
  split <;> simp_all

theorem cell_kept {w w' : World} (hb : Below w.heap.size w w') {a : Addr} {v : Value} (h : w.cell? a = some v) : w'.cell? a = some v :=
  (hb.cell (World.block_lt_of_cell? w a h)).trans h

theorem row_kept {w w' : World} (hb : Below w.heap.size w w') {b : Nat} {t : TypeId} {n : Nat} {f : Nat → Value} (h : w.rowIs b t n f) : w'.rowIs b t n f :=
  h.of_block (hb.block b h.lt)

theorem below_trans {N : Nat} {a b c : World} (h : Below N a b) (k : Below b.heap.size b c) (hN : N ≤ b.heap.size) : Below N a c := h.trans (k.mono hN)

/-- the slice value v reads as n symbols x 0, x 1, .. -/
def SymsAt (w : World) (v : Value) (n : Nat) (x : Nat → Int) : Prop :=
  ∃ a cap, v = .slice a n cap ∧ (0 < n → ∃ b off, a = some ⟨b, off, none⟩ ∧ ∀ j, j < n → w.cell? ⟨b, off + j, none⟩ = some (.int .u16 (x j)))

theorem SymsAt.kept {w w' : World} {v : Value} {n : Nat} {x : Nat → Int} (h : SymsAt w v n x) (hb : Below w.heap.size w w') : SymsAt w' v n x := by
  obtain ⟨a, cap, rfl, hc⟩ := h
  refine ⟨a, cap, rfl, fun hn => ?_⟩
  obtain ⟨b, off, rfl, hd⟩ := hc hn
  exact ⟨b, off, rfl, fun j hj => cell_kept hb (hd j hj)⟩

/-- the slice value v reads as m rows, row i of L i symbols X i 0, X i 1, .. -/
def RowsAt (w : World) (v : Value) (m : Nat) (L : Nat → Nat) (X : Nat → Nat → Int) : Prop :=
  ∃ a cap, v = .slice a m cap ∧ (0 < m → ∃ b off, a = some ⟨b, off, none⟩ ∧ ∀ i, i < m → ∃ rv, w.cell? ⟨b, off + i, none⟩ = some rv ∧ SymsAt w rv (L i) (X i))

theorem RowsAt.kept {w w' : World} {v : Value} {m : Nat} {L : Nat → Nat} {X : Nat → Nat → Int} (h : RowsAt w v m L X) (hb : Below w.heap.size w w') : RowsAt w' v m L X := by
  obtain ⟨a, cap, rfl, hc⟩ := h
  refine ⟨a, cap, rfl, fun hn => ?_⟩
  obtain ⟨b, off, rfl, hd⟩ := hc hn
  refine ⟨b, off, rfl, fun i hi => ?_⟩
  obtain ⟨rv, h1, h2⟩ := hd i hi
  exact ⟨rv, cell_kept hb h1, h2.kept hb⟩

/-- the lengths and the symbols are in their ranges -/
structure Fits (m : Nat) (L : Nat → Nat) (X : Nat → Nat → Int) : Prop where
  hm : m ≤ 9223372036854775807
  hL : ∀ i, i < m → L i ≤ 9223372036854775807
  hX : ∀ i j, i < m → j < L i → 0 ≤ X i j ∧ X i j ≤ 65535

/-- the slice value v reads as n bools -/
def BoolsAt (w : World) (v : Value) (n : Nat) (f : Nat → Bool) : Prop :=
  ∃ a cap, v = .slice a n cap ∧ (0 < n → ∃ b off, a = some ⟨b, off, none⟩ ∧ ∀ j, j < n → w.cell? ⟨b, off + j, none⟩ = some (.bool (f j)))

theorem BoolsAt.kept {w w' : World} {v : Value} {n : Nat} {f : Nat → Bool} (h : BoolsAt w v n f) (hb : Below w.heap.size w w') : BoolsAt w' v n f := by
  obtain ⟨a, cap, rfl, hc⟩ := h
  refine ⟨a, cap, rfl, fun hn => ?_⟩
  obtain ⟨b, off, rfl, hd⟩ := hc hn
  exact ⟨b, off, rfl, fun j hj => cell_kept hb (hd j hj)⟩

/-- v is a slice of n bools in the block g of the call's own -/
def OwnBools (w : World) (v : Value) (n g : Nat) (f : Nat → Bool) : Prop :=
  ∃ a cap, v = .slice a n cap ∧ (0 < n → a = some ⟨g, 0, none⟩ ∧ w.rowIs g 4 n (fun i => .bool (f i)))

theorem OwnBools.kept {w w' : World} {v : Value} {n g : Nat} {f : Nat → Bool} (h : OwnBools w v n g f) (hb : Below w.heap.size w w') : OwnBools w' v n g f := by
  obtain ⟨a, cap, rfl, hc⟩ := h
  refine ⟨a, cap, rfl, fun hn => ?_⟩
  obtain ⟨rfl, hr⟩ := hc hn
  exact ⟨rfl, row_kept hb hr⟩

theorem OwnBools.bools {w : World} {v : Value} {n g : Nat} {f : Nat → Bool} (h : OwnBools w v n g f) : BoolsAt w v n f := by
  obtain ⟨a, cap, rfl, hc⟩ := h
  refine ⟨a, cap, rfl, fun hn => ?_⟩
  obtain ⟨rfl, hr⟩ := hc hn
  exact ⟨g, 0, rfl, fun j hj => by rw [Nat.zero_add]; exact hr.cell hj⟩

/-- v is a slice of n symbols in a block of the call's own, from 'base' on -/
def OwnSyms (w : World) (base : Nat) (v : Value) (n : Nat) (x : Nat → Int) : Prop :=
  ∃ a cap, v = .slice a n cap ∧ (0 < n → ∃ g, base ≤ g ∧ a = some ⟨g, 0, none⟩ ∧ w.rowIs g 40 n (fun i => .int .u16 (x i)))

theorem OwnSyms.kept {w w' : World} {base : Nat} {v : Value} {n : Nat} {x : Nat → Int} (h : OwnSyms w base v n x) (hb : Below w.heap.size w w') : OwnSyms w' base v n x := by
  obtain ⟨a, cap, rfl, hc⟩ := h
  refine ⟨a, cap, rfl, fun hn => ?_⟩
  obtain ⟨g, hg, rfl, hr⟩ := hc hn
  exact ⟨g, hg, rfl, row_kept hb hr⟩

theorem OwnSyms.mono {w : World} {base base' : Nat} {v : Value} {n : Nat} {x : Nat → Int} (h : OwnSyms w base v n x) (hb : base' ≤ base) : OwnSyms w base' v n x := by
  obtain ⟨a, cap, rfl, hc⟩ := h
  refine ⟨a, cap, rfl, fun hn => ?_⟩
  obtain ⟨g, hg, rfl, hr⟩ := hc hn
  exact ⟨g, Nat.le_trans hb hg, rfl, hr⟩

theorem OwnSyms.set {w : World} {base : Nat} {v : Value} {n : Nat} {x : Nat → Int} (h : OwnSyms w base v n x) {p : Addr} (hp : p.block < base) (u : Value) : OwnSyms (w.setCell p u) base v n x := by
  obtain ⟨a, cap, rfl, hc⟩ := h
  refine ⟨a, cap, rfl, fun hn => ?_⟩
  obtain ⟨g, hg, rfl, hr⟩ := hc hn
  exact ⟨g, hg, rfl, hr.setOther (by omega) u⟩

theorem OwnSyms.syms {w : World} {base : Nat} {v : Value} {n : Nat} {x : Nat → Int} (h : OwnSyms w base v n x) : SymsAt w v n x := by
  obtain ⟨a, cap, rfl, hc⟩ := h
  refine ⟨a, cap, rfl, fun hn => ?_⟩
  obtain ⟨g, hg, rfl, hr⟩ := hc hn
  exact ⟨g, 0, rfl, fun j hj => by rw [Nat.zero_add]; exact hr.cell hj⟩

/-- one row alone, in a block of its own -/
theorem RowsAt.one {w : World} {v : Value} {n : Nat} {x : Nat → Int} (h : SymsAt w v n x) (t : TypeId) :
    RowsAt (w.alloc (.cells #[v] t)) (.slice (some ⟨w.heap.size, 0, none⟩) 1 1) 1 (fun _ => n) (fun _ => x) := by
  refine ⟨_, 1, rfl, fun _ => ⟨w.heap.size, 0, rfl, fun i hi => ⟨v, ?_, h.kept ((Below.refl _ _).alloc (Nat.le_refl _) _)⟩⟩⟩
  obtain rfl : i = 0 := by omega
  exact World.cell?_alloc_at _ _ _ _ rfl

theorem RowsAt.none (w : World) (L : Nat → Nat) (X : Nat → Nat → Int) : RowsAt w (.slice .none 0 0) 0 L X := ⟨.none, 0, rfl, fun h => absurd h (Nat.lt_irrefl _)⟩

/-- the symbol i stands in some row -/
def Occurs (m : Nat) (L : Nat → Nat) (X : Nat → Nat → Int) (i : Nat) : Prop := ∃ k j, k < m ∧ j < L k ∧ X k j = i

end Go.Proofs.Qxb6626482a
