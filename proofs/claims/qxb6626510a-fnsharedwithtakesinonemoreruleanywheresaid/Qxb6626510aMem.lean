/- What the walks say of memory: slices of strings and of bools, rules, slices of rules. -/
import Derived.Test.Qxb6626510aRows
import Derived.Test.Qxb6626510aPlain
import Derived.WalkKit
import Derived.WalkSpells
import Derived.WalkLawsBesides
import Derived.Deep.OwnRows
namespace Go.Proofs.Qxb6626510a
open Go.RowKit

theorem hid {p : Prop} (h : p) : Hid p := h

theorem at_plain (b off i : Nat) : (⟨b, off, none⟩ : Addr).add i = ⟨b, off + i, none⟩ := by
  unfold Addr.add
  split <;> simp_all

theorem cell_kept {w w' : World} (hb : Below w.heap.size w w') {a : Addr} {v : Value} (h : w.cell? a = some v) : w'.cell? a = some v :=
  (hb.cell (World.block_lt_of_cell? w a h)).trans h

theorem btrans {a b c : World} (h : Below a.heap.size a b) (k : Below b.heap.size b c) : Below a.heap.size a c := h.trans (k.mono h.size)

/-- the slice value v reads as the n strings s 0, s 1, .. -/
def StrsAt (w : World) (v : Value) (n : Nat) (s : Nat → ByteArray) : Prop :=
  ∃ a cap, v = .slice a n cap ∧ n ≤ cap ∧ (a = .none → cap = 0) ∧ (0 < n → ∃ b off, a = some ⟨b, off, none⟩ ∧ ∀ j, j < n → w.cell? ⟨b, off + j, none⟩ = some (.string (s j)))

theorem StrsAt.kept {w w' : World} {v : Value} {n : Nat} {s : Nat → ByteArray} (h : StrsAt w v n s) (hb : Below w.heap.size w w') : StrsAt w' v n s := by
  obtain ⟨a, cap, rfl, hcap, hnil, hc⟩ := h
  refine ⟨a, cap, rfl, hcap, hnil, fun hn => ?_⟩
  obtain ⟨b, off, rfl, hd⟩ := hc hn
  exact ⟨b, off, rfl, fun j hj => cell_kept hb (hd j hj)⟩

theorem strs_none (w : World) (s : Nat → ByteArray) : StrsAt w (.slice .none 0 0) 0 s := ⟨.none, 0, rfl, Nat.le_refl _, fun _ => rfl, fun h => absurd h (Nat.lt_irrefl _)⟩

theorem StrsAt.congr {w : World} {v : Value} {n : Nat} {s s' : Nat → ByteArray} (h : StrsAt w v n s) (e : ∀ j, j < n → s j = s' j) : StrsAt w v n s' := by
  obtain ⟨a, cap, rfl, hcap, hnil, hc⟩ := h
  refine ⟨a, cap, rfl, hcap, hnil, fun hn => ?_⟩
  obtain ⟨b, off, rfl, hd⟩ := hc hn
  exact ⟨b, off, rfl, fun j hj => by rw [← e j hj]; exact hd j hj⟩

/-- the slice value v reads as n bools -/
def BoolsAt (w : World) (v : Value) (n : Nat) (f : Nat → Bool) : Prop :=
  ∃ a cap, v = .slice a n cap ∧ (0 < n → ∃ b off, a = some ⟨b, off, none⟩ ∧ ∀ j, j < n → w.cell? ⟨b, off + j, none⟩ = some (.bool (f j)))

theorem BoolsAt.kept {w w' : World} {v : Value} {n : Nat} {f : Nat → Bool} (h : BoolsAt w v n f) (hb : Below w.heap.size w w') : BoolsAt w' v n f := by
  obtain ⟨a, cap, rfl, hc⟩ := h
  refine ⟨a, cap, rfl, fun hn => ?_⟩
  obtain ⟨b, off, rfl, hd⟩ := hc hn
  exact ⟨b, off, rfl, fun j hj => cell_kept hb (hd j hj)⟩

/-- one rule, as plain data -/
structure RD where
  na : Nat
  xa : Nat → ByteArray
  np : Nat
  xp : Nat → ByteArray
  nf : Nat
  xf : Nat → Bool
  isNil : Bool
  owner : ByteArray

/-- the lengths are lengths -/
structure RFits (r : RD) : Prop where
  na : r.na ≤ 9223372036854775807
  np : r.np ≤ 9223372036854775807
  nf : r.nf ≤ 9223372036854775807
  xa : ∀ j, j < r.na → (r.xa j).size ≤ 9223372036854775807
  xp : ∀ j, j < r.np → (r.xp j).size ≤ 9223372036854775807
  owner : r.owner.size ≤ 9223372036854775807

/-- the five values of a rule -/
def RuleOf (w : World) (v0 v1 v2 : Value) (r : RD) : Prop := StrsAt w v0 r.na r.xa ∧ StrsAt w v1 r.np r.xp ∧ BoolsAt w v2 r.nf r.xf

theorem RuleOf.kept {w w' : World} {v0 v1 v2 : Value} {r : RD} (h : RuleOf w v0 v1 v2 r) (hb : Below w.heap.size w w') : RuleOf w' v0 v1 v2 r := ⟨h.1.kept hb, h.2.1.kept hb, h.2.2.kept hb⟩

/-- a rule lies at b, o -/
def RuleAt (w : World) (b o : Nat) (r : RD) : Prop :=
  ∃ v0 v1 v2, RuleOf w v0 v1 v2 r ∧ w.cell? ⟨b, o, none⟩ = some v0 ∧ w.cell? ⟨b, o + 1, none⟩ = some v1 ∧ w.cell? ⟨b, o + 2, none⟩ = some v2 ∧ w.cell? ⟨b, o + 3, none⟩ = some (.bool r.isNil) ∧ w.cell? ⟨b, o + 4, none⟩ = some (.string r.owner)

theorem RuleAt.kept {w w' : World} {b o : Nat} {r : RD} (h : RuleAt w b o r) (hb : Below w.heap.size w w') : RuleAt w' b o r := by
  obtain ⟨v0, v1, v2, h0, h1, h2, h3, h4, h5⟩ := h
  exact ⟨v0, v1, v2, h0.kept hb, cell_kept hb h1, cell_kept hb h2, cell_kept hb h3, cell_kept hb h4, cell_kept hb h5⟩

/-- the slice value v reads as m rules -/
def RulesAt (w : World) (v : Value) (m : Nat) (R : Nat → RD) : Prop :=
  ∃ a cap, v = .slice a m cap ∧ m ≤ cap ∧ cap ≤ 9223372036854775807 ∧ (a = .none → cap = 0) ∧ (0 < cap → ∃ b off, a = some ⟨b, off, none⟩ ∧ ∀ i, i < m → RuleAt w b (off + i * 5) (R i))

theorem RulesAt.kept {w w' : World} {v : Value} {m : Nat} {R : Nat → RD} (h : RulesAt w v m R) (hb : Below w.heap.size w w') : RulesAt w' v m R := by
  obtain ⟨a, cap, rfl, hcap, hmax, hnil, hc⟩ := h
  refine ⟨a, cap, rfl, hcap, hmax, hnil, fun hn => ?_⟩
  obtain ⟨b, off, rfl, hd⟩ := hc hn
  exact ⟨b, off, rfl, fun i hi => (hd i hi).kept hb⟩

/-- the party b stands in a non-nil 'with' of one of the first m rules -/
def Named (m : Nat) (R : Nat → RD) (b : ByteArray) : Prop := ∃ i, i < m ∧ (R i).isNil = false ∧ Plain.Mem (R i).np (R i).xp b

/-- v reads as a strictly increasing list of just the strings that p says, at most n of them -/
def SetAt (w : World) (v : Value) (n : Nat) (p : ByteArray → Prop) : Prop :=
  ∃ k s, k ≤ n ∧ StrsAt w v k s ∧ Plain.Inc k s ∧ ∀ b, Plain.Mem k s b ↔ p b

theorem SetAt.kept {w w' : World} {v : Value} {n : Nat} {p : ByteArray → Prop} (h : SetAt w v n p) (hb : Below w.heap.size w w') : SetAt w' v n p := by
  obtain ⟨k, s, h1, h2, h3, h4⟩ := h
  exact ⟨k, s, h1, h2.kept hb, h3, h4⟩

/-- a slice of strings of the call's own -/
theorem strs_own {w : World} {base g n cap : Nat} {s : Nat → ByteArray} (h : w.ownsRow base 9 1 (.slice (some ⟨g, 0, none⟩) n cap) n ((List.range n).map fun j => Value.string (s j))) : StrsAt w (.slice (some ⟨g, 0, none⟩) n cap) n s := by
  refine ⟨_, _, rfl, ?_, fun h => (by cases h), fun _ => ⟨g, 0, rfl, fun j hj => ?_⟩⟩
  · rcases h.2 with ⟨e, _⟩ | ⟨_, _, _, e, _, _, hc, _⟩
    · cases e
    · cases e; exact hc
  · have := h.cells (g := g) rfl j (.string (s j)) (by simp [hj])
    rw [at_plain] at this
    exact this

/-- a bool is answered; where it is true, p holds -/
def Says (e : Ending) (p : Prop) : Prop := ∃ b : Bool, e = .returned (.bool b) ∧ (b = true → p)

end Go.Proofs.Qxb6626510a
