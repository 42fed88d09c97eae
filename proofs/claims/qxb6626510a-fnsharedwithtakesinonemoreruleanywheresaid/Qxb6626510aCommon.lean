/- What both laws share. -/
import Derived.Test.Qxb6626510aBuild
import Derived.Test.Qxb6626510aSize
import Derived.Lib.SliceRun
namespace Go.Proofs.Qxb6626510a
open Go.RowKit Go.Maps

theorem same_sets (u v : Value) (n n' : Nat) (p q : ByteArray → Prop) (w : World) (hn : n ≤ 1099511627776) (hU : SetAt w u n p) (hV : SetAt w v n' q) (e : ∀ b, p b ↔ q b) :
    Calls Try.prog 10 #[u, v] w fun e w' => e = .returned (.bool true) ∧ Below w.heap.size w w' := by
  obtain ⟨k, s, h1, h2, h3, h4⟩ := hU
  obtain ⟨k', s', h1', h2', h3', h4'⟩ := hV
  obtain ⟨rfl, hs⟩ := Plain.uniq h3 h3' (fun b => by rw [h4, h4', e])
  exact same_yes u v k s w (by omega) h2 (h2'.congr (fun j hj => (hs j hj).symm))

theorem rules_to {w : World} {a : Option Addr} {m cap cut : Nat} {R : Nat → RD} (h : RulesAt w (.slice a m cap) m R) (hc : cut ≤ m) : RulesAt w (.slice a cut cap) cut R := by
  obtain ⟨a', cap', e, hcap, hmax, hnil, hd⟩ := h
  obtain ⟨rfl, rfl⟩ : a = a' ∧ cap = cap' := by cases e; exact ⟨rfl, rfl⟩
  refine ⟨a, cap, rfl, by omega, hmax, hnil, fun h0 => ?_⟩
  obtain ⟨b, off, rfl, hr⟩ := hd (by omega)
  exact ⟨b, off, rfl, fun i hi => hr i (by omega)⟩

theorem rules_from {w : World} {b off m cap cut : Nat} {R : Nat → RD} (hm : m ≤ cap) (hmax : cap ≤ 9223372036854775807) (hd : ∀ i, i < m → RuleAt w b (off + i * 5) (R i)) (hc : cut ≤ m) :
    RulesAt w (.slice (some ⟨b, off + cut * 5, none⟩) (m - cut) (cap - cut)) (m - cut) (fun i => R (cut + i)) := by
  refine ⟨_, cap - cut, rfl, by omega, by omega, fun h => (by cases h), fun h0 => ⟨b, off + cut * 5, rfl, fun i hi => ?_⟩⟩
  have := hd (cut + i) (by omega)
  rw [Nat.add_mul, ← Nat.add_assoc] at this
  exact this

theorem rules_none (w : World) (a : Option Addr) (R : Nat → RD) : RulesAt w (.slice a 0 0) 0 R := ⟨a, 0, rfl, Nat.le_refl _, by omega, fun _ => rfl, fun h => absurd h (Nat.lt_irrefl _)⟩

theorem named_cut {m cut : Nat} {R : Nat → RD} (hc : cut ≤ m) (b : ByteArray) : Named m R b ↔ Named cut R b ∨ Named (m - cut) (fun i => R (cut + i)) b := by
  constructor
  · rintro ⟨i, hi, h⟩
    by_cases e : i < cut
    · exact .inl ⟨i, e, h⟩
    · exact .inr ⟨i - cut, by omega, by show (R (cut + (i - cut))).isNil = false ∧ Plain.Mem (R (cut + (i - cut))).np (R (cut + (i - cut))).xp b; rw [show cut + (i - cut) = i by omega]; exact h⟩
  · rintro (⟨i, hi, h⟩ | ⟨i, hi, h⟩)
    · exact ⟨i, by omega, h⟩
    · exact ⟨cut + i, by omega, h⟩

theorem named_end (m : Nat) (R : Nat → RD) (b : ByteArray) : Named m R b ↔ Named m R b ∨ Named 0 (fun i => R (m + i)) b :=
  ⟨.inl, fun h => h.elim id (fun ⟨_, hi, _⟩ => absurd hi (Nat.not_lt_zero _))⟩

end Go.Proofs.Qxb6626510a
