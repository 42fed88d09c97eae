/- The contract of withOf: the map of one rule. -/
import Derived.Test.Qxb6626510aNamed
import Derived.Maps.OwnSet
namespace Go.Proofs.Qxb6626510a
open Go.RowKit Go.Maps

theorem law9 : Keyed Try.prog 9 := string_keyed Try.underlying9

/-- the map's keys are just what p says -/
def KeysAre (D : DataW Unit) (p : ByteArray → Prop) : Prop := ∀ b : ByteArray, Maps.has D (.string b.data.toList) = true ↔ p b

theorem keys_start {p : ByteArray → Prop} (h : ∀ b, ¬ p b) : KeysAre (.map []) p := fun b => ⟨fun e => by simp [Maps.has] at e, fun e => absurd e (h b)⟩

theorem keys_put {D : DataW Unit} {p : ByteArray → Prop} (h : KeysAre D p) (hD : IsMap D) (x : ByteArray) (d : DataW Unit) : KeysAre (D.put (.string x.data.toList) d) (fun b => p b ∨ b = x) := by
  intro b
  by_cases e : b = x
  · subst e
    exact ⟨fun _ => .inr rfl, fun _ => has_put_same (k := .string b.data.toList) hD (by trivial) d⟩
  · rw [has_put_other (by intro k; injection k with k; exact e (WideShapes.bytes_inj k)) d, h b]
    exact ⟨.inl, fun k => k.elim id (fun k => absurd k e)⟩

theorem keys_congr {D : DataW Unit} {p q : ByteArray → Prop} (h : KeysAre D p) (e : ∀ b, p b ↔ q b) : KeysAre D q := fun b => (h b).trans (e b)

theorem keys_step {D : DataW Unit} {q : Nat} {s : Nat → ByteArray} {d : DataW Unit} (h : KeysAre D (Plain.Mem q s)) (hD : IsMap D) : KeysAre (D.put (.string (s q).data.toList) d) (Plain.Mem (q + 1) s) :=
  keys_congr (keys_put h hD (s q) d) (fun b => by rw [Plain.mem_succ]; exact or_congr Iff.rfl eq_comm)

theorem grown_of_below {w w' : World} (h : Below w.heap.size w w') : w.grownBy w' none := ⟨h.os, h.tape, h.output, h.size, fun k hk _ => h.block k hk⟩

/-- what stands in a rule's 'with': nil, or a map of its own from block 'base' on whose keys are the rule's parties -/
def WithAt (w : World) (base : Nat) (mv : Value) (r : RD) : Prop :=
  (r.isNil = true ∧ mv = .map none) ∨ (r.isNil = false ∧ ∃ g D, mv = .map (some g) ∧ base ≤ g ∧ w.ownsMap Try.prog 9 (plainElem (H := Unit) Try.prog 4) g r.np D ∧ KeysAre D (Plain.Mem r.np r.xp))

theorem WithAt.kept {w w' : World} {base : Nat} {mv : Value} {r : RD} (h : WithAt w base mv r) (hb : Below w.heap.size w w') : WithAt w' base mv r := by
  rcases h with h | ⟨h1, g, D, h2, h3, h4, h5⟩
  · exact .inl h
  · exact .inr ⟨h1, g, D, h2, h3, h4.kept (grown_of_below hb) (by simp), h5⟩

theorem grown_cell {w w' : World} {row : Option Nat} (hg : w.grownBy w' row) {b o : Nat} {v : Value} (h : w.cell? ⟨b, o, none⟩ = some v) (hne : some b ≠ row) : w'.cell? ⟨b, o, none⟩ = some v := hg.cell h hne

set_option maxHeartbeats 1000000 in
set_option maxRecDepth 100000 in
theorem with_any (v0 v1 v2 : Value) (r : RD) (w : World) (hr : RuleOf w v0 v1 v2 r) (hf : RFits r) (hnp : r.np ≤ 1048576) :
    Calls Try.prog 17 #[.agg #[v0, v1, v2, .bool r.isNil, .string r.owner]] w fun e w' => ∃ mv, e = .returned mv ∧ WithAt w' w.heap.size mv r ∧ Below w.heap.size w w' := by
  obtain ⟨⟨a0, p0, rfl, _⟩, ⟨a1, p1, rfl, _, _, hps⟩, ⟨a2, p2, rfl, hfs⟩⟩ := hr
  have HPS := hid hps
  have HFS := hid hfs
  have hnf := hf.nf
  have hmm := @run_makeMap Try.prog
  clear hps hfs
  cases hn : r.isNil
  · go_enter Try.func17, Try.ntmps17
    go_wp2
    go_loopw [4] (fun i wr => ∃ (q : Nat) (D : DataW Unit), q ≤ r.np ∧ i = .int .i64 q ∧ wr.ownsMap Try.prog 9 (plainElem (H := Unit) Try.prog 4) (w.heap.size + 1) q D ∧ Hid (KeysAre D (Plain.Mem q r.xp)) ∧ Below w.heap.size w wr ∧
        wr.cell? ⟨w.heap.size, 1, none⟩ = some (.slice a1 r.np p1) ∧ wr.cell? ⟨w.heap.size, 2, none⟩ = some (.slice a2 r.nf p2)) (fun i _ => r.np - (intOf i).toNat)
    case atStart =>
      refine ⟨0, .map [], Nat.zero_le _, rfl, (by have h := World.ownsMap_made (H := Unit) (w.alloc (.cells #[.slice a0 r.na p0, .slice a1 r.np p1, .slice a2 r.nf p2, .bool false, .string r.owner] 35)) Try.prog 9 (plainElem Try.prog 4); simpa using h), keys_start (fun b ⟨j, h, _⟩ => absurd h (Nat.not_lt_zero _)), ((Below.refl _ _).alloc (Nat.le_refl _) _).alloc (by simp) _, ?_, ?_⟩
      · rw [World.cell?_alloc_past _ _ _ (by simp)]; exact World.cell?_alloc_at _ _ _ _ rfl
      · rw [World.cell?_alloc_past _ _ _ (by simp)]; exact World.cell?_alloc_at _ _ _ _ rfl
    case round =>
      obtain ⟨q, D, hq, rfl, hown, hkeys, hbel, c1, c2⟩ := hrel
      by_cases hj : q < r.np
      · obtain ⟨pb, po, rfl, hps⟩ := HPS.out (by omega)
        have c3 := cell_kept hbel (hps q hj)
        have hkey := WideMaps.keyOf_string_mk (P := Try.prog) Try.underlying9 (show (r.xp q).size ≤ maxLen from hf.xp q hj)
        have HK := hid hkey
        clear hps hkey
        by_cases hfl : q < r.nf
        · obtain ⟨fb, fo, rfl, hfs⟩ := HFS.out (by omega)
          have c4 := cell_kept hbel (hfs q hfl)
          clear hfs
          go_wp2_with (at_mapUpdate; refine wpList_mapUpdate_own _ rfl _ _ _ 39 rfl 9 4 law9 Try.underlying39 _ (w.heap.size + 1) q _ rfl hown (by unfold maxLen; omega) _ _ _ rfl rfl HK.out _ [] (plainElem_bool Try.underlying4 _) ?_; intro w1 hown1 hgrow1)
          have K1 := fun d => keys_step (d := d) hkeys.out hown.isMap
          have B1 := hbel.grown hgrow1 hbel.size (fun k h => by cases h; omega)
          have d1 := grown_cell hgrow1 c1 (by simp)
          have d2 := grown_cell hgrow1 c2 (by simp)
          clear hgrow1 hown
          go_wp2
          go_roundw
          case rel => exact ⟨q + 1, _, by omega, by go_num, hown1, K1 _, B1, d1, d2⟩
          case measure => simp [intOf]; omega
        · go_wp2_with (at_mapUpdate; refine wpList_mapUpdate_own _ rfl _ _ _ 39 rfl 9 4 law9 Try.underlying39 _ (w.heap.size + 1) q _ rfl hown (by unfold maxLen; omega) _ _ _ rfl rfl HK.out _ [] (plainElem_bool Try.underlying4 _) ?_; intro w1 hown1 hgrow1)
          have K1 := fun d => keys_step (d := d) hkeys.out hown.isMap
          have B1 := hbel.grown hgrow1 hbel.size (fun k h => by cases h; omega)
          have d1 := grown_cell hgrow1 c1 (by simp)
          have d2 := grown_cell hgrow1 c2 (by simp)
          clear hgrow1 hown
          go_wp2
          go_roundw
          case rel => exact ⟨q + 1, _, by omega, by go_num, hown1, K1 _, B1, d1, d2⟩
          case measure => simp [intOf]; omega
      · go_wp2
        go_ret
        obtain rfl : r.np = q := by omega
        exact ⟨_, rfl, .inr ⟨hn, _, D, rfl, by omega, hown, hkeys.out⟩, hbel⟩
  · go_enter Try.func17, Try.ntmps17
    go_wp2
    go_ret
    exact ⟨_, rfl, .inl ⟨hn, rfl⟩, (Below.refl _ _).alloc (Nat.le_refl _) _⟩

end Go.Proofs.Qxb6626510a
