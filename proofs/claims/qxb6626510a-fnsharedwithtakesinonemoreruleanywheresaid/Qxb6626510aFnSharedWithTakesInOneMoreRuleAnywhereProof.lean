/- The row of FnSharedWithTakesInOneMoreRuleAnywhere, over its walk (the frame after the kit's skeleton for a law over slices). -/
import Derived.Test.Qxb6626510aOpen
import Derived.Test.Qxb6626510aLawB1
import Derived.Test.Qxb6626510aLawB2
import Derived.Test.Qxb6626510aLawB3
namespace Go.Proofs.Qxb6626510a.fnSharedWithTakesInOneMoreRuleAnywhere
open Go.ChangeShapes Go.WideShapes Go.ChangeAt Go.RowKit
set_option linter.unusedVariables false

theorem walk (a : Option Addr) (m cap : Nat) (pos : Int) (R : Nat → RD) (v0 v1 v2 : Value) (x : RD) (w : World) (hR : RulesAt w (.slice a m cap) m R) (hF : ∀ i, i < m → RFits (R i)) (hX : RuleOf w v0 v1 v2 x) (hx : RFits x) :
    Calls Try.prog 4 #[.slice a m cap, .agg #[v0, v1, v2, .bool x.isNil, .string x.owner], .int .i64 pos] w fun e w' => e = .returned (.bool true) ∧ Below w.heap.size w w' := by
  by_cases ho : pos < 0 ∨ (m : Int) < pos
  · exact lawB_out a m cap pos R v0 v1 v2 x w hR ho hF hX hx
  · obtain ⟨c, rfl⟩ : ∃ c : Nat, pos = c := ⟨pos.toNat, by omega⟩
    have hR' := hR
    obtain ⟨a', cap', e, hcap, hmax, hnil, hd⟩ := hR'
    obtain ⟨rfl, rfl⟩ : a = a' ∧ cap = cap' := by cases e; exact ⟨rfl, rfl⟩
    by_cases h0 : cap = 0
    · subst h0
      obtain rfl : m = 0 := by omega
      obtain rfl : c = 0 := by omega
      cases a with
      | none => exact lawB_none R v0 v1 v2 x w hR hF hX hx
      | some pt => exact lawB_pt pt R v0 v1 v2 x w hR hF hX hx
    · obtain ⟨b, off, rfl, hd'⟩ := hd (by omega)
      by_cases hcc : cap = c
      · subst hcc
        obtain rfl : cap = m := by omega
        exact lawB_end b off cap R v0 v1 v2 x w hR hd' hF hX hx
      · exact lawB_in b off m cap c R v0 v1 v2 x w hR hd' (by omega) hcc hF hX hx

set_option maxRecDepth 100000 in
theorem lifted (os : Os) (started : os.Started) (H : Type) (enc : TypeId × Value → H) :
    ReturnsInHanded {} Try.checked os 4 .any (Rows.fnSharedWithTakesInOneMoreRuleAnywhereSpec.pre6 enc Try.prog Try.f4 Rows.fnSharedWithTakesInOneMoreRuleAnywhereRow.domain false) (Rows.fnSharedWithTakesInOneMoreRuleAnywhereSpec.post enc Try.prog Try.f4 false true false false) := by
  refine returnsInHanded_of_change (C := Try.checked) own started (by kernel_rfl) Try.func4
    (ChangeSpec.witness6 (enc := enc) (C := Try.checked) false ⟨#[], #[.slice none 0 0, .agg #[.slice none 0 0, .slice none 0 0, .slice none 0 0, .bool false, .string ByteArray.empty], .int .i64 0], []⟩ 8 (by kernel_rfl) (by kernel_rfl) (by kernel_rfl) (by kernel_rfl)) ?_
  intro W base args ds gs before hval0 hW hcnd _
  have hval : ∀ (j : Nat) t v, Try.f4.params[j]? = some t → args[j]? = some v → Value.okWide Try.prog W .any base t v := hval0
  have hW' := hW
  obtain ⟨p, q, hA0, hV, rfl, hfz, hnd⟩ := hW
  have hA : DataW.TrodAll enc Try.prog W 0 (fun _ => true) true Try.f4.params.toList args.toList ds p := hA0
  rw [Try.params4] at hA hval
  obtain ⟨v0, vs0, d0, ds0, p0, q0, hargs, rfl, rfl, h0, r0⟩ := trodAll_cons hA
  obtain ⟨v1, vs1, d1, ds1, p1, q1, rfl, rfl, rfl, h1, r1⟩ := trodAll_cons r0
  obtain ⟨v2, vs2, d2, ds2, p2, q2, rfl, rfl, rfl, h2, r2⟩ := trodAll_cons r1
  obtain ⟨rfl, rfl, rfl⟩ := trodAll_nil r2
  obtain rfl : args = #[v0, v1, v2] := by cases args; simp_all
  obtain ⟨rfl, rfl⟩ := trodVars_none hV
  obtain ⟨a0, len0, cap0, rfl⟩ := okWide_slice Try.underlying22 (hval 0 22 v0 rfl rfl)
  obtain ⟨cs, rfl, hsz⟩ := okWide_struct Try.underlying35 (hval 1 35 v1 rfl rfl)
  obtain ⟨a2, rfl, rfl, rfl, w2⟩ := open_int Try.underlying3 (hval 2 3 v2 rfl rfl) h2
  have lt0 : ∀ x ∈ p0, x.block < W.heap.size := by obtain ⟨m, hm⟩ := h0; exact DataW.trod_lt m _ _ _ hm
  have lt1 : ∀ x ∈ p1, x.block < W.heap.size := by obtain ⟨m, hm⟩ := h1; exact DataW.trod_lt m _ _ _ hm
  obtain ⟨R, hR, hF⟩ := (by obtain ⟨m, hm⟩ := h0; exact open_rules hm : ∃ R : Nat → RD, RulesAt W (.slice a0 len0 cap0) len0 R ∧ ∀ i, i < len0 → RFits (R i))
  obtain ⟨x0, x1, x2, x, ecs, hX, hx⟩ := (by obtain ⟨m, hm⟩ := h1; exact open_rule hm : ∃ v0 v1 v2 r, (Value.agg cs).cells.toList = [v0, v1, v2, .bool r.isNil, .string r.owner] ∧ RuleOf W v0 v1 v2 r ∧ RFits r)
  obtain rfl : cs = #[x0, x1, x2, .bool x.isNil, .string x.owner] := by obtain ⟨l⟩ := cs; simpa [Value.cells] using ecs
  clear hA0 hval0
  refine (walk a0 len0 cap0 a2 R x0 x1 x2 x W hR hF hX hx).mono fun e W' ⟨he, bel⟩ => ?_
  subst he
  exact ⟨_, rfl, _, _, _, [], _, [], hW', trodAll_mk1 (shut_bool Try.underlying4 _), (trodAll_cons_mk (Below.trod laidOut (by kernel_rfl) (of_decide_eq_true (by kernel_rfl)) h0 bel lt0) (trodAll_cons_mk (Below.trod laidOut (by kernel_rfl) (of_decide_eq_true (by kernel_rfl)) h1 bel lt1) (trodAll_cons_mk (shut_int Try.underlying3 w2) trodAll_mk0))), rfl, bel.frame _, fun h => by cases h⟩

theorem over : Rows.fnSharedWithTakesInOneMoreRuleAnywhereRow.holds Try.pinned (OpenSpec.ofChange Rows.fnSharedWithTakesInOneMoreRuleAnywhereSpec) :=
  OpenClaim.holds_of_wide 4 Try.f4 rfl rfl rfl rfl rfl rfl rfl ⟨rfl, rfl, rfl, rfl, rfl⟩ rfl rfl rfl rfl rfl (by kernel_rfl) Try.func4 (by kernel_rfl)
    (of_decide_eq_true (by kernel_rfl)) (by unfold Func.isWrapper; first | (rw [if_pos (by decide +kernel)]; kernel_rfl) | (rw [if_neg (by decide +kernel)]; exact ⟨rfl, rfl⟩))
    (fun os started H enc _ => lifted os started H enc)

/-- The statement. -/
theorem proved : Rows.FnSharedWithTakesInOneMoreRuleAnywhereSaid := over
end Go.Proofs.Qxb6626510a.fnSharedWithTakesInOneMoreRuleAnywhere
