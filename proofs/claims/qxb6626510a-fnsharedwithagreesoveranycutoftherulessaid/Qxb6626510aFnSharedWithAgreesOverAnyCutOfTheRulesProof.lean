/- The row of FnSharedWithAgreesOverAnyCutOfTheRules, over its walk (the frame after the kit's skeleton for a law over slices). -/
import Derived.Test.Qxb6626510aOpen
import Derived.Test.Qxb6626510aLawA
namespace Go.Proofs.Qxb6626510a.fnSharedWithAgreesOverAnyCutOfTheRules
open Go.ChangeShapes Go.WideShapes Go.ChangeAt Go.RowKit
set_option linter.unusedVariables false

theorem walk (a : Option Addr) (m cap : Nat) (cut : Int) (isn : Bool) (R : Nat → RD) (w : World) (hR : RulesAt w (.slice a m cap) m R) (hF : ∀ i, i < m → RFits (R i)) :
    Calls Try.prog 3 #[.slice a m cap, .int .i64 cut, .bool isn] w fun e w' => e = .returned (.bool true) ∧ Below w.heap.size w w' := by
  by_cases ho : cut < 0 ∨ (m : Int) < cut
  · exact lawA_out a m cap cut isn R w hR hF ho
  · obtain ⟨c, rfl⟩ : ∃ c : Nat, cut = c := ⟨cut.toNat, by omega⟩
    cases isn
    · have hR' := hR
      obtain ⟨a', cap', e, hcap, hmax, hnil, hd⟩ := hR'
      obtain ⟨rfl, rfl⟩ : a = a' ∧ cap = cap' := by cases e; exact ⟨rfl, rfl⟩
      cases a with
      | none =>
        obtain rfl := hnil rfl
        obtain rfl : m = 0 := by omega
        obtain rfl : c = 0 := by omega
        exact lawA_none R w hR hF
      | some pt =>
        by_cases hcc : cap = c
        · subst hcc
          obtain rfl : cap = m := by omega
          exact lawA_end pt cap R w hR hF
        · obtain ⟨b, off, he, hd'⟩ := hd (by omega)
          obtain rfl := Option.some.inj he
          exact lawA_in b off m cap c R w hR hd' hF (by omega) hcc
    · exact lawA_nil a m cap c R w hR hF (by omega)

set_option maxRecDepth 100000 in
theorem lifted (os : Os) (started : os.Started) (H : Type) (enc : TypeId × Value → H) :
    ReturnsInHanded {} Try.checked os 3 .any (Rows.fnSharedWithAgreesOverAnyCutOfTheRulesSpec.pre6 enc Try.prog Try.f3 Rows.fnSharedWithAgreesOverAnyCutOfTheRulesRow.domain false) (Rows.fnSharedWithAgreesOverAnyCutOfTheRulesSpec.post enc Try.prog Try.f3 false true false false) := by
  refine returnsInHanded_of_change (C := Try.checked) own started (by kernel_rfl) Try.func3
    (ChangeSpec.witness6 (enc := enc) (C := Try.checked) false ⟨#[], #[.slice none 0 0, .int .i64 0, .bool false], []⟩ 8 (by kernel_rfl) (by kernel_rfl) (by kernel_rfl) (by kernel_rfl)) ?_
  intro W base args ds gs before hval0 hW hcnd _
  have hval : ∀ (j : Nat) t v, Try.f3.params[j]? = some t → args[j]? = some v → Value.okWide Try.prog W .any base t v := hval0
  have hW' := hW
  obtain ⟨p, q, hA0, hV, rfl, hfz, hnd⟩ := hW
  have hA : DataW.TrodAll enc Try.prog W 0 (fun _ => true) true Try.f3.params.toList args.toList ds p := hA0
  rw [Try.params3] at hA hval
  obtain ⟨v0, vs0, d0, ds0, p0, q0, hargs, rfl, rfl, h0, r0⟩ := trodAll_cons hA
  obtain ⟨v1, vs1, d1, ds1, p1, q1, rfl, rfl, rfl, h1, r1⟩ := trodAll_cons r0
  obtain ⟨v2, vs2, d2, ds2, p2, q2, rfl, rfl, rfl, h2, r2⟩ := trodAll_cons r1
  obtain ⟨rfl, rfl, rfl⟩ := trodAll_nil r2
  obtain rfl : args = #[v0, v1, v2] := by cases args; simp_all
  obtain ⟨rfl, rfl⟩ := trodVars_none hV
  obtain ⟨a0, len0, cap0, rfl⟩ := okWide_slice Try.underlying22 (hval 0 22 v0 rfl rfl)
  obtain ⟨a1, rfl, rfl, rfl, w1⟩ := open_int Try.underlying3 (hval 1 3 v1 rfl rfl) h1
  obtain ⟨a2, rfl, rfl, rfl⟩ := open_bool Try.underlying4 (hval 2 4 v2 rfl rfl) h2
  have lt0 : ∀ x ∈ p0, x.block < W.heap.size := by obtain ⟨m, hm⟩ := h0; exact DataW.trod_lt m _ _ _ hm
  obtain ⟨R, hR, hF⟩ := (by obtain ⟨m, hm⟩ := h0; exact open_rules hm : ∃ R : Nat → RD, RulesAt W (.slice a0 len0 cap0) len0 R ∧ ∀ i, i < len0 → RFits (R i))
  clear hA0 hval0
  refine (walk a0 len0 cap0 a1 a2 R W hR hF).mono fun e W' ⟨he, bel⟩ => ?_
  subst he
  exact ⟨_, rfl, _, _, _, [], _, [], hW', trodAll_mk1 (shut_bool Try.underlying4 _), (trodAll_cons_mk (Below.trod laidOut (by kernel_rfl) (of_decide_eq_true (by kernel_rfl)) h0 bel lt0) (trodAll_cons_mk (shut_int Try.underlying3 w1) (trodAll_cons_mk (shut_bool Try.underlying4 _) trodAll_mk0))), rfl, bel.frame _, fun h => by cases h⟩

theorem over : Rows.fnSharedWithAgreesOverAnyCutOfTheRulesRow.holds Try.pinned (OpenSpec.ofChange Rows.fnSharedWithAgreesOverAnyCutOfTheRulesSpec) :=
  OpenClaim.holds_of_wide 3 Try.f3 rfl rfl rfl rfl rfl rfl rfl ⟨rfl, rfl, rfl, rfl, rfl⟩ rfl rfl rfl rfl rfl (by kernel_rfl) Try.func3 (by kernel_rfl)
    (of_decide_eq_true (by kernel_rfl)) (by unfold Func.isWrapper; first | (rw [if_pos (by decide +kernel)]; kernel_rfl) | (rw [if_neg (by decide +kernel)]; exact ⟨rfl, rfl⟩))
    (fun os started H enc _ => lifted os started H enc)

/-- The statement. -/
theorem proved : Rows.FnSharedWithAgreesOverAnyCutOfTheRulesSaid := over
end Go.Proofs.Qxb6626510a.fnSharedWithAgreesOverAnyCutOfTheRules
