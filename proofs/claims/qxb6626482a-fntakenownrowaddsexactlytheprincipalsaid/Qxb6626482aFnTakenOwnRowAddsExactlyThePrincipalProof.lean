/- The row of FnTakenOwnRowAddsExactlyThePrincipal, over its walk (the frame after the kit's skeleton for a law over slices). -/
import Derived.Test.Qxb6626482aOpen
import Derived.Test.Qxb6626482aWalkB
namespace Go.Proofs.Qxb6626482a.fnTakenOwnRowAddsExactlyThePrincipal
open Go.ChangeShapes Go.WideShapes Go.ChangeAt Go.RowKit
set_option linter.unusedVariables false

theorem walk (pa : Option Addr) (pn pc : Nat) (x : Nat → Int) (v : Value) (m : Nat) (L : Nat → Nat) (X : Nat → Nat → Int) (r : Int) (tv : Value) (tn : Nat) (B : Nat → Bool) (w : World) (hr : -9223372036854775808 ≤ r ∧ r ≤ 9223372036854775807)
    (hpx : Fits 1 (fun _ => pn) (fun _ => x)) (hF : Fits m L X) (htn : tn ≤ 9223372036854775807) (hP : SymsAt w (.slice pa pn pc) pn x) (hR : RowsAt w v m L X) (hT : BoolsAt w tv tn B) :
    Calls Try.prog 4 #[.slice pa pn pc, v, .int .i64 r, tv] w fun e w' => e = .returned (.bool true) ∧ Below w.heap.size w w' := by
  by_cases ho : r < 0 ∨ (m : Int) < r
  · exact lawB_out pa pn pc x v m L X r tv tn B w hpx hF htn hF.hm ho hP hR hT
  · obtain ⟨pos, rfl⟩ : ∃ pos : Nat, r = pos := ⟨r.toNat, by omega⟩
    by_cases h1 : pn = 1
    · subst h1
      exact lawB_lone pa pc x v m L X pos tv tn B w hpx hF htn (by omega) hP hR hT
    · exact lawB_many pa pn pc x v m L X pos tv tn B w hpx hF htn (by simp; omega) (by omega) hP hR hT

set_option maxRecDepth 100000 in
theorem lifted (os : Os) (started : os.Started) (H : Type) (enc : TypeId × Value → H) :
    ReturnsInHanded {} Try.checked os 4 .any (Rows.fnTakenOwnRowAddsExactlyThePrincipalSpec.pre6 enc Try.prog Try.f4 Rows.fnTakenOwnRowAddsExactlyThePrincipalRow.domain false) (Rows.fnTakenOwnRowAddsExactlyThePrincipalSpec.post enc Try.prog Try.f4 false true false false) := by
  refine returnsInHanded_of_change (C := Try.checked) own started (by kernel_rfl) Try.func4
    (ChangeSpec.witness6 (enc := enc) (C := Try.checked) false ⟨#[], #[.slice none 0 0, .slice none 0 0, .int .i64 0, .slice none 0 0], []⟩ 8 (by kernel_rfl) (by kernel_rfl) (by kernel_rfl) (by kernel_rfl)) ?_
  intro W base args ds gs before hval0 hW hcnd _
  have hval : ∀ (j : Nat) t v, Try.f4.params[j]? = some t → args[j]? = some v → Value.okWide Try.prog W .any base t v := hval0
  have hW' := hW
  obtain ⟨p, q, hA0, hV, rfl, hfz, hnd⟩ := hW
  have hA : DataW.TrodAll enc Try.prog W 0 (fun _ => true) true Try.f4.params.toList args.toList ds p := hA0
  rw [Try.params4] at hA hval
  obtain ⟨v0, vs0, d0, ds0, p0, q0, hargs, rfl, rfl, h0, r0⟩ := trodAll_cons hA
  obtain ⟨v1, vs1, d1, ds1, p1, q1, rfl, rfl, rfl, h1, r1⟩ := trodAll_cons r0
  obtain ⟨v2, vs2, d2, ds2, p2, q2, rfl, rfl, rfl, h2, r2⟩ := trodAll_cons r1
  obtain ⟨v3, vs3, d3, ds3, p3, q3, rfl, rfl, rfl, h3, r3⟩ := trodAll_cons r2
  obtain ⟨rfl, rfl, rfl⟩ := trodAll_nil r3
  obtain rfl : args = #[v0, v1, v2, v3] := by cases args; simp_all
  obtain ⟨rfl, rfl⟩ := trodVars_none hV
  obtain ⟨a0, len0, cap0, rfl⟩ := okWide_slice Try.underlying22 (hval 0 22 v0 rfl rfl)
  obtain ⟨a1, len1, cap1, rfl⟩ := okWide_slice Try.underlying23 (hval 1 23 v1 rfl rfl)
  obtain ⟨a2, rfl, rfl, rfl, w2⟩ := open_int Try.underlying3 (hval 2 3 v2 rfl rfl) h2
  obtain ⟨a3, len3, cap3, rfl⟩ := okWide_slice Try.underlying24 (hval 3 24 v3 rfl rfl)
  have lt0 : ∀ x ∈ p0, x.block < W.heap.size := by obtain ⟨m, hm⟩ := h0; exact DataW.trod_lt m _ _ _ hm
  have lt1 : ∀ x ∈ p1, x.block < W.heap.size := by obtain ⟨m, hm⟩ := h1; exact DataW.trod_lt m _ _ _ hm
  have lt3 : ∀ x ∈ p3, x.block < W.heap.size := by obtain ⟨m, hm⟩ := h3; exact DataW.trod_lt m _ _ _ hm
  obtain ⟨x, hP, hpx⟩ := (by obtain ⟨m, hm⟩ := h0; exact open_syms hm : ∃ x : Nat → Int, SymsAt W (.slice a0 len0 cap0) len0 x ∧ Fits 1 (fun _ => len0) (fun _ => x))
  obtain ⟨L, X, hR, hF⟩ := (by obtain ⟨m, hm⟩ := h1; exact open_rows hm : ∃ (L : Nat → Nat) (X : Nat → Nat → Int), RowsAt W (.slice a1 len1 cap1) len1 L X ∧ Fits len1 L X)
  obtain ⟨htn, B, hT⟩ := (by obtain ⟨m, hm⟩ := h3; exact open_taken hm : len3 ≤ 9223372036854775807 ∧ ∃ B : Nat → Bool, BoolsAt W (.slice a3 len3 cap3) len3 B)
  clear hA0 hval0
  refine (walk a0 len0 cap0 x _ len1 L X a2 _ len3 B W (bounds_i64 w2) hpx hF htn hP hR hT).mono fun e W' ⟨he, bel⟩ => ?_
  subst he
  exact ⟨_, rfl, _, _, _, [], _, [], hW', trodAll_mk1 (shut_bool Try.underlying4 _), (trodAll_cons_mk (Below.trod laidOut (by kernel_rfl) (of_decide_eq_true (by kernel_rfl)) h0 bel lt0) (trodAll_cons_mk (Below.trod laidOut (by kernel_rfl) (of_decide_eq_true (by kernel_rfl)) h1 bel lt1) (trodAll_cons_mk (shut_int Try.underlying3 w2) (trodAll_cons_mk (Below.trod laidOut (by kernel_rfl) (of_decide_eq_true (by kernel_rfl)) h3 bel lt3) trodAll_mk0)))), rfl, bel.frame _, fun h => by cases h⟩

theorem over : Rows.fnTakenOwnRowAddsExactlyThePrincipalRow.holds Try.pinned (OpenSpec.ofChange Rows.fnTakenOwnRowAddsExactlyThePrincipalSpec) :=
  OpenClaim.holds_of_wide 4 Try.f4 rfl rfl rfl rfl rfl rfl rfl ⟨rfl, rfl, rfl, rfl, rfl⟩ rfl rfl rfl rfl rfl (by kernel_rfl) Try.func4 (by kernel_rfl)
    (of_decide_eq_true (by kernel_rfl)) (by unfold Func.isWrapper; first | (rw [if_pos (by decide +kernel)]; kernel_rfl) | (rw [if_neg (by decide +kernel)]; exact ⟨rfl, rfl⟩))
    (fun os started H enc _ => lifted os started H enc)

/-- The statement. -/
theorem proved : Rows.FnTakenOwnRowAddsExactlyThePrincipalSaid := over
end Go.Proofs.Qxb6626482a.fnTakenOwnRowAddsExactlyThePrincipal
