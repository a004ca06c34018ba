/-
  'Rows.FnStringEqualsRefusesOtherTypesSaid' ('zzlaws_root_b1.FnStringEqualsRefusesOtherTypes'): PROVED. The frame is the guide's template, written by program; the walk lies in YoecdwWalk. '[]byte(s)' lays a block with a mark, so the walk ends in 'Below', and 'post' is given limb by limb.
-/
import Derived.Test.YoecdwRows
import Derived.Test.YoecdwWalk
import Derived.WalkKit
import Derived.ProofKit
import Derived.OpenShut
import Derived.ShutString
namespace Go.Proofs.Yoecdw.fnStringEqualsRefusesOtherTypes
open Go.ChangeShapes Go.WideShapes Go.ChangeAt Go.RowKit
open Go.ChangeMaps (open_string shut_string)
set_option linter.unusedVariables false      -- a walk need not use every 'w<i>' (that an integer argument fits its kind)

theorem own : ownKnob Ecdg.prog.godebug = none := by kernel_rfl

/-- The walk, from the arguments as they are opened. -/
theorem walk (a0 : ByteArray) (a1 : Int) (a2 : Int) (w0 : a0.size ≤ maxLen) (w1 : (Lit.int .i64 a1).wf = true) (w : World) :
    Calls Ecdg.prog 4 #[.string a0, .int .i64 a1, .int .i32 a2] w fun e w' => e = .returned (.bool true) ∧ Below w.heap.size w w' := by
  have hb := bounds_i64 w1
  exact walk_any a0 a1 a2 w w0 (by omega) (by omega)

/-! ### The row's step -/
set_option maxRecDepth 100000 in
theorem lifted (os : Os) (started : os.Started) (H : Type) (enc : TypeId × Value → H) :
    ReturnsInHanded {} Ecdg.checked os 4 .any (Rows.fnStringEqualsRefusesOtherTypesSpec.pre6 enc Ecdg.prog Ecdg.f4 Rows.fnStringEqualsRefusesOtherTypesRow.domain false) (Rows.fnStringEqualsRefusesOtherTypesSpec.post enc Ecdg.prog Ecdg.f4 false true false false) := by
  refine returnsInHanded_of_change (C := Ecdg.checked) own started (by kernel_rfl) Ecdg.func4
    (ChangeSpec.witness6 (enc := enc) (C := Ecdg.checked) false ⟨#[], #[.string ByteArray.empty, .int .i64 0, .int .i32 0], []⟩ 8 (by kernel_rfl) (by kernel_rfl) (by kernel_rfl) (by kernel_rfl)) ?_
  intro W base args ds gs before hval0 hW hcnd _
  have hval : ∀ (j : Nat) t v, Ecdg.f4.params[j]? = some t → args[j]? = some v → Value.okWide Ecdg.prog W .any base t v := hval0
  have hW' := hW
  obtain ⟨p, q, hA0, hV, rfl, hfz, hnd⟩ := hW
  have hA : DataW.TrodAll enc Ecdg.prog W 0 (fun _ => true) true Ecdg.f4.params.toList args.toList ds p := hA0
  rw [Ecdg.params4] at hA hval
  obtain ⟨v0, vs0, d0, ds0, p0, q0, hargs, rfl, rfl, h0, r0⟩ := trodAll_cons hA
  obtain ⟨v1, vs1, d1, ds1, p1, q1, rfl, rfl, rfl, h1, r1⟩ := trodAll_cons r0
  obtain ⟨v2, vs2, d2, ds2, p2, q2, rfl, rfl, rfl, h2, r2⟩ := trodAll_cons r1
  obtain ⟨rfl, rfl, rfl⟩ := trodAll_nil r2
  obtain rfl : args = #[v0, v1, v2] := by cases args; simp_all
  obtain ⟨rfl, rfl⟩ := trodVars_none hV
  obtain ⟨a0, rfl, rfl, rfl, w0⟩ := open_string Ecdg.underlying9 (hval 0 9 v0 rfl rfl) h0
  obtain ⟨a1, rfl, rfl, rfl, w1⟩ := open_int Ecdg.underlying2 (hval 1 2 v1 rfl rfl) h1
  obtain ⟨a2, rfl, rfl, rfl, w2⟩ := open_int Ecdg.underlying21 (hval 2 21 v2 rfl rfl) h2
  clear hA0 hval0
  simp only [List.append_nil] at hW'
  refine (walk a0 a1 a2 w0 w1 W).mono fun e W' ⟨he, hb⟩ => ?_
  subst he
  exact ⟨_, rfl, _, _, _, [], [], [], hW', trodAll_cons_mk (shut_bool Ecdg.underlying4 _) trodAll_mk0, trodAll_cons_mk (shut_string Ecdg.underlying9 w0) (trodAll_cons_mk (shut_int Ecdg.underlying2 w1) (trodAll_cons_mk (shut_int Ecdg.underlying21 w2) trodAll_mk0)), rfl, hb.frame _, fun h => by cases h⟩

theorem over : Rows.fnStringEqualsRefusesOtherTypesRow.holds Ecdg.pinned (OpenSpec.ofChange Rows.fnStringEqualsRefusesOtherTypesSpec) :=
  OpenClaim.holds_of_wide 4 Ecdg.f4 rfl rfl rfl rfl rfl rfl rfl ⟨rfl, rfl, rfl, rfl, rfl⟩ rfl rfl rfl rfl rfl (by kernel_rfl) Ecdg.func4 (by kernel_rfl)
    (of_decide_eq_true (by kernel_rfl)) (by unfold Func.isWrapper; first | (rw [if_pos (by decide +kernel)]; kernel_rfl) | (rw [if_neg (by decide +kernel)]; exact ⟨rfl, rfl⟩))
    (fun os started H enc _ => lifted os started H enc)

end Go.Proofs.Yoecdw.fnStringEqualsRefusesOtherTypes
namespace Go.Proofs.Yoecdw

/-- The statement. -/
theorem fnStringEqualsRefusesOtherTypes_proved : Rows.FnStringEqualsRefusesOtherTypesSaid :=
  fnStringEqualsRefusesOtherTypes.over

end Go.Proofs.Yoecdw
