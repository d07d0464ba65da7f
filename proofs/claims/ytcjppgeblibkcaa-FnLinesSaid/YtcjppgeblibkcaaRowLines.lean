/- FnLines returns true for every text, and leaves its argument as it was. No conditions. -/
import Derived.Test.YtcjppgeblibkcaaRows
import Derived.Test.YtcjppgeblibkcaaWalkLines
import Derived.Test.YtcjppgeblibkcaaPureLines
import Derived.WalkKit
import Derived.ProofKit
import Derived.OpenShut
import Derived.ShutString
import Derived.ChangeOld
import Derived.Below
import Derived.SizedLaws
namespace Go.Proofs.Ytcjppgeblibkcaa.Mine
open Go.RowKit Go.Proofs.YtcjppgeblibkcaaW.PrintWords Go.Proofs.Ytcjppgeblibkcaa.PFnLines

/-- The call, for every text. -/
theorem fnLines_walk (s : ByteArray) (w : World) :
    Calls Try.prog 5 #[.string s] w fun e w' => e = .returned (.bool true) ∧ Below w.heap.size w w' := by
  by_cases h : 2147483647 < s.size
  · exact fnLines_long s w h
  · have hs : s.size ≤ 2147483647 := by omega
    obtain ⟨p, hp, H⟩ := plainL_tells s hs s.size (s.size + 2000) 0 (by omega) (by omega) (by omega)
    cases p with
    | false => exact fnLines_other (s.size + 2000) s w hs hp
    | true =>
      obtain ⟨r, h1, h2, h3⟩ := ends_tell s (H rfl) (s.size + 2000) (by omega)
      exact fnLines_main (s.size + 2000) s r w hs hp (H rfl) h3 h1 h2 (ends_one _ (by omega))

end Go.Proofs.Ytcjppgeblibkcaa.Mine
namespace Go.Proofs.Ytcjppgeblibkcaa.fnLines
open Go.ChangeShapes Go.WideShapes Go.ChangeAt Go.RowKit
open Go.ChangeMaps (open_string shut_string)
set_option linter.unusedVariables false
theorem own : ownKnob Try.prog.godebug = none := by kernel_rfl
set_option maxRecDepth 100000 in
theorem lifted (os : Os) (started : os.Started) (H : Type) (enc : TypeId × Value → H) :
    ReturnsInHanded {} Try.checked os 5 .any (Rows.fnLinesSpec.pre6 enc Try.prog Try.f5 Rows.fnLinesRow.domain false) (Rows.fnLinesSpec.post enc Try.prog Try.f5 false true false false) := by
  refine returnsInHanded_of_change_sized (C := Try.checked) own started (by kernel_rfl) Try.func5
    (ChangeSpec.witness6 (enc := enc) (C := Try.checked) false ⟨#[], #[.string ByteArray.empty], []⟩ 8 (by kernel_rfl) (by kernel_rfl) (by kernel_rfl) (by kernel_rfl)) ?_
  intro W base args ds gs before hval0 hW hcnd hsz0 _
  have hval : ∀ (j : Nat) t v, Try.f5.params[j]? = some t → args[j]? = some v → Value.okWide Try.prog W .any base t v := hval0
  have hW' := hW
  obtain ⟨p, q, hA0, hV, rfl, hfz, hnd⟩ := hW
  have hA : DataW.TrodAll enc Try.prog W 0 (fun _ => true) true Try.f5.params.toList args.toList ds p := hA0
  rw [Try.params5] at hA hval
  obtain ⟨v0, vs0, d0, ds0, p0, q0, hargs, rfl, rfl, h0, r0⟩ := trodAll_cons hA
  obtain ⟨rfl, rfl, rfl⟩ := trodAll_nil r0
  obtain rfl : args = #[v0] := by cases args; simp_all
  obtain ⟨rfl, rfl⟩ := trodVars_none hV
  obtain ⟨a0, rfl, rfl, rfl, y0⟩ := open_string Try.underlying9 (hval 0 9 v0 rfl rfl) h0
  clear hA0 hval0 hsz0
  refine (Mine.fnLines_walk a0 W).mono fun e W' ⟨he, bel⟩ => ?_
  subst he
  exact ⟨_, rfl, _, _, _, [], _, [], hW', trodAll_mk1 (shut_bool Try.underlying4 _), (trodAll_cons_mk (shut_string Try.underlying9 y0) trodAll_mk0), rfl, bel.frame _, fun h => by cases h⟩
theorem over : Rows.fnLinesRow.holds Try.pinned (OpenSpec.ofChange Rows.fnLinesSpec) :=
  OpenClaim.holds_of_wide 5 Try.f5 rfl rfl rfl rfl rfl rfl rfl ⟨rfl, rfl, rfl, rfl, rfl⟩ rfl rfl rfl rfl rfl (by kernel_rfl) Try.func5 (by kernel_rfl)
    (of_decide_eq_true (by kernel_rfl)) (by unfold Func.isWrapper; first | (rw [if_pos (by decide +kernel)]; kernel_rfl) | (rw [if_neg (by decide +kernel)]; exact ⟨rfl, rfl⟩))
    (fun os started H enc _ => lifted os started H enc)
end Go.Proofs.Ytcjppgeblibkcaa.fnLines
namespace Go.Proofs.Ytcjppgeblibkcaa
/-- The statement, under a short name, for the claim. -/
theorem fnLines_holds : Rows.FnLinesSaid := fnLines.over
#print axioms fnLines_holds
end Go.Proofs.Ytcjppgeblibkcaa
