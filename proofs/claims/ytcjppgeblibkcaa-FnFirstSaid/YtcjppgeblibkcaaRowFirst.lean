/- FnFirst returns true for every text and every number of lines, and leaves its arguments as they were. No conditions. -/
import Derived.Test.YtcjppgeblibkcaaRows
import Derived.Test.YtcjppgeblibkcaaWalkFirst
import Derived.Test.YtcjppgeblibkcaaPureFirst
import Derived.WalkKit
import Derived.ProofKit
import Derived.OpenShut
import Derived.ShutString
import Derived.ChangeOld
import Derived.Below
import Derived.SizedLaws
namespace Go.Proofs.Ytcjppgeblibkcaa.Mine
open Go.RowKit Go.Proofs.YtcjppgeblibkcaaW.PrintWords Go.Proofs.Ytcjppgeblibkcaa.PFnFirst

theorem cut_97 : cut 1 [97, 10, 98] = [97] := by simp [cut]

/-- The call, for every text and every number. -/
theorem fnFirst_walk (s : ByteArray) (b : Int) (w : World) (wb : (Lit.int .u8 b).wf = true) :
    Calls Try.prog 4 #[.string s, .int .u8 b] w fun e w' => e = .returned (.bool true) ∧ Below w.heap.size w w' := by
  have hb : 0 ≤ b ∧ b ≤ 255 := by simpa [Lit.wf, IntKind.min, IntKind.max, IntKind.bits, IntKind.signed] using wb
  by_cases h : 2147483647 < s.size
  · exact fnFirst_long s b w h
  · have hs : s.size ≤ 2147483647 := by omega
    obtain ⟨p, hp, H⟩ := plain_tells s hs s.size (s.size + 2000) 0 (by omega) (by omega) (by omega)
    cases p with
    | false => exact fnFirst_other (s.size + 2000) s b w hs hp
    | true =>
      have h3 := H rfl
      obtain ⟨n, hn⟩ : ∃ n : Nat, b % 21 = (n : Int) := ⟨(b % 21).toNat, by omega⟩
      have hn1 : n ≤ 20 := by omega
      have hl := bytesOf_length s
      refine fnFirst_main (s.size + 2000) s b n (cut n (bytesOf s)) w hs hp hn hb.1 hb.2 h3 ?_ ?_ ?_ ?_
      · have := cut_le (bytesOf s) n
        omega
      · exact first_tells n _ _ (by omega) (by omega) (by omega)
      · exact spec_tells s h3 n _ (by omega) (by omega)
      · rw [← cut_97]
        exact first_tells 1 _ _ (by decide) (by omega) (by omega)

end Go.Proofs.Ytcjppgeblibkcaa.Mine
namespace Go.Proofs.Ytcjppgeblibkcaa.fnFirst
open Go.ChangeShapes Go.WideShapes Go.ChangeAt Go.RowKit
open Go.ChangeMaps (open_string shut_string)
set_option linter.unusedVariables false
theorem own : ownKnob Try.prog.godebug = none := by kernel_rfl
set_option maxRecDepth 100000 in
theorem lifted (os : Os) (started : os.Started) (H : Type) (enc : TypeId × Value → H) :
    ReturnsInHanded {} Try.checked os 4 .any (Rows.fnFirstSpec.pre6 enc Try.prog Try.f4 Rows.fnFirstRow.domain false) (Rows.fnFirstSpec.post enc Try.prog Try.f4 false true false false) := by
  refine returnsInHanded_of_change_sized (C := Try.checked) own started (by kernel_rfl) Try.func4
    (ChangeSpec.witness6 (enc := enc) (C := Try.checked) false ⟨#[], #[.string ByteArray.empty, .int .u8 0], []⟩ 8 (by kernel_rfl) (by kernel_rfl) (by kernel_rfl) (by kernel_rfl)) ?_
  intro W base args ds gs before hval0 hW hcnd hsz0 _
  have hval : ∀ (j : Nat) t v, Try.f4.params[j]? = some t → args[j]? = some v → Value.okWide Try.prog W .any base t v := hval0
  have hW' := hW
  obtain ⟨p, q, hA0, hV, rfl, hfz, hnd⟩ := hW
  have hA : DataW.TrodAll enc Try.prog W 0 (fun _ => true) true Try.f4.params.toList args.toList ds p := hA0
  rw [Try.params4] at hA hval
  obtain ⟨v0, vs0, d0, ds0, p0, q0, hargs, rfl, rfl, h0, r0⟩ := trodAll_cons hA
  obtain ⟨v1, vs1, d1, ds1, p1, q1, rfl, rfl, rfl, h1, r1⟩ := trodAll_cons r0
  obtain ⟨rfl, rfl, rfl⟩ := trodAll_nil r1
  obtain rfl : args = #[v0, v1] := by cases args; simp_all
  obtain ⟨rfl, rfl⟩ := trodVars_none hV
  obtain ⟨a0, rfl, rfl, rfl, y0⟩ := open_string Try.underlying9 (hval 0 9 v0 rfl rfl) h0
  obtain ⟨a1, rfl, rfl, rfl, w1⟩ := open_int Try.underlying5 (hval 1 5 v1 rfl rfl) h1
  clear hA0 hval0 hsz0
  refine (Mine.fnFirst_walk a0 a1 W w1).mono fun e W' ⟨he, bel⟩ => ?_
  subst he
  exact ⟨_, rfl, _, _, _, [], _, [], hW', trodAll_mk1 (shut_bool Try.underlying4 _), (trodAll_cons_mk (shut_string Try.underlying9 y0) (trodAll_cons_mk (shut_int Try.underlying5 w1) trodAll_mk0)), rfl, bel.frame _, fun h => by cases h⟩
theorem over : Rows.fnFirstRow.holds Try.pinned (OpenSpec.ofChange Rows.fnFirstSpec) :=
  OpenClaim.holds_of_wide 4 Try.f4 rfl rfl rfl rfl rfl rfl rfl ⟨rfl, rfl, rfl, rfl, rfl⟩ rfl rfl rfl rfl rfl (by kernel_rfl) Try.func4 (by kernel_rfl)
    (of_decide_eq_true (by kernel_rfl)) (by unfold Func.isWrapper; first | (rw [if_pos (by decide +kernel)]; kernel_rfl) | (rw [if_neg (by decide +kernel)]; exact ⟨rfl, rfl⟩))
    (fun os started H enc _ => lifted os started H enc)
end Go.Proofs.Ytcjppgeblibkcaa.fnFirst
namespace Go.Proofs.Ytcjppgeblibkcaa
/-- The statement, under a short name, for the claim. -/
theorem fnFirst_holds : Rows.FnFirstSaid := fnFirst.over
#print axioms fnFirst_holds
end Go.Proofs.Ytcjppgeblibkcaa
