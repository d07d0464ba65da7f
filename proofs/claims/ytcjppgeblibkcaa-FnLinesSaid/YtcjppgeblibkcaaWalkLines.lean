/- The walk of the statement FnLines: where the plain law holds, the call returns true and leaves what lay in memory as it was. Conditions: the plain law's, as premises. -/
import Derived.Test.YtcjppgeblibkcaaLines
import Derived.Deep.RegionWith
namespace Go.Proofs.Ytcjppgeblibkcaa.Mine
open Go.RowKit Go.Proofs.YtcjppgeblibkcaaW.PrintWords Go.Proofs.YtcjppgeblibkcaaW.PrintLast Go.Proofs.YtcjppgeblibkcaaW.PrintMore
open Go.Proofs.Ytcjppgeblibkcaa.PFnLines

set_option maxHeartbeats 1000000 in
set_option maxRecDepth 100000 in
theorem fnLines_long (s : ByteArray) (w : World) (h : 2147483647 < s.size) :
    Calls Try.prog 5 #[.string s] w fun e w' => e = .returned (.bool true) ∧ Below w.heap.size w w' := by
  have g1 : decide ((s.size : Int) > 2147483647) = true := decide_eq_true (by omega)
  clear h
  go_enter Try.func5, Try.ntmps5
  go_wp2
  go_ret
  exact ⟨rfl, Below.refl _ _⟩

set_option maxHeartbeats 1000000 in
set_option maxRecDepth 100000 in
theorem fnLines_other (k : Nat) (s : ByteArray) (w : World) (h : s.size ≤ 2147483647) (hp : laws_plain.f k s 300 = some false) :
    Calls Try.prog 5 #[.string s] w fun e w' => e = .returned (.bool true) ∧ Below w.heap.size w w' := by
  have g1 : decide ((s.size : Int) > 2147483647) = false := decide_eq_false (by omega)
  have HP := Aside0.mk hp
  clear h hp
  go_enter Try.func5, Try.ntmps5
  go_wp2_with (fail)
  refine (laws_plain.calls k s 300 false _ HP.out).mono ?_
  rintro e w1 ⟨rfl, hd⟩
  have HB := Aside0.mk hd.below
  clear hd
  go_wp2_with (fail)
  go_ret
  exact ⟨rfl, HB.out⟩

set_option maxHeartbeats 1000000 in
set_option maxRecDepth 100000 in
theorem fnLines_main (k : Nat) (s : ByteArray) (r : List Int) (w : World) (h : s.size ≤ 2147483647) (hp : laws_plain.f k s 300 = some true)
    (h3 : s.size ≤ 300) (hr : r.length ≤ 1000) (h1 : EndsTo k (bytesOf s) r) (h2 : spec_Ends.f k s = some (strOfNums r)) (hx : EndsTo k [97] [97]) :
    Calls Try.prog 5 #[.string s] w fun e w' => e = .returned (.bool true) ∧ Below w.heap.size w w' := by
  have g1 : decide ((s.size : Int) > 2147483647) = false := decide_eq_false (by omega)
  have HP := Aside0.mk hp
  clear h hp
  go_enter Try.func5, Try.ntmps5
  go_wp2_with (fail)
  refine (laws_plain.calls k s 300 true _ HP.out).mono ?_
  rintro e w1 ⟨rfl, hd⟩
  have HB := Aside0.mk hd.below
  clear hd
  go_wp2_with (fail)
  have H1 := Aside0.mk h1
  have H2 := Aside0.mk h2
  have HX := Aside0.mk hx
  have HR := Aside0.mk hr
  have HS := Aside0.mk h3
  clear h3 hr h1 h2 hx
  have kb := fun (W : World) => print_bytes (P := Try.prog) 9 23 5 Try.underlying9 Try.underlying23 Try.underlying5 s W
  have kc := fun (W : World) (C : Array Value) (m c : Nat) => Lib.run_convert_bytes_const (P := Try.prog) W 23 5 C m c Try.underlying23 Try.underlying5
  go_region_with (first
    | (go_at_call_of 10 (s.size); refine (lines_at k _ s.size _ (bytesOf s) r _ ?c1 HS.out HR.out H1.out).mono ?_; (case c1 => first | exact bytes_reads _ 5 s (by have := HS.out; omega) | (refine ReadsInt.below (bytes_reads _ 5 s (by have := HS.out; omega)) ?_; assumption)); rintro e w2 ⟨v2, rfl, ho2, hb2⟩; have kc2 := row_string ho2 (Below.refl _ _) rfl; have HO2 := Aside0.mk ho2; have HB2 := Aside0.mk hb2; clear ho2 hb2)
    | (go_at_call 10; refine (lines_at k _ 1 _ [97] [97] _ ?c1 (by decide) (by decide) HX.out).mono ?_; (case c1 => exact lit_reads _ [97] _ (by decide)); rintro e w4 ⟨v4, rfl, ho4, hb4⟩; have kc4 := row_string ho4 (Below.refl _ _) (show strOfNums [97] = ⟨#[97]⟩ from rfl); have HB4 := Aside0.mk hb4; clear ho4 hb4)
    | (go_at_call 11; refine (spec_Ends.calls k s (strOfNums r) _ H2.out).mono ?_; rintro e w3 ⟨rfl, hb3⟩; (try have kc3 := row_string HO2.out hb3 rfl); have HB3 := Aside0.mk hb3; clear hb3))
  all_goals
    have A4 := Aside0.mk (show Below w.heap.size w w4 from by first
      | exact chain HB.out HB2.out HB3.out HB4.out
      | exact chain HB.out HB3.out HB2.out HB4.out)
    clear HB4
    go_wp2_with (fail)
    go_ret
    exact ⟨rfl, A4.out⟩

end Go.Proofs.Ytcjppgeblibkcaa.Mine
