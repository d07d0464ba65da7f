/- impl.First hands back a row that reads as the first lines of its argument, and leaves what lay in memory as it was. Conditions: at most 300 bytes, 0 to 20 lines. -/
import Derived.Test.YtcjppgeblibkcaaClone
import Derived.Test.YtcjppgeblibkcaaPFnFirstx2
namespace Go.Proofs.Ytcjppgeblibkcaa.Mine
open Go.RowKit Go.Proofs.YtcjppgeblibkcaaW.PrintWords Go.Proofs.YtcjppgeblibkcaaW.PrintLast Go.Proofs.YtcjppgeblibkcaaW.PrintMore
open Go.Proofs.Ytcjppgeblibkcaa.PFnFirst

/-- What impl.First hands back: nothing of no line, else the first lines. -/
def firstOf (k : Nat) (l : List Int) (n : Int) : Option (List Int) := if n = 0 then some [] else enrycommon_ZZFirstLines.f k l n

set_option maxHeartbeats 1000000 in
set_option maxRecDepth 100000 in
theorem first_calls (k : Nat) (A0 : Option Addr) (c0 : Nat) (l : List Int) (n : Int) (r : List Int) (w : World) (hc : Kd.C (Kd.int .u8) w A0 l.length l) (hl : l.length ≤ 300) (hr : r.length ≤ 300) (n0 : 0 ≤ n) (n1 : n ≤ 20) (h : firstOf k l n = some r) :
    Calls Try.prog 8 #[.slice A0 l.length c0, .int .i64 n] w fun e w' => ∃ v : Value, e = .returned v ∧ Kd.R (Kd.int .u8) 5 w' w.heap.size (fun _ => True) v r ∧ Below w.heap.size w w' := by
  have HL := Aside0.mk (show l.length ≤ 100000 by omega)
  have HR := Aside0.mk (show r.length ≤ 100000 by omega)
  have HC := Aside0.mk hc
  have g1 : decide ((l.length : Int) > 100000) = false := decide_eq_false (by omega)
  have g2 : decide (n < 0) = false := decide_eq_false (by omega)
  have g3 : decide (n > 1000) = false := decide_eq_false (by omega)
  unfold firstOf at h
  clear hc hr
  by_cases hn : n = 0
  · rw [if_pos hn] at h
    have H := Aside0.mk (Option.some.inj h)
    have g4 : (n == 0) = true := beq_iff_eq.mpr hn
    clear h hn n0 n1 hl
    go_enter Try.func8, Try.ntmps8
    go_wp2
    go_ret
    exact ⟨_, rfl, by rw [← H.out]; exact Kd.R_nil _ _ _ _ _, Below.refl _ _⟩
  · rw [if_neg hn] at h
    have H := Aside0.mk h
    have g4 : (n == 0) = false := beq_eq_false_iff_ne.mpr hn
    clear h hn n0 n1 hl
    go_enter Try.func8, Try.ntmps8
    go_wp2_with (fail)
    refine (clone_calls A0 c0 l _ HC.out HL.out).mono ?_
    rintro e w1 ⟨v1, rfl, hR1, hB1⟩
    have HR1 := Aside0.mk hR1
    have HB1 := Aside0.mk hB1
    clear hR1 hB1
    go_wp2_with (fail)
    refine (enrycommon_ZZFirstLines.calls k (fun _ => True) v1 l n r w _ HB1.out HR1.out H.out).mono ?_
    rintro e w2 ⟨v2, rfl, hR2, hB2, _⟩
    obtain ⟨A2, c2, rfl, _, hC2⟩ := Kd.R_reads hR2
    have HC2 := Aside0.mk hC2
    have HB2 := Aside0.mk hB2
    clear hR2 hB2 hC2
    go_wp2_with (fail)
    refine (clone_calls A2 c2 r _ HC2.out HR.out).mono ?_
    rintro e w3 ⟨v3, rfl, hR3, hB3⟩
    have HR3 := Aside0.mk (Kd.R_lower hR3 HB2.out.size)
    have HB3 := Aside0.mk (below_then HB2.out HB2.out.size hB3)
    clear hR3 hB3
    go_wp2_with (fail)
    go_ret
    exact ⟨_, rfl, HR3.out, HB3.out⟩

/-- The same in the words of the caller: a slice that is read; a row of the call's own. -/
theorem first_at (k : Nat) (A0 : Option Addr) (m c0 : Nat) (l : List Int) (n : Int) (r : List Int) (w : World) (hc : ReadsInt w .u8 A0 m l) (hl : m ≤ 300) (hr : r.length ≤ 300) (hn : 0 ≤ n ∧ n ≤ 20) (h : firstOf k l n = some r) :
    Calls Try.prog 8 #[.slice A0 m c0, .int .i64 n] w fun e w' => ∃ v : Value, e = .returned v ∧ w'.ownsRow w.heap.size 5 1 v r.length (nums .u8 r) ∧ Below w.heap.size w w' := by
  obtain rfl : l.length = m := hc.1
  refine (first_calls k A0 c0 l n r w (Kd.C_of_reads hc) hl hr hn.1 hn.2 h).mono ?_
  rintro e w' ⟨v, rfl, hR, hB⟩
  exact ⟨v, rfl, Kd.own_of_R hR, hB⟩

end Go.Proofs.Ytcjppgeblibkcaa.Mine
