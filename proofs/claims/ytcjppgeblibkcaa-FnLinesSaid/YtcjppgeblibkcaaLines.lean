/- impl.Lines hands back a row that reads as the head and the foot of its argument, and leaves what lay in memory as it was. Conditions: at most 300 bytes. -/
import Derived.Test.YtcjppgeblibkcaaClone
import Derived.Test.YtcjppgeblibkcaaPFnLinesx1
import Derived.Test.YtcjppgeblibkcaaPFnLinesx2
import Derived.RegionTactic
import Derived.BigRegion
namespace Go.Proofs.Ytcjppgeblibkcaa.Mine
open Go.RowKit Go.Proofs.YtcjppgeblibkcaaW.PrintWords Go.Proofs.YtcjppgeblibkcaaW.PrintLast Go.Proofs.YtcjppgeblibkcaaW.PrintMore
open Go.Proofs.Ytcjppgeblibkcaa.PFnLines

/-- What the head and the foot come to: nothing of nothing; all of a text of few ends of lines; else two parts. -/
def EndsTo (k : Nat) (l r : List Int) : Prop :=
  (l = [] ∧ r = []) ∨
  (l ≠ [] ∧ r = l ∧ ∃ m : Int, m < 10 ∧ enrycommon_countByte.f k l 10 = some m) ∨
  (l ≠ [] ∧ ∃ (m : Int) (a b : Nat), 10 ≤ m ∧ a ≤ l.length ∧ b ≤ l.length ∧ r = l.take a ++ l.drop b ∧ enrycommon_countByte.f k l 10 = some m ∧
    enrycommon_headScope.f k l 5 = some (a : Int) ∧ enrycommon_footScope.f k l 5 = some (b : Int))

/-- A slice that is read later, at any later world. -/
theorem later {w w1 : World} {A : Option Addr} {n c B : Nat} {l : List Int} (h : Kd.V (Kd.int .u8) 5 w w.heap.size (fun _ => True) (.slice A n c) l) (hb : Below w.heap.size w w1) :
    Kd.V (Kd.int .u8) 5 w1 B (fun _ => True) (.slice A n c) l := Kd.V_below h hb

/-- What the call leaves: a slice that reads as r; what lay in memory as it was. -/
def Told (r : List Int) (w : World) (e : Ending) (w' : World) : Prop :=
  ∃ (A : Option Addr) (n c : Nat), e = .returned (.slice A n c) ∧ r.length = n ∧ Kd.C (Kd.int .u8) w' A n r ∧ Below w.heap.size w w'

set_option maxHeartbeats 1000000 in
set_option maxRecDepth 100000 in
theorem ends_none (A0 : Option Addr) (c0 : Nat) (w : World) (hv : Kd.V (Kd.int .u8) 5 w w.heap.size (fun _ => True) (.slice A0 0 c0) ([] : List Int)) :
    Calls Try.prog 19 #[.slice A0 0 c0] w (Told [] w) := by
  have HV := Aside0.mk hv
  clear hv
  go_enter Try.func19, Try.ntmps19
  go_wp2_with (fail)
  go_ret
  exact ⟨A0, 0, c0, rfl, rfl, (Kd.V_reads' HV.out).2.2, Below.refl _ _⟩

set_option maxHeartbeats 1000000 in
set_option maxRecDepth 100000 in
theorem ends_few (k : Nat) (A0 : Option Addr) (c0 : Nat) (l : List Int) (m : Int) (w : World) (hv : Kd.V (Kd.int .u8) 5 w w.heap.size (fun _ => True) (.slice A0 l.length c0) l)
    (h0 : l ≠ []) (hm : m < 10) (h : enrycommon_countByte.f k l 10 = some m) :
    Calls Try.prog 19 #[.slice A0 l.length c0] w (Told l w) := by
  have HV := Aside0.mk hv
  have H := Aside0.mk h
  have hp := List.length_pos_iff.2 h0
  have g0 : ((l.length : Int) == 0) = false := beq_eq_false_iff_ne.mpr (by omega)
  have g1 : decide (m < 10) = true := decide_eq_true hm
  clear hv h hp hm
  go_enter Try.func19, Try.ntmps19
  go_wp2_with (fail)
  refine (enrycommon_countByte.calls k A0 c0 l 10 m _ (Kd.V_reads' HV.out).2.2 (Kd.V_reads' HV.out).2.1 H.out).mono ?_
  rintro e w1 ⟨rfl, hd⟩
  have HB := Aside0.mk hd.below
  clear hd
  go_wp2_with (fail)
  go_ret
  exact ⟨A0, l.length, c0, rfl, rfl, (Kd.V_reads' (Kd.V_below HV.out HB.out)).2.2, HB.out⟩

set_option maxHeartbeats 1000000 in
set_option maxRecDepth 100000 in
theorem ends_many (k : Nat) (A0 : Option Addr) (c0 : Nat) (l : List Int) (m : Int) (a b : Nat) (w : World) (hv : Kd.V (Kd.int .u8) 5 w w.heap.size (fun _ => True) (.slice A0 l.length c0) l)
    (hl : l.length ≤ 300) (h0 : l ≠ []) (hm : 10 ≤ m) (ha : a ≤ l.length) (hb : b ≤ l.length) (h : enrycommon_countByte.f k l 10 = some m)
    (h1 : enrycommon_headScope.f k l 5 = some (a : Int)) (h2 : enrycommon_footScope.f k l 5 = some (b : Int)) :
    Calls Try.prog 19 #[.slice A0 l.length c0] w (Told (l.take a ++ l.drop b) w) := by
  have HV := Aside0.mk hv
  have H := Aside0.mk h
  have H1 := Aside0.mk h1
  have H2 := Aside0.mk h2
  have hp := List.length_pos_iff.2 h0
  have g0 : ((l.length : Int) == 0) = false := beq_eq_false_iff_ne.mpr (by omega)
  have g1 : decide (m < 10) = false := decide_eq_false (by omega)
  have hcap := (Kd.V_reads' hv).2.1
  obtain ⟨i0, hi, _, hsz, _⟩ := info_parts inf5
  obtain ⟨i1, hi1, hz1, hsz1, hby1⟩ := info_parts inf5
  have hto : ∀ W : World, (Instr.slice 23 (.slice A0 l.length c0) none (some (.int .i64 (a : Int))) none).run Try.prog W = .ok (.slice A0 a c0) W := fun W => by
    have z := cut_to (P := Try.prog) 23 5 .i64 Try.underlying23 hi A0 l.length c0 (a : Int) (by omega) (by omega) hcap W
    simpa using z
  obtain ⟨q, hq⟩ : ∃ q : Nat, l.length - b = q := ⟨_, rfl⟩
  obtain ⟨A1, hA1⟩ : ∃ A1 : Option Addr, (if c0 = b then A0 else A0.map (·.add b)) = A1 := ⟨_, rfl⟩
  obtain ⟨c1, hc1⟩ : ∃ c1 : Nat, c0 - b = c1 := ⟨_, rfl⟩
  have hfr : ∀ W : World, (Instr.slice 23 (.slice A0 l.length c0) (some (.int .i64 (b : Int))) none none).run Try.prog W = .ok (.slice A1 q c1) W := fun W => by
    have z := cut_from (P := Try.prog) 23 5 .i64 Try.underlying23 hi 1 hsz A0 l.length c0 (b : Int) (by omega) (by omega) W
    rw [Int.toNat_natCast, Nat.mul_one, hq, hc1, hA1] at z
    exact z
  obtain ⟨n, hn⟩ : ∃ n : Nat, a + q = n := ⟨_, rfl⟩
  have hw : IntKind.i64.wrap ((a : Int) + (q : Int)) = (n : Int) := by rw [IntKind.wrap_i64]; omega
  have hmk : ∀ W : World, (Instr.makeSlice 23 (.int .i64 0) (.int .i64 (n : Int))).run Try.prog W = .ok (.slice (some ⟨W.heap.size, 0, none⟩) 0 n) (W.alloc (.cells (madeCells #[.int .u8 0] n) 5)) := fun W => by
    have z := run_make (P := Try.prog) W 23 5 i1 (.int .u8 0) Try.underlying23 hi1 hz1 .i64 .i64 0 (n : Int) (by omega) (by omega) (by rw [hby1]; omega) (by omega)
    rw [hsz1, Int.toNat_natCast, Nat.mul_one] at z
    exact z
  have HR0 := Aside0.mk (Kd.reads_of_C (d := (0 : Int)) (Kd.V_reads' hv).2.2)
  have HTA := Aside0.mk (ReadsInt.take_ HR0.out a ha)
  have HDB := Aside0.mk (by
    have z := ReadsInt.drop_ (c := c0) HR0.out b hb hcap
    rw [hq, hA1] at z
    exact z)
  have HL := Aside0.mk (show a ≤ 300 ∧ q ≤ 300 ∧ (l.take a).length = a ∧ n ≤ 600 by rw [List.length_take]; omega)
  clear hv h h1 h2 hp hl hm ha hb hcap hi hsz hi1 hz1 hsz1 hby1 hq hA1 hc1 hn h0
  go_enter Try.func19, Try.ntmps19
  go_wp2_with (fail)
  refine (enrycommon_countByte.calls k A0 c0 l 10 m _ (Kd.V_reads' HV.out).2.2 (Kd.V_reads' HV.out).2.1 H.out).mono ?_
  rintro e w1 ⟨rfl, hd⟩
  have HB := Aside0.mk hd.below
  clear hd
  go_wp2_with (fail)
  refine (enrycommon_headScope.calls k (fun _ => True) A0 c0 l 5 (a : Int) _ (later HV.out HB.out) H1.out).mono ?_
  rintro e w2 ⟨rfl, hb2⟩
  have HB2 := Aside0.mk (below_then HB.out HB.out.size hb2)
  clear hb2
  go_wp2_with (fail)
  refine (enrycommon_footScope.calls k (fun _ => True) A0 c0 l 5 (b : Int) _ (later HV.out HB2.out) H2.out).mono ?_
  rintro e w3 ⟨rfl, hb3⟩
  have HB3 := Aside0.mk (below_then HB2.out HB2.out.size hb3)
  clear hb3
  go_wp2_with (fail)
  go_region
  go_wp2_with (first
    | (at_builtin; refine print_append_row (w0 := w3) w3.heap.size rfl _ _ 23 5 .u8 1 rfl Try.underlying23 inf5 (by decide) (.slice (some ⟨w3.heap.size, 0, none⟩) 0 n) [] (l.take a) A0 a c0 rfl rfl ?c1 ?c2 ?c3 ?c4 ?c5 ?_; (case c1 => exact (World.ownsRow_made w3 _ n (Nat.le_refl _) (by have := HL.out; unfold maxLen; omega) (by rw [size_madeCells, Nat.mul_one])).drew); (case c2 => exact HTA.out.below (below_drew (below_alloc HB3.out _))); (case c3 => exact below_drew (below_alloc (Below.refl _ _) _)); (case c4 => simp); (case c5 => have := HL.out; simp; omega); intro v1 w4 hown hb4 _ _; have HO4 : Aside0 (w4.ownsRow w3.heap.size 5 1 v1 (l.take a).length (nums .u8 (l.take a))) := ⟨hown⟩; have HB4 := Aside0.mk hb4; clear hown hb4)
    | (at_builtin; refine print_append_row (w0 := w3) w3.heap.size rfl _ _ 23 5 .u8 1 rfl Try.underlying23 inf5 (by decide) v1 (l.take a) (l.drop b) A1 q c1 rfl rfl ?d1 ?d2 ?d3 ?d4 ?d5 ?_; (case d1 => exact HO4.out); (case d2 => exact HDB.out.below (below_then HB3.out HB3.out.size HB4.out)); (case d3 => exact HB4.out); (case d4 => exact HB4.out.size); (case d5 => have := HL.out; omega); intro v2 w5 hown hb5 _ _; obtain ⟨A, c, hv2, _, hC⟩ := Kd.R_reads (Kd.R_of_own (h1 := fun _ => rfl) (ok := fun _ => True) hown (fun _ _ => trivial)); obtain ⟨N, hN⟩ : ∃ N, (l.take a ++ l.drop b).length = N := ⟨_, rfl⟩; rw [hN] at hv2 hC; subst hv2; have HN := Aside0.mk hN; clear hN; have HC5 := Aside0.mk hC; have HB5 := Aside0.mk (below_then HB3.out HB3.out.size hb5); clear hown hb5 hC))
  go_ret
  exact ⟨A, N, c, rfl, HN.out, HC5.out, HB5.out⟩

/-- The three ways in one. -/
theorem ends_calls (k : Nat) (A0 : Option Addr) (c0 : Nat) (l r : List Int) (w : World) (hv : Kd.V (Kd.int .u8) 5 w w.heap.size (fun _ => True) (.slice A0 l.length c0) l) (hl : l.length ≤ 300) (h : EndsTo k l r) :
    Calls Try.prog 19 #[.slice A0 l.length c0] w (Told r w) := by
  rcases h with ⟨rfl, rfl⟩ | ⟨h0, rfl, m, hm, hc⟩ | ⟨h0, m, a, b, hm, ha, hb, rfl, hc, h1, h2⟩
  · exact ends_none A0 c0 w hv
  · exact ends_few k A0 c0 r m w hv h0 hm hc
  · exact ends_many k A0 c0 l m a b w hv hl h0 hm ha hb hc h1 h2

set_option maxHeartbeats 1000000 in
set_option maxRecDepth 100000 in
theorem zz_calls (v : Value) (r : List Int) (w : World) (h : Calls Try.prog 19 #[v] w (Told r w)) : Calls Try.prog 16 #[v] w (Told r w) := by
  have H := Aside0.mk h
  clear h
  go_enter Try.func16, Try.ntmps16
  go_wp2_with (fail)
  refine H.out.mono ?_
  rintro e w1 ⟨A, n, c, rfl, hn, hC, hB⟩
  have HN := Aside0.mk hn
  have HC := Aside0.mk hC
  have HB := Aside0.mk hB
  clear hn hC hB
  go_wp2_with (fail)
  go_ret
  exact ⟨A, n, c, rfl, HN.out, HC.out, HB.out⟩

set_option maxHeartbeats 1000000 in
set_option maxRecDepth 100000 in
theorem lines_at (k : Nat) (A0 : Option Addr) (m c0 : Nat) (l r : List Int) (w : World) (hc : ReadsInt w .u8 A0 m l) (hl : m ≤ 300) (hr : r.length ≤ 1000) (h : EndsTo k l r) :
    Calls Try.prog 10 #[.slice A0 m c0] w fun e w' => ∃ v : Value, e = .returned v ∧ w'.ownsRow w.heap.size 5 1 v r.length (nums .u8 r) ∧ Below w.heap.size w w' := by
  obtain rfl : l.length = m := hc.1
  have HL := Aside0.mk hl
  have HR := Aside0.mk (show r.length ≤ 100000 by omega)
  have HC : Aside0 (Kd.C (Kd.int .u8) w A0 l.length l) := ⟨Kd.C_of_reads hc⟩
  have g1 : decide ((l.length : Int) > 100000) = false := decide_eq_false (by omega)
  have H := Aside0.mk h
  clear hc hl hr h
  go_enter Try.func10, Try.ntmps10
  go_wp2_with (fail)
  refine (clone_calls A0 c0 l _ HC.out (by have := HL.out; omega)).mono ?_
  rintro e w1 ⟨v1, rfl, hR1, hB1⟩
  obtain ⟨A1, c1, rfl⟩ := Kd.R_slice hR1
  have HR1 := Aside0.mk hR1
  have HB1 := Aside0.mk hB1
  clear hR1 hB1
  go_wp2_with (fail)
  refine (zz_calls _ r _ (ends_calls k A1 c1 l r _ (Kd.R_V HR1.out) HL.out H.out)).mono ?_
  rintro e w2 ⟨A2, n2, c2, rfl, hn2, hC2, hB2⟩
  subst hn2
  have HC2 := Aside0.mk hC2
  have HB2 := Aside0.mk (below_then HB1.out HB1.out.size hB2)
  clear hB2 hC2
  go_wp2_with (fail)
  refine (clone_calls A2 c2 r _ HC2.out HR.out).mono ?_
  rintro e w3 ⟨v3, rfl, hR3, hB3⟩
  have HR3 := Aside0.mk (Kd.R_lower hR3 HB2.out.size)
  have HB3 := Aside0.mk (below_then HB2.out HB2.out.size hB3)
  clear hR3 hB3
  go_wp2_with (fail)
  go_ret
  exact ⟨v3, rfl, Kd.own_of_R HR3.out, HB3.out⟩

end Go.Proofs.Ytcjppgeblibkcaa.Mine
