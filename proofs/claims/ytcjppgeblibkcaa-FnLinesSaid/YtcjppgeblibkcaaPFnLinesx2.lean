-- PRINTED BY print.sh 35421559b90ae4d0a3588c463048766b98c2df88dd9212a6774a882060cdf62d: not written by this session
import Derived.Test.YtcjppgeblibkcaaPFnLinesx0
namespace Go.Proofs.Ytcjppgeblibkcaa.PFnLines
open Go.RowKit Go.Proofs.YtcjppgeblibkcaaW.PrintWords Go.Proofs.YtcjppgeblibkcaaW.PrintLast Go.Proofs.YtcjppgeblibkcaaW.PrintMore
attribute [local go_sem] max2_int min2_int max_two min_two max_three min_three max_four min_four   -- for this text's walks alone
set_option linter.unusedVariables false
set_option linter.unusedSimpArgs false

/-! ### spec_Ends: function 11 -/
def spec_Ends.l0 : Nat → ByteArray → List Int → Int → Int → Option (ByteArray)
  | 0, _, _, _, _ => none
  | k + 1, x0, x3, x7, x8 => if x8 < x7 then (if 0 ≤ x8 then (if x8 < (x0.size : Int) then (if (bt x0 x8) = 10 then (if x3.length < 17592186044416 then (spec_Ends.l0 k x0 (x3 ++ [x8]) x7 (wrap64 (x8 + 1))) else (none)) else (spec_Ends.l0 k x0 x3 x7 (wrap64 (x8 + 1)))) else (none)) else (none)) else (if (x3.length : Int) < 10 then (some x0) else (if 4 < (x3.length : Int) then (if 0 ≤ (rd x3 4) then (if (rd x3 4) ≤ (x0.size : Int) then (if 0 ≤ (wrap64 ((x3.length : Int) - 5)) then (if (wrap64 ((x3.length : Int) - 5)) < (x3.length : Int) then (if 0 ≤ (wrap64 ((rd x3 (wrap64 ((x3.length : Int) - 5))) + 1)) then (if (wrap64 ((rd x3 (wrap64 ((x3.length : Int) - 5))) + 1)) ≤ (x0.size : Int) then (if (x0.extract 0 ((rd x3 4) : Int).toNat).size + (x0.extract ((wrap64 ((rd x3 (wrap64 ((x3.length : Int) - 5))) + 1)) : Int).toNat x0.size).size ≤ 9223372036854775807 then (some ((x0.extract 0 ((rd x3 4) : Int).toNat) ++ (x0.extract ((wrap64 ((rd x3 (wrap64 ((x3.length : Int) - 5))) + 1)) : Int).toNat x0.size))) else (none)) else (none)) else (none)) else (none)) else (none)) else (none)) else (none)) else (none)))
def spec_Ends.f (k : Nat) (a0 : ByteArray) : Option (ByteArray) := spec_Ends.l0 k a0 (([] : List Int)) (a0.size : Int) 0
theorem spec_Ends.mono_l : ∀ k, (∀ y0 y1 y2 y3, LeO (spec_Ends.l0 k y0 y1 y2 y3) (spec_Ends.l0 (k + 1) y0 y1 y2 y3))
  | 0 => fun _ _ _ _ r h => by simp [spec_Ends.l0] at h
  | k + 1 => by
    have ih0 := spec_Ends.mono_l k
    · intro y0 y1 y2 y3
      unfold spec_Ends.l0
      repeat' first
      | (with_reducible exact ih0 _ _ _ _)
      | (with_reducible exact LeO.refl _)
      | (with_reducible exact LeO.none _)
      | (with_reducible refine LeO.ite ?_ ?_)
      | (with_reducible refine LeO.bind ?_ (fun _ => ?_))
      | exact ih0 _ _ _ _
      | exact LeO.none _
      | refine LeO.ite ?_ ?_
      | refine LeO.bind ?_ (fun _ => ?_)
theorem spec_Ends.mono : ∀ a0 k, LeO (spec_Ends.f k a0) (spec_Ends.f (k + 1) a0) := by
  intro a0 k
  have ih0 := spec_Ends.mono_l k
  unfold spec_Ends.f
  repeat' first
      | (with_reducible exact ih0 _ _ _ _)
      | (with_reducible exact LeO.refl _)
      | (with_reducible exact LeO.none _)
      | (with_reducible refine LeO.ite ?_ ?_)
      | (with_reducible refine LeO.bind ?_ (fun _ => ?_))
      | exact ih0 _ _ _ _
      | exact LeO.none _
      | refine LeO.ite ?_ ?_
      | refine LeO.bind ?_ (fun _ => ?_)
set_option maxHeartbeats 8000000 in
set_option maxRecDepth 100000 in
theorem spec_Ends.calls (k : Nat) (a0 : ByteArray) (r : ByteArray) (w : World) (h : spec_Ends.f k a0 = some r) :
    Calls Try.prog 11 #[.string a0] w fun e w' => e = .returned (.string r) ∧ Below w.heap.size w w' := by
  have HB := Aside0.mk (Below.refl w.heap.size w)
  have H : (spec_Ends.l0 k a0 (([] : List Int)) (a0.size : Int) 0) = some r := h
  clear h
  obtain ⟨y121, hy121⟩ : ∃ y_ : List Int, y_ = (([] : List Int)) := ⟨_, rfl⟩
  replace H : (spec_Ends.l0 k a0 y121 (a0.size : Int) 0) = some r := by first | (rw [hy121]; with_reducible exact H) | (have H2_ := (Option.bind_some _ _).symm.trans H; rw [hy121]; with_reducible exact H2_) | (have H2_ := (Option.bind_some _ _).symm.trans H; with_reducible exact H2_) | with_reducible exact H | (rw [hy121]; exact H) | exact H
  have Ny121 := Aside0.mk hy121
  clear hy121
  have H' := Aside0.mk H
  clear H
  go_enter Try.func11, Try.ntmps11
  go_wp2_with (first | ((with_reducible refine gate_dst (N := 5) rfl ?_); refine Kd.R_lit (Kd.int .i64) _ 3 ?hg (N := 5) ?hd (xs := ([] : List Int)) (inner := []) (ok := fun _ => True) (okp := fun _ => True) ?hr ?hp (fun _ hk => hk) trivial (Below.refl _ _) (Nat.le_refl _) (by simp) ?_; (case hd => rfl); (case hg => rfl); (case hr => first | (go_simp; done) | (go_simp; rfl)); (case hp => exact (Reps.none _ _)); intro v122 w2 ho3 hb hg_ hnew_; clear hg_ hnew_; (first | rw [← Ny121.out] at ho3 | (simp only [Int.reduceToNat] at ho3; rw [← Ny121.out] at ho3)); have n0_ := Aside0.mk (Kd.R_lower ho3 (below_size (by repeat (first | (with_reducible first | exact HB.out | apply below_alloc | apply pw_below_drewN | apply below_drew1) | exact HB.out)))); have n1_ := Aside0.mk (below_step (by repeat (first | (with_reducible first | exact HB.out | apply below_alloc | apply pw_below_drewN | apply below_drew1) | exact HB.out)) hb); clear HB; have HO123 := n0_; have HB := n1_; clear n0_ n1_; clear hb ho3))
  repeat (go_quiet (first | ((with_reducible refine gate_dst (N := 5) rfl ?_); refine Kd.R_lit (Kd.int .i64) _ 3 ?hg (N := 5) ?hd (xs := ([] : List Int)) (inner := []) (ok := fun _ => True) (okp := fun _ => True) ?hr ?hp (fun _ hk => hk) trivial (Below.refl _ _) (Nat.le_refl _) (by simp) ?_; (case hd => rfl); (case hg => rfl); (case hr => first | (go_simp; done) | (go_simp; rfl)); (case hp => exact (Reps.none _ _)); intro v122 w2 ho3 hb hg_ hnew_; clear hg_ hnew_; (first | rw [← Ny121.out] at ho3 | (simp only [Int.reduceToNat] at ho3; rw [← Ny121.out] at ho3)); have n0_ := Aside0.mk (Kd.R_lower ho3 (below_size (by repeat (first | (with_reducible first | exact HB.out | apply below_alloc | apply pw_below_drewN | apply below_drew1) | exact HB.out)))); have n1_ := Aside0.mk (below_step (by repeat (first | (with_reducible first | exact HB.out | apply below_alloc | apply pw_below_drewN | apply below_drew1) | exact HB.out)) hb); clear HB; have HO123 := n0_; have HB := n1_; clear n0_ n1_; clear hb ho3)); try go_wp2_with (first | ((with_reducible refine gate_dst (N := 5) rfl ?_); refine Kd.R_lit (Kd.int .i64) _ 3 ?hg (N := 5) ?hd (xs := ([] : List Int)) (inner := []) (ok := fun _ => True) (okp := fun _ => True) ?hr ?hp (fun _ hk => hk) trivial (Below.refl _ _) (Nat.le_refl _) (by simp) ?_; (case hd => rfl); (case hg => rfl); (case hr => first | (go_simp; done) | (go_simp; rfl)); (case hp => exact (Reps.none _ _)); intro v122 w2 ho3 hb hg_ hnew_; clear hg_ hnew_; (first | rw [← Ny121.out] at ho3 | (simp only [Int.reduceToNat] at ho3; rw [← Ny121.out] at ho3)); have n0_ := Aside0.mk (Kd.R_lower ho3 (below_size (by repeat (first | (with_reducible first | exact HB.out | apply below_alloc | apply pw_below_drewN | apply below_drew1) | exact HB.out)))); have n1_ := Aside0.mk (below_step (by repeat (first | (with_reducible first | exact HB.out | apply below_alloc | apply pw_below_drewN | apply below_drew1) | exact HB.out)) hb); clear HB; have HO123 := n0_; have HB := n1_; clear n0_ n1_; clear hb ho3)))
  go_loopg [3, 8] k (fun kq v3 v8 w' => ∃ (x3_1 : List Int) (x8_1 : Int), v8 = .int .i64 x8_1 ∧ Aside0 (spec_Ends.l0 kq a0 x3_1 (a0.size : Int) x8_1 = some r) ∧ Aside0 (kq ≤ k) ∧ Aside0 (Kd.R (Kd.int .i64) 3 w' w.heap.size (fun _ => True) v3 x3_1) ∧ Aside0 (Below w.heap.size w w'))
  case atStart => exact ⟨(y121), (0), (by first | rfl | (simp; done) | (simp [*]; done)), H', ⟨Nat.le_refl _⟩, ⟨by (with_reducible repeat (first | apply Kd.R_alloc | apply Kd.R_drewN | apply Kd.R_drew)); exact HO123.out⟩, ⟨by repeat (first | (with_reducible first | exact HB.out | apply below_alloc | apply pw_below_drewN | apply below_drew1) | exact HB.out)⟩⟩
  case round =>
    clear H'
    try clear c1
    try clear p2
    obtain ⟨x3_1, x8_1, rfl, HA, HK1, HO_3, HB⟩ := hrel
    cases gk with
    | zero => exact absurd HA.out (by simp [spec_Ends.l0])
    | succ k1 =>
      have H := HA.out
      clear HA
      simp only [spec_Ends.l0] at H
      by_cases c4 : x8_1 < (a0.size : Int)
      · rw [if_pos c4] at H
        have c4b0 : decide (x8_1 < (a0.size : Int)) = true := decide_eq_true c4
        clear c4
        by_cases c5 : 0 ≤ x8_1
        · rw [if_pos c5] at H
          have c5b0 : decide (0 ≤ x8_1) = true := decide_eq_true c5
          clear c5
          by_cases c6 : x8_1 < (a0.size : Int)
          · rw [if_pos c6] at H
            have c6b0 : decide (x8_1 < (a0.size : Int)) = true := decide_eq_true c6
            clear c6
            by_cases c8 : (bt a0 x8_1) = 10
            · rw [if_pos c8] at H
              have c8b0 : ((bt a0 x8_1) == 10) = true := beq_iff_eq.mpr c8
              have c8b1 : ((bt a0 x8_1) != 10) = false := bne_eq_false_iff_eq.mpr c8
              clear c8
              by_cases c9 : x3_1.length < 17592186044416
              · rw [if_pos c9] at H
                have LMc9 := Aside0.mk c9
                clear c9
                obtain ⟨y124, hy124⟩ : ∃ y_ : List Int, y_ = (x3_1 ++ [x8_1]) := ⟨_, rfl⟩
                replace H : (spec_Ends.l0 k1 a0 y124 (a0.size : Int) (wrap64 (x8_1 + 1))) = some r := by first | (rw [hy124]; with_reducible exact H) | (have H2_ := (Option.bind_some _ _).symm.trans H; rw [hy124]; with_reducible exact H2_) | (have H2_ := (Option.bind_some _ _).symm.trans H; with_reducible exact H2_) | with_reducible exact H | (rw [hy124]; exact H) | exact H
                have Ny124 := Aside0.mk hy124
                clear hy124
                have H' := Aside0.mk H
                clear H
                have p7 : 0 ≤ (x8_1 : Int) := of_decide_eq_true (by first | (with_reducible assumption) | assumption)
                have q7 : x8_1 < (a0.size : Int) := of_decide_eq_true (by first | (with_reducible assumption) | assumption)
                have hx7 := bt_at a0 x8_1
                replace p7 := eq_true p7
                replace q7 := eq_true q7
                go_wp2_with (first | ((with_reducible refine gate_builtin (b := .append) (xs := #[.tmp 15, .tmp 17]) rfl ?_); at_builtin; refine Kd.R_append (Kd.int .i64) (w0 := w) w.heap.size rfl (.tmp 15) (.tmp 17) 35 3 (.int .i64 0) 8 rfl Try.underlying35 info3 rfl (by decide) (by omega) u3 x3_1 x8_1 [.int .i64 x8_1] (fun _ => True) (fun _ => False) rfl rfl ?aP (fun _ hk => hk.elim) ?aF ?aO ?aB ?aS ?aL ?_; (case aP => exact rfl); (case aB => exact (by repeat (first | (with_reducible first | exact HB.out | apply below_alloc | apply pw_below_drewN | apply below_drew1) | exact HB.out))); (case aF => exact (fun _ _ => trivial)); (case aO => exact (by (with_reducible repeat (first | apply Kd.R_alloc | apply Kd.R_drewN | apply Kd.R_drew)); exact HO_3.out)); (case aS => exact (below_size (by repeat (first | (with_reducible first | exact HB.out | apply below_alloc | apply pw_below_drewN | apply below_drew1) | exact HB.out)))); (case aL => have := LMc9.out; omega); intro v125 w10 ho hb hg hat; rw [← Ny124.out] at ho; have n0_ := Aside0.mk (hb); have n1_ := Aside0.mk (ho); clear HB; clear HO_3; have HB := n0_; have HO126 := n1_; clear n0_ n1_; clear ho hb hg hat))
                repeat (go_quiet (first | ((with_reducible refine gate_builtin (b := .append) (xs := #[.tmp 15, .tmp 17]) rfl ?_); at_builtin; refine Kd.R_append (Kd.int .i64) (w0 := w) w.heap.size rfl (.tmp 15) (.tmp 17) 35 3 (.int .i64 0) 8 rfl Try.underlying35 info3 rfl (by decide) (by omega) u3 x3_1 x8_1 [.int .i64 x8_1] (fun _ => True) (fun _ => False) rfl rfl ?aP (fun _ hk => hk.elim) ?aF ?aO ?aB ?aS ?aL ?_; (case aP => exact rfl); (case aB => exact (by repeat (first | (with_reducible first | exact HB.out | apply below_alloc | apply pw_below_drewN | apply below_drew1) | exact HB.out))); (case aF => exact (fun _ _ => trivial)); (case aO => exact (by (with_reducible repeat (first | apply Kd.R_alloc | apply Kd.R_drewN | apply Kd.R_drew)); exact HO_3.out)); (case aS => exact (below_size (by repeat (first | (with_reducible first | exact HB.out | apply below_alloc | apply pw_below_drewN | apply below_drew1) | exact HB.out)))); (case aL => have := LMc9.out; omega); intro v125 w10 ho hb hg hat; rw [← Ny124.out] at ho; have n0_ := Aside0.mk (hb); have n1_ := Aside0.mk (ho); clear HB; clear HO_3; have HB := n0_; have HO126 := n1_; clear n0_ n1_; clear ho hb hg hat)); try go_wp2_with (first | ((with_reducible refine gate_builtin (b := .append) (xs := #[.tmp 15, .tmp 17]) rfl ?_); at_builtin; refine Kd.R_append (Kd.int .i64) (w0 := w) w.heap.size rfl (.tmp 15) (.tmp 17) 35 3 (.int .i64 0) 8 rfl Try.underlying35 info3 rfl (by decide) (by omega) u3 x3_1 x8_1 [.int .i64 x8_1] (fun _ => True) (fun _ => False) rfl rfl ?aP (fun _ hk => hk.elim) ?aF ?aO ?aB ?aS ?aL ?_; (case aP => exact rfl); (case aB => exact (by repeat (first | (with_reducible first | exact HB.out | apply below_alloc | apply pw_below_drewN | apply below_drew1) | exact HB.out))); (case aF => exact (fun _ _ => trivial)); (case aO => exact (by (with_reducible repeat (first | apply Kd.R_alloc | apply Kd.R_drewN | apply Kd.R_drew)); exact HO_3.out)); (case aS => exact (below_size (by repeat (first | (with_reducible first | exact HB.out | apply below_alloc | apply pw_below_drewN | apply below_drew1) | exact HB.out)))); (case aL => have := LMc9.out; omega); intro v125 w10 ho hb hg hat; rw [← Ny124.out] at ho; have n0_ := Aside0.mk (hb); have n1_ := Aside0.mk (ho); clear HB; clear HO_3; have HB := n0_; have HO126 := n1_; clear n0_ n1_; clear ho hb hg hat)))
                go_roundg k1
                case measure => have := HK1.out; omega
                case rel => exact ⟨(y124), (wrap64 (x8_1 + 1)), (by first | rfl | (simp; done) | (simp [*]; done)), H', ⟨by have := HK1.out; omega⟩, ⟨by (with_reducible repeat (first | apply Kd.R_alloc | apply Kd.R_drewN | apply Kd.R_drew)); exact HO126.out⟩, ⟨by repeat (first | (with_reducible first | exact HB.out | apply below_alloc | apply pw_below_drewN | apply below_drew1) | exact HB.out)⟩⟩
              · rw [if_neg c9] at H
                exact absurd H (by simp)
            · rw [if_neg c8] at H
              have c8b0 : ((bt a0 x8_1) == 10) = false := beq_eq_false_iff_ne.mpr c8
              have c8b1 : ((bt a0 x8_1) != 10) = true := bne_iff_ne.mpr c8
              have H' := Aside0.mk H
              clear H
              have p7 : 0 ≤ (x8_1 : Int) := of_decide_eq_true (by first | (with_reducible assumption) | assumption)
              have q7 : x8_1 < (a0.size : Int) := of_decide_eq_true (by first | (with_reducible assumption) | assumption)
              have hx7 := bt_at a0 x8_1
              replace p7 := eq_true p7
              replace q7 := eq_true q7
              go_wp2
              repeat (go_quiet (fail); try go_wp2)
              go_roundg k1
              case measure => have := HK1.out; omega
              case rel => exact ⟨(x3_1), (wrap64 (x8_1 + 1)), (by first | rfl | (simp; done) | (simp [*]; done)), H', ⟨by have := HK1.out; omega⟩, ⟨by (with_reducible repeat (first | apply Kd.R_alloc | apply Kd.R_drewN | apply Kd.R_drew)); exact HO_3.out⟩, ⟨by repeat (first | (with_reducible first | exact HB.out | apply below_alloc | apply pw_below_drewN | apply below_drew1) | exact HB.out)⟩⟩
          · rw [if_neg c6] at H
            exact absurd H (by simp)
        · rw [if_neg c5] at H
          exact absurd H (by simp)
      · rw [if_neg c4] at H
        have c4b0 : decide (x8_1 < (a0.size : Int)) = false := decide_eq_false c4
        clear c4
        by_cases c11 : (x3_1.length : Int) < 10
        · rw [if_pos c11] at H
          have c11b0 : decide ((x3_1.length : Int) < 10) = true := decide_eq_true c11
          have c11b1 : decide (x3_1.length < 10) = true := decide_eq_true (by omega)
          clear c11
          obtain rfl := Option.some.inj H
          obtain ⟨Ao12, co12, eo12⟩ := Kd.R_slice HO_3.out
          subst eo12
          go_wp2
          repeat (go_quiet (fail); try go_wp2)
          go_ret
          exact ⟨by first | rfl | (simp [errW_none, errW_some] <;> rfl) | (simp [*, errW_none, errW_some] <;> rfl), by repeat (first | (with_reducible first | exact HB.out | apply below_alloc | apply pw_below_drewN | apply below_drew1) | exact HB.out)⟩
        · rw [if_neg c11] at H
          have c11b0 : decide ((x3_1.length : Int) < 10) = false := decide_eq_false c11
          have c11b1 : decide (x3_1.length < 10) = false := decide_eq_false (by omega)
          clear c11
          by_cases c13 : 4 < (x3_1.length : Int)
          · rw [if_pos c13] at H
            have c13b0 : decide (4 < (x3_1.length : Int)) = true := decide_eq_true c13
            have c13b1 : decide (4 < x3_1.length) = true := decide_eq_true (by omega)
            clear c13
            by_cases c14 : 0 ≤ (rd x3_1 4)
            · rw [if_pos c14] at H
              have c14b0 := eq_true c14
              have c14b1 : decide (0 ≤ (rd x3_1 4)) = true := decide_eq_true c14
              clear c14
              by_cases c15 : (rd x3_1 4) ≤ (a0.size : Int)
              · rw [if_pos c15] at H
                have c15b0 := eq_true c15
                have c15b1 : decide ((rd x3_1 4) ≤ (a0.size : Int)) = true := decide_eq_true c15
                clear c15
                obtain ⟨ji16, hji16⟩ : ∃ j_ : Int, (wrap64 ((x3_1.length : Int) - 5)) = j_ := ⟨_, rfl⟩
                replace H : (if 0 ≤ (ji16) then (if (ji16) < (x3_1.length : Int) then (if 0 ≤ (wrap64 ((rd x3_1 (ji16)) + 1)) then (if (wrap64 ((rd x3_1 (ji16)) + 1)) ≤ (a0.size : Int) then (if (a0.extract 0 ((rd x3_1 4) : Int).toNat).size + (a0.extract ((wrap64 ((rd x3_1 (ji16)) + 1)) : Int).toNat a0.size).size ≤ 9223372036854775807 then (some ((a0.extract 0 ((rd x3_1 4) : Int).toNat) ++ (a0.extract ((wrap64 ((rd x3_1 (ji16)) + 1)) : Int).toNat a0.size))) else (none)) else (none)) else (none)) else (none)) else (none)) = some r := by first | (rw [hji16] at H; exact H) | (simp only [hji16] at H ⊢; exact H)
                have hji16w : (IntKind.i64.wrap ((x3_1.length : Int) - 5)) = ji16 := (i64_w _).trans hji16
                by_cases c17 : 0 ≤ (ji16)
                · rw [if_pos c17] at H
                  have c17b0 : decide (0 ≤ (ji16)) = true := decide_eq_true c17
                  clear c17
                  by_cases c18 : (ji16) < (x3_1.length : Int)
                  · rw [if_pos c18] at H
                    have c18b0 : decide ((ji16) < (x3_1.length : Int)) = true := decide_eq_true c18
                    clear c18
                    obtain ⟨ji19, hji19⟩ : ∃ j_ : Int, (wrap64 ((rd x3_1 (ji16)) + 1)) = j_ := ⟨_, rfl⟩
                    replace H : (if 0 ≤ (ji19) then (if (ji19) ≤ (a0.size : Int) then (if (a0.extract 0 ((rd x3_1 4) : Int).toNat).size + (a0.extract ((ji19) : Int).toNat a0.size).size ≤ 9223372036854775807 then (some ((a0.extract 0 ((rd x3_1 4) : Int).toNat) ++ (a0.extract ((ji19) : Int).toNat a0.size))) else (none)) else (none)) else (none)) = some r := by first | (rw [hji19] at H; exact H) | (simp only [hji19] at H ⊢; exact H)
                    have hji19w : (IntKind.i64.wrap ((rd x3_1 (ji16)) + 1)) = ji19 := (i64_w _).trans hji19
                    by_cases c20 : 0 ≤ (ji19)
                    · rw [if_pos c20] at H
                      have c20b0 := eq_true c20
                      have c20b1 : decide (0 ≤ (ji19)) = true := decide_eq_true c20
                      clear c20
                      by_cases c21 : (ji19) ≤ (a0.size : Int)
                      · rw [if_pos c21] at H
                        have c21b0 := eq_true c21
                        have c21b1 : decide ((ji19) ≤ (a0.size : Int)) = true := decide_eq_true c21
                        clear c21
                        by_cases c22 : (a0.extract 0 ((rd x3_1 4) : Int).toNat).size + (a0.extract ((ji19) : Int).toNat a0.size).size ≤ 9223372036854775807
                        · rw [if_pos c22] at H
                          have c22b0 := eq_true c22
                          have c22b1 : decide ((a0.extract 0 ((rd x3_1 4) : Int).toNat).size + (a0.extract ((ji19) : Int).toNat a0.size).size ≤ 9223372036854775807) = true := decide_eq_true c22
                          try have c22b2 : (9223372036854775807 < (a0.extract 0 ((rd x3_1 4) : Int).toNat).size + (a0.extract ((ji19) : Int).toNat a0.size).size) = False := eq_false (Nat.not_lt.2 c22)
                          obtain rfl := Option.some.inj H
                          obtain ⟨Ao23, co23, eo23⟩ := Kd.R_slice HO_3.out
                          subst eo23
                          have p127 : 0 ≤ (4 : Int) := (by omega)
                          have q127 : 4 < (x3_1.length : Int) := of_decide_eq_true (by first | (with_reducible assumption) | assumption)
                          obtain ⟨ad127, e127, hx127_0⟩ := Kd.at_int (Kd.R_reads' HO_3.out).2.2 4 p127 q127
                          cases e127
                          (try simp only [show (4 : Int).toNat = 4 from rfl, Nat.reduceMul, Nat.reduceEqDiff, Go.Addr.add, ↓reduceIte] at hx127_0)
                          have qi127 : (4 < x3_1.length) = True := eq_true (by omega)
                          (try rw [show ((4 : Int)).toNat = 4 from rfl] at hx127_0)
                          replace p127 := eq_true p127
                          replace q127 := eq_true q127
                          have p128 : 0 ≤ ((ji16) : Int) := of_decide_eq_true (by first | (with_reducible assumption) | assumption)
                          have q128 : (ji16) < (x3_1.length : Int) := of_decide_eq_true (by first | (with_reducible assumption) | assumption)
                          obtain ⟨ad128, e128, hx128_0⟩ := Kd.at_int (Kd.R_reads' HO_3.out).2.2 (ji16) p128 q128
                          obtain rfl : ad127 = ad128 := (by injection e128)
                          replace p128 := eq_true p128
                          replace q128 := eq_true q128
                          go_wp2
                          repeat (go_quiet (fail); try go_wp2)
                          go_ret
                          exact ⟨by first | rfl | (simp [errW_none, errW_some] <;> rfl) | (simp only [← hji16, ← hji19]; first | rfl | (simp [errW_none, errW_some] <;> rfl)) | (simp [*, errW_none, errW_some] <;> rfl), by repeat (first | (with_reducible first | exact HB.out | apply below_alloc | apply pw_below_drewN | apply below_drew1) | exact HB.out)⟩
                        · rw [if_neg c22] at H
                          exact absurd H (by simp)
                      · rw [if_neg c21] at H
                        exact absurd H (by simp)
                    · rw [if_neg c20] at H
                      exact absurd H (by simp)
                  · rw [if_neg c18] at H
                    exact absurd H (by simp)
                · rw [if_neg c17] at H
                  exact absurd H (by simp)
              · rw [if_neg c15] at H
                exact absurd H (by simp)
            · rw [if_neg c14] at H
              exact absurd H (by simp)
          · rw [if_neg c13] at H
            exact absurd H (by simp)

-- NOT PRINTED: function 5 (laws_FnLines)

end Go.Proofs.Ytcjppgeblibkcaa.PFnLines
