-- PRINTED BY print.sh 35421559b90ae4d0a3588c463048766b98c2df88dd9212a6774a882060cdf62d: not written by this session
import Derived.Test.YtcjppgeblibkcaaPFnFirstx0
import Derived.Test.YtcjppgeblibkcaaPFnFirstx1
namespace Go.Proofs.Ytcjppgeblibkcaa.PFnFirst
open Go.RowKit Go.Proofs.YtcjppgeblibkcaaW.PrintWords Go.Proofs.YtcjppgeblibkcaaW.PrintLast Go.Proofs.YtcjppgeblibkcaaW.PrintMore
attribute [local go_sem] max2_int min2_int max_two min_two max_three min_three max_four min_four   -- for this text's walks alone
set_option linter.unusedVariables false
set_option linter.unusedSimpArgs false

/-! ### spec_First: function 9 -/
mutual
def spec_First.l0 : Nat → Int → ByteArray → List ByteArray → Int → Int → Option (ByteArray)
  | 0, _, _, _, _, _ => none
  | k + 1, x1, x5, x9, x10, x11 => if x11 < x10 then (if 0 ≤ x11 then (if x11 < (x9.length : Int) then (if x11 = (wrap64 (x1 - 1)) then (if 0 ≤ (wrap64 (((rdOf ByteArray.empty x9 x11).size : Int) - 1)) then (if (wrap64 (((rdOf ByteArray.empty x9 x11).size : Int) - 1)) < ((rdOf ByteArray.empty x9 x11).size : Int) then (spec_First.j1 k x1 x5 x11 (rdOf ByteArray.empty x9 x11) x9 x10 x11 ((bt (rdOf ByteArray.empty x9 x11) (wrap64 (((rdOf ByteArray.empty x9 x11).size : Int) - 1))) == 10)) else (none)) else (none)) else (spec_First.j1 k x1 x5 x11 (rdOf ByteArray.empty x9 x11) x9 x10 x11 false)) else (none)) else (none)) else (some x5)
def spec_First.j1 : Nat → Int → ByteArray → Int → ByteArray → List ByteArray → Int → Int → Bool → Option (ByteArray)
  | 0, _, _, _, _, _, _, _, _ => none
  | k + 1, x1, x5, x6, x7, x9, x10, x11, x27 => if x27 = true then (if 0 ≤ (wrap64 ((x7.size : Int) - 1)) then (if (wrap64 ((x7.size : Int) - 1)) ≤ (x7.size : Int) then (if x6 < x1 then (if x5.size + (x7.extract 0 ((wrap64 ((x7.size : Int) - 1)) : Int).toNat).size ≤ 9223372036854775807 then (spec_First.l0 k x1 (x5 ++ (x7.extract 0 ((wrap64 ((x7.size : Int) - 1)) : Int).toNat)) x9 x10 (wrap64 (x11 + 1))) else (none)) else (spec_First.l0 k x1 x5 x9 x10 (wrap64 (x11 + 1)))) else (none)) else (none)) else (if x6 < x1 then (if x5.size + x7.size ≤ 9223372036854775807 then (spec_First.l0 k x1 (x5 ++ x7) x9 x10 (wrap64 (x11 + 1))) else (none)) else (spec_First.l0 k x1 x5 x9 x10 (wrap64 (x11 + 1))))
end
def spec_First.f (k : Nat) (a0 : ByteArray) (a1 : Int) : Option (ByteArray) := (spec_lines.f k a0).bind fun t122 => (spec_First.l0 k a1 (⟨#[]⟩ : ByteArray) t122 (t122.length : Int) 0)
theorem spec_First.mono_l : ∀ k, (∀ y0 y1 y2 y3 y4, LeO (spec_First.l0 k y0 y1 y2 y3 y4) (spec_First.l0 (k + 1) y0 y1 y2 y3 y4)) ∧ (∀ y0 y1 y2 y3 y4 y5 y6 y7, LeO (spec_First.j1 k y0 y1 y2 y3 y4 y5 y6 y7) (spec_First.j1 (k + 1) y0 y1 y2 y3 y4 y5 y6 y7))
  | 0 => ⟨fun _ _ _ _ _ r h => by simp [spec_First.l0] at h, fun _ _ _ _ _ _ _ _ r h => by simp [spec_First.j1] at h⟩
  | k + 1 => by
    obtain ⟨ih0, ih1⟩ := spec_First.mono_l k
    refine ⟨?_, ?_⟩
    · intro y0 y1 y2 y3 y4
      unfold spec_First.l0
      repeat' first
      | (with_reducible exact ih0 _ _ _ _ _)
      | (with_reducible exact ih1 _ _ _ _ _ _ _ _)
      | (with_reducible exact spec_lines.mono _ _)
      | (with_reducible exact LeO.refl _)
      | (with_reducible exact LeO.none _)
      | (with_reducible refine LeO.ite ?_ ?_)
      | (with_reducible refine LeO.bind ?_ (fun _ => ?_))
      | exact ih0 _ _ _ _ _
      | exact ih1 _ _ _ _ _ _ _ _
      | exact spec_lines.mono _ _
      | exact LeO.none _
      | refine LeO.ite ?_ ?_
      | refine LeO.bind ?_ (fun _ => ?_)
    · intro y0 y1 y2 y3 y4 y5 y6 y7
      unfold spec_First.j1
      repeat' first
      | (with_reducible exact ih0 _ _ _ _ _)
      | (with_reducible exact ih1 _ _ _ _ _ _ _ _)
      | (with_reducible exact spec_lines.mono _ _)
      | (with_reducible exact LeO.refl _)
      | (with_reducible exact LeO.none _)
      | (with_reducible refine LeO.ite ?_ ?_)
      | (with_reducible refine LeO.bind ?_ (fun _ => ?_))
      | exact ih0 _ _ _ _ _
      | exact ih1 _ _ _ _ _ _ _ _
      | exact spec_lines.mono _ _
      | exact LeO.none _
      | refine LeO.ite ?_ ?_
      | refine LeO.bind ?_ (fun _ => ?_)
theorem spec_First.mono : ∀ a0 a1 k, LeO (spec_First.f k a0 a1) (spec_First.f (k + 1) a0 a1) := by
  intro a0 a1 k
  obtain ⟨ih0, ih1⟩ := spec_First.mono_l k
  unfold spec_First.f
  repeat' first
      | (with_reducible exact ih0 _ _ _ _ _)
      | (with_reducible exact ih1 _ _ _ _ _ _ _ _)
      | (with_reducible exact spec_lines.mono _ _)
      | (with_reducible exact LeO.refl _)
      | (with_reducible exact LeO.none _)
      | (with_reducible refine LeO.ite ?_ ?_)
      | (with_reducible refine LeO.bind ?_ (fun _ => ?_))
      | exact ih0 _ _ _ _ _
      | exact ih1 _ _ _ _ _ _ _ _
      | exact spec_lines.mono _ _
      | exact LeO.none _
      | refine LeO.ite ?_ ?_
      | refine LeO.bind ?_ (fun _ => ?_)
set_option maxHeartbeats 8000000 in
set_option maxRecDepth 100000 in
theorem spec_First.calls (k : Nat) (a0 : ByteArray) (a1 : Int) (r : ByteArray) (w : World) (h : spec_First.f k a0 a1 = some r) :
    Calls Try.prog 9 #[.string a0, .int .i64 a1] w fun e w' => e = .returned (.string r) ∧ Below w.heap.size w w' := by
  have HB := Aside0.mk (Below.refl w.heap.size w)
  have H : ((spec_lines.f k a0).bind fun t122 => (spec_First.l0 k a1 (⟨#[]⟩ : ByteArray) t122 (t122.length : Int) 0)) = some r := h
  clear h
  replace H := Option.bind_eq_some_iff.mp H
  obtain ⟨t122, A30, H⟩ := H
  replace H : (spec_First.l0 k a1 (⟨#[]⟩ : ByteArray) t122 (t122.length : Int) 0) = some r := H
  have A3 := Aside0.mk A30
  clear A30
  have H' := Aside0.mk H
  clear H
  go_enter Try.func9, Try.ntmps9
  go_wp2_with (first | ((with_reducible refine gate_callee (f := 15) rfl ?_); refine goesL_ (some 9) rfl rfl Try.func15 (by kernel_rfl) rfl #[.string a0] rfl (by (try simp only [List.map_toArray, List.map_cons, List.map_nil]); first | done | rfl | (simp only [List.length_drop, List.length_take]; rfl)) ?_; (with_reducible refine (spec_lines.calls k a0 t122 _ A3.out).mono ?_); rintro e w4 ⟨v123, rfl, ho0, hb⟩; refine ⟨_, rfl, ?_⟩; have n0_ := Aside0.mk (Kd.R_lower ho0 (below_size (by repeat (first | (with_reducible first | exact HB.out | apply below_alloc | apply pw_below_drewN | apply below_drew1) | exact HB.out)))); have n1_ := Aside0.mk (below_step (by repeat (first | (with_reducible first | exact HB.out | apply below_alloc | apply pw_below_drewN | apply below_drew1) | exact HB.out)) hb); clear HB; have HO124 := n0_; have HB := n1_; clear n0_ n1_; (try clear hb); (try clear hb2); (try clear hk); (try clear hi); (try clear ho0); obtain ⟨Ao5, co5, eo5⟩ := Kd.R_slice HO124.out; subst eo5))
  go_loopg [5, 11] k (fun kq v5 v11 w' => ∃ (x5_1 : ByteArray) (x11_1 : Int), v5 = .string x5_1 ∧ v11 = .int .i64 x11_1 ∧ Aside0 (spec_First.l0 kq a1 x5_1 t122 (t122.length : Int) x11_1 = some r) ∧ Aside0 (kq ≤ k) ∧ Aside0 (Kd.R Kd.string 9 w' w.heap.size (fun _ => True) (.slice Ao5 t122.length co5) t122) ∧ Aside0 (Below w.heap.size w w'))
  case atStart => exact ⟨((⟨#[]⟩ : ByteArray)), (0), (by first | rfl | (simp; done) | (simp [*]; done)), (by first | rfl | (simp; done) | (simp [*]; done)), H', ⟨Nat.le_refl _⟩, ⟨by (with_reducible repeat (first | apply Kd.R_alloc | apply Kd.R_drewN | apply Kd.R_drew)); exact HO124.out⟩, ⟨by repeat (first | (with_reducible first | exact HB.out | apply below_alloc | apply pw_below_drewN | apply below_drew1) | exact HB.out)⟩⟩
  case round =>
    clear H'
    try clear c1
    try clear p2
    obtain ⟨x5_1, x11_1, rfl, rfl, HA, HK1, HO_9, HB⟩ := hrel
    cases gk with
    | zero => exact absurd HA.out (by simp [spec_First.l0])
    | succ k1 =>
      have H := HA.out
      clear HA
      simp only [spec_First.l0] at H
      by_cases c6 : x11_1 < (t122.length : Int)
      · rw [if_pos c6] at H
        have c6b0 : decide (x11_1 < (t122.length : Int)) = true := decide_eq_true c6
        clear c6
        by_cases c7 : 0 ≤ x11_1
        · rw [if_pos c7] at H
          have c7b0 : decide (0 ≤ x11_1) = true := decide_eq_true c7
          clear c7
          by_cases c8 : x11_1 < (t122.length : Int)
          · rw [if_pos c8] at H
            have c8b0 : decide (x11_1 < (t122.length : Int)) = true := decide_eq_true c8
            clear c8
            have HC9 := Aside0.mk H
            clear H
            have p125 : 0 ≤ (x11_1 : Int) := of_decide_eq_true (by first | (with_reducible assumption) | assumption)
            have q125 : x11_1 < (t122.length : Int) := of_decide_eq_true (by first | (with_reducible assumption) | assumption)
            obtain ⟨ad125, e125, hx125_0⟩ := Kd.at_string (Kd.R_reads' HO_9.out).2.2 x11_1 p125 q125
            cases e125
            replace p125 := eq_true p125
            replace q125 := eq_true q125
            go_upto_region 5 with (fail)
            go_cut [27] (fun v27 wc => ∃ (kq : Nat) (x27_8 : Bool), v27 = .bool x27_8 ∧ Aside0 (spec_First.j1 kq a1 x5_1 x11_1 (rdOf ByteArray.empty t122 x11_1) t122 (t122.length : Int) x11_1 x27_8 = some r) ∧ Aside0 (kq ≤ k1) ∧ Aside0 (Kd.R Kd.string 9 wc w.heap.size (fun _ => True) (.slice (some ad125) t122.length co5) t122) ∧ Aside0 (Below w.heap.size w wc))
            case first =>
              have H := HC9.out
              clear HC9
              by_cases c10 : x11_1 = (wrap64 (a1 - 1))
              · rw [if_pos c10] at H
                have c10b0 : (x11_1 == (wrap64 (a1 - 1))) = true := beq_iff_eq.mpr c10
                have c10b1 : (x11_1 != (wrap64 (a1 - 1))) = false := bne_eq_false_iff_eq.mpr c10
                clear c10
                (first | rw [c10b0] | (simp only [i64_w, i32_w]; rw [c10b0]) | skip)
                obtain ⟨ji11, hji11⟩ : ∃ j_ : Int, (wrap64 (((rdOf ByteArray.empty t122 x11_1).size : Int) - 1)) = j_ := ⟨_, rfl⟩
                replace H : (if 0 ≤ (ji11) then (if (ji11) < ((rdOf ByteArray.empty t122 x11_1).size : Int) then (spec_First.j1 k1 a1 x5_1 x11_1 (rdOf ByteArray.empty t122 x11_1) t122 (t122.length : Int) x11_1 ((bt (rdOf ByteArray.empty t122 x11_1) (ji11)) == 10)) else (none)) else (none)) = some r := by first | (rw [hji11] at H; exact H) | (simp only [hji11] at H ⊢; exact H)
                have hji11w : (IntKind.i64.wrap (((rdOf ByteArray.empty t122 x11_1).size : Int) - 1)) = ji11 := (i64_w _).trans hji11
                by_cases c12 : 0 ≤ (ji11)
                · rw [if_pos c12] at H
                  have c12b0 : decide (0 ≤ (ji11)) = true := decide_eq_true c12
                  clear c12
                  by_cases c13 : (ji11) < ((rdOf ByteArray.empty t122 x11_1).size : Int)
                  · rw [if_pos c13] at H
                    have c13b0 : decide ((ji11) < ((rdOf ByteArray.empty t122 x11_1).size : Int)) = true := decide_eq_true c13
                    clear c13
                    have H' := Aside0.mk H
                    clear H
                    have p14 : 0 ≤ ((ji11) : Int) := of_decide_eq_true (by first | (with_reducible assumption) | assumption)
                    have q14 : (ji11) < ((rdOf ByteArray.empty t122 x11_1).size : Int) := of_decide_eq_true (by first | (with_reducible assumption) | assumption)
                    have hx14 := bt_at (rdOf ByteArray.empty t122 x11_1) (ji11)
                    replace p14 := eq_true p14
                    replace q14 := eq_true q14
                    go_wp2
                    go_meet
                    case rel => exact ⟨_, (((bt (rdOf ByteArray.empty t122 x11_1) (ji11)) == 10)), (by first | rfl | (simp; done) | (simp only [← hji11] <;> (first | rfl | simp)) | (simp [*]; done)), H', ⟨by have := HK1.out; first | omega | exact Nat.le_refl _⟩, ⟨by (with_reducible repeat (first | apply Kd.R_alloc | apply Kd.R_drewN | apply Kd.R_drew)); exact HO_9.out⟩, ⟨by repeat (first | (with_reducible first | exact HB.out | apply below_alloc | apply pw_below_drewN | apply below_drew1) | exact HB.out)⟩⟩
                  · rw [if_neg c13] at H
                    exact absurd H (by simp)
                · rw [if_neg c12] at H
                  exact absurd H (by simp)
              · rw [if_neg c10] at H
                have c10b0 : (x11_1 == (wrap64 (a1 - 1))) = false := beq_eq_false_iff_ne.mpr c10
                have c10b1 : (x11_1 != (wrap64 (a1 - 1))) = true := bne_iff_ne.mpr c10
                (first | rw [c10b0] | (simp only [i64_w, i32_w]; rw [c10b0]) | skip)
                have H' := Aside0.mk H
                clear H
                go_wp2
                go_meet
                case rel => exact ⟨_, (false), (by first | rfl | (simp; done) | (simp [*]; done)), H', ⟨by have := HK1.out; first | omega | exact Nat.le_refl _⟩, ⟨by (with_reducible repeat (first | apply Kd.R_alloc | apply Kd.R_drewN | apply Kd.R_drew)); exact HO_9.out⟩, ⟨by repeat (first | (with_reducible first | exact HB.out | apply below_alloc | apply pw_below_drewN | apply below_drew1) | exact HB.out)⟩⟩
            case rest =>
              clear HC9
              try clear c1
              try clear p1
              try clear q1
              try clear hx1
              try clear p2
              try clear c6
              try clear c6b0
              try clear p6
              try clear c7
              try clear c7b0
              try clear c8
              try clear c8b0
              try clear c9
              try clear c10
              try clear c10b0
              try clear c10b1
              try clear c12
              try clear c12b0
              try clear p12
              try clear q12
              try clear hx12
              try clear c13
              try clear c13b0
              try clear p14
              try clear q14
              try clear hx14
              try clear hx125_0
              try clear p125
              try clear p14
              try clear p2
              try clear q125
              try clear q14
              obtain ⟨kq, x27_8, rfl, HA, HJ8, HO_9, HB⟩ := hcut
              cases kq with
              | zero => exact absurd HA.out (by simp [spec_First.j1])
              | succ kj8 =>
                have H := HA.out
                clear HA
                simp only [spec_First.j1] at H
                by_cases c15 : x27_8 = true
                · subst c15
                  have H1 : (if 0 ≤ (wrap64 (((rdOf ByteArray.empty t122 x11_1).size : Int) - 1)) then (if (wrap64 (((rdOf ByteArray.empty t122 x11_1).size : Int) - 1)) ≤ ((rdOf ByteArray.empty t122 x11_1).size : Int) then (if x11_1 < a1 then (if x5_1.size + ((rdOf ByteArray.empty t122 x11_1).extract 0 ((wrap64 (((rdOf ByteArray.empty t122 x11_1).size : Int) - 1)) : Int).toNat).size ≤ 9223372036854775807 then (spec_First.l0 kj8 a1 (x5_1 ++ ((rdOf ByteArray.empty t122 x11_1).extract 0 ((wrap64 (((rdOf ByteArray.empty t122 x11_1).size : Int) - 1)) : Int).toNat)) t122 (t122.length : Int) (wrap64 (x11_1 + 1))) else (none)) else (spec_First.l0 kj8 a1 x5_1 t122 (t122.length : Int) (wrap64 (x11_1 + 1)))) else (none)) else (none)) = some r := by rw [if_pos rfl] at H; exact H
                  clear H
                  have H := H1
                  clear H1
                  obtain ⟨ji16, hji16⟩ : ∃ j_ : Int, (wrap64 (((rdOf ByteArray.empty t122 x11_1).size : Int) - 1)) = j_ := ⟨_, rfl⟩
                  replace H : (if 0 ≤ (ji16) then (if (ji16) ≤ ((rdOf ByteArray.empty t122 x11_1).size : Int) then (if x11_1 < a1 then (if x5_1.size + ((rdOf ByteArray.empty t122 x11_1).extract 0 ((ji16) : Int).toNat).size ≤ 9223372036854775807 then (spec_First.l0 kj8 a1 (x5_1 ++ ((rdOf ByteArray.empty t122 x11_1).extract 0 ((ji16) : Int).toNat)) t122 (t122.length : Int) (wrap64 (x11_1 + 1))) else (none)) else (spec_First.l0 kj8 a1 x5_1 t122 (t122.length : Int) (wrap64 (x11_1 + 1)))) else (none)) else (none)) = some r := by first | (rw [hji16] at H; exact H) | (simp only [hji16] at H ⊢; exact H)
                  have hji16w : (IntKind.i64.wrap (((rdOf ByteArray.empty t122 x11_1).size : Int) - 1)) = ji16 := (i64_w _).trans hji16
                  by_cases c17 : 0 ≤ (ji16)
                  · rw [if_pos c17] at H
                    have c17b0 := eq_true c17
                    have c17b1 : decide (0 ≤ (ji16)) = true := decide_eq_true c17
                    clear c17
                    by_cases c18 : (ji16) ≤ ((rdOf ByteArray.empty t122 x11_1).size : Int)
                    · rw [if_pos c18] at H
                      have c18b0 := eq_true c18
                      have c18b1 : decide ((ji16) ≤ ((rdOf ByteArray.empty t122 x11_1).size : Int)) = true := decide_eq_true c18
                      clear c18
                      by_cases c19 : x11_1 < a1
                      · rw [if_pos c19] at H
                        have c19b0 : decide (x11_1 < a1) = true := decide_eq_true c19
                        clear c19
                        by_cases c20 : x5_1.size + ((rdOf ByteArray.empty t122 x11_1).extract 0 ((ji16) : Int).toNat).size ≤ 9223372036854775807
                        · rw [if_pos c20] at H
                          have c20b0 := eq_true c20
                          have c20b1 : decide (x5_1.size + ((rdOf ByteArray.empty t122 x11_1).extract 0 ((ji16) : Int).toNat).size ≤ 9223372036854775807) = true := decide_eq_true c20
                          try have c20b2 : (9223372036854775807 < x5_1.size + ((rdOf ByteArray.empty t122 x11_1).extract 0 ((ji16) : Int).toNat).size) = False := eq_false (Nat.not_lt.2 c20)
                          have H' := Aside0.mk H
                          clear H
                          go_wp2
                          go_roundg kj8
                          case measure => have := HK1.out; have := HJ8.out; omega
                          case rel => exact ⟨(x5_1 ++ ((rdOf ByteArray.empty t122 x11_1).extract 0 ((ji16) : Int).toNat)), (wrap64 (x11_1 + 1)), (by first | rfl | (simp; done) | (simp only [← hji16] <;> (first | rfl | simp)) | (simp [*]; done)), (by first | rfl | (simp; done) | (simp [*]; done)), H', ⟨by have := HK1.out; have := HJ8.out; omega⟩, ⟨by (with_reducible repeat (first | apply Kd.R_alloc | apply Kd.R_drewN | apply Kd.R_drew)); exact HO_9.out⟩, ⟨by repeat (first | (with_reducible first | exact HB.out | apply below_alloc | apply pw_below_drewN | apply below_drew1) | exact HB.out)⟩⟩
                        · rw [if_neg c20] at H
                          exact absurd H (by simp)
                      · rw [if_neg c19] at H
                        have c19b0 : decide (x11_1 < a1) = false := decide_eq_false c19
                        clear c19
                        have H' := Aside0.mk H
                        clear H
                        go_wp2
                        go_roundg kj8
                        case measure => have := HK1.out; have := HJ8.out; omega
                        case rel => exact ⟨(x5_1), (wrap64 (x11_1 + 1)), (by first | rfl | (simp; done) | (simp [*]; done)), (by first | rfl | (simp; done) | (simp [*]; done)), H', ⟨by have := HK1.out; have := HJ8.out; omega⟩, ⟨by (with_reducible repeat (first | apply Kd.R_alloc | apply Kd.R_drewN | apply Kd.R_drew)); exact HO_9.out⟩, ⟨by repeat (first | (with_reducible first | exact HB.out | apply below_alloc | apply pw_below_drewN | apply below_drew1) | exact HB.out)⟩⟩
                    · rw [if_neg c18] at H
                      exact absurd H (by simp)
                  · rw [if_neg c17] at H
                    exact absurd H (by simp)
                · replace c15 := Bool.eq_false_iff.mpr c15
                  subst c15
                  have H1 : (if x11_1 < a1 then (if x5_1.size + (rdOf ByteArray.empty t122 x11_1).size ≤ 9223372036854775807 then (spec_First.l0 kj8 a1 (x5_1 ++ (rdOf ByteArray.empty t122 x11_1)) t122 (t122.length : Int) (wrap64 (x11_1 + 1))) else (none)) else (spec_First.l0 kj8 a1 x5_1 t122 (t122.length : Int) (wrap64 (x11_1 + 1)))) = some r := by rw [if_neg (show ¬ (false = true) by decide)] at H; exact H
                  clear H
                  have H := H1
                  clear H1
                  by_cases c21 : x11_1 < a1
                  · rw [if_pos c21] at H
                    have c21b0 : decide (x11_1 < a1) = true := decide_eq_true c21
                    clear c21
                    by_cases c22 : x5_1.size + (rdOf ByteArray.empty t122 x11_1).size ≤ 9223372036854775807
                    · rw [if_pos c22] at H
                      have c22b0 := eq_true c22
                      have c22b1 : decide (x5_1.size + (rdOf ByteArray.empty t122 x11_1).size ≤ 9223372036854775807) = true := decide_eq_true c22
                      try have c22b2 : (9223372036854775807 < x5_1.size + (rdOf ByteArray.empty t122 x11_1).size) = False := eq_false (Nat.not_lt.2 c22)
                      have H' := Aside0.mk H
                      clear H
                      go_wp2
                      go_roundg kj8
                      case measure => have := HK1.out; have := HJ8.out; omega
                      case rel => exact ⟨(x5_1 ++ (rdOf ByteArray.empty t122 x11_1)), (wrap64 (x11_1 + 1)), (by first | rfl | (simp; done) | (simp [*]; done)), (by first | rfl | (simp; done) | (simp [*]; done)), H', ⟨by have := HK1.out; have := HJ8.out; omega⟩, ⟨by (with_reducible repeat (first | apply Kd.R_alloc | apply Kd.R_drewN | apply Kd.R_drew)); exact HO_9.out⟩, ⟨by repeat (first | (with_reducible first | exact HB.out | apply below_alloc | apply pw_below_drewN | apply below_drew1) | exact HB.out)⟩⟩
                    · rw [if_neg c22] at H
                      exact absurd H (by simp)
                  · rw [if_neg c21] at H
                    have c21b0 : decide (x11_1 < a1) = false := decide_eq_false c21
                    clear c21
                    have H' := Aside0.mk H
                    clear H
                    go_wp2
                    go_roundg kj8
                    case measure => have := HK1.out; have := HJ8.out; omega
                    case rel => exact ⟨(x5_1), (wrap64 (x11_1 + 1)), (by first | rfl | (simp; done) | (simp [*]; done)), (by first | rfl | (simp; done) | (simp [*]; done)), H', ⟨by have := HK1.out; have := HJ8.out; omega⟩, ⟨by (with_reducible repeat (first | apply Kd.R_alloc | apply Kd.R_drewN | apply Kd.R_drew)); exact HO_9.out⟩, ⟨by repeat (first | (with_reducible first | exact HB.out | apply below_alloc | apply pw_below_drewN | apply below_drew1) | exact HB.out)⟩⟩
          · rw [if_neg c8] at H
            exact absurd H (by simp)
        · rw [if_neg c7] at H
          exact absurd H (by simp)
      · rw [if_neg c6] at H
        have c6b0 : decide (x11_1 < (t122.length : Int)) = false := decide_eq_false c6
        clear c6
        obtain rfl := Option.some.inj H
        go_wp2
        go_ret
        exact ⟨by first | rfl | (simp [errW_none, errW_some] <;> rfl) | (simp [*, errW_none, errW_some] <;> rfl), by repeat (first | (with_reducible first | exact HB.out | apply below_alloc | apply pw_below_drewN | apply below_drew1) | exact HB.out)⟩

-- NOT PRINTED: function 4 (laws_FnFirst)

end Go.Proofs.Ytcjppgeblibkcaa.PFnFirst
