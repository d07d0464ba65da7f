-- PRINTED BY print.sh 35421559b90ae4d0a3588c463048766b98c2df88dd9212a6774a882060cdf62d: not written by this session
import Derived.Test.YtcjppgeblibkcaaPFnBinaryx0
namespace Go.Proofs.Ytcjppgeblibkcaa.PFnBinary
open Go.RowKit Go.Proofs.YtcjppgeblibkcaaW.PrintWords Go.Proofs.YtcjppgeblibkcaaW.PrintLast Go.Proofs.YtcjppgeblibkcaaW.PrintMore
attribute [local go_sem] max2_int min2_int max_two min_two max_three min_three max_four min_four   -- for this text's walks alone
set_option linter.unusedVariables false
set_option linter.unusedSimpArgs false

/-! ### enrycommon_indexByte: function 17 -/
def enrycommon_indexByte.l0 : Nat → Int → List Int → Int → Int → Option (Int)
  | 0, _, _, _, _ => none
  | k + 1, x1, x7, x8, x9 => if x9 < x8 then (if 0 ≤ x9 then (if x9 < (x7.length : Int) then (if (rd x7 x9) = x1 then (some x9) else (enrycommon_indexByte.l0 k x1 x7 x8 (wrap64 (x9 + 1)))) else (none)) else (none)) else (some (-1))
def enrycommon_indexByte.f (k : Nat) (l0 : List Int) (a1 : Int) : Option (Int) := enrycommon_indexByte.l0 k a1 l0 (l0.length : Int) 0
theorem enrycommon_indexByte.mono_l : ∀ k, (∀ y0 y1 y2 y3, LeO (enrycommon_indexByte.l0 k y0 y1 y2 y3) (enrycommon_indexByte.l0 (k + 1) y0 y1 y2 y3))
  | 0 => fun _ _ _ _ r h => by simp [enrycommon_indexByte.l0] at h
  | k + 1 => by
    have ih0 := enrycommon_indexByte.mono_l k
    · intro y0 y1 y2 y3
      unfold enrycommon_indexByte.l0
      repeat' first
      | (with_reducible exact ih0 _ _ _ _)
      | (with_reducible exact LeO.refl _)
      | (with_reducible exact LeO.none _)
      | (with_reducible refine LeO.ite ?_ ?_)
      | (with_reducible refine LeO.bind ?_ (fun _ => ?_))
      | exact ih0 _ _ _ _
      | exact LeO.none _
      | refine LeO.ite ?_ ?_
      | refine LeO.bind ?_ (fun _ => ?_)
theorem enrycommon_indexByte.mono : ∀ a0 a1 k, LeO (enrycommon_indexByte.f k a0 a1) (enrycommon_indexByte.f (k + 1) a0 a1) := by
  intro a0 a1 k
  have ih0 := enrycommon_indexByte.mono_l k
  unfold enrycommon_indexByte.f
  repeat' first
      | (with_reducible exact ih0 _ _ _ _)
      | (with_reducible exact LeO.refl _)
      | (with_reducible exact LeO.none _)
      | (with_reducible refine LeO.ite ?_ ?_)
      | (with_reducible refine LeO.bind ?_ (fun _ => ?_))
      | exact ih0 _ _ _ _
      | exact LeO.none _
      | refine LeO.ite ?_ ?_
      | refine LeO.bind ?_ (fun _ => ?_)
set_option maxHeartbeats 8000000 in
set_option maxRecDepth 100000 in
theorem enrycommon_indexByte.calls (k : Nat) (A0 : Option Addr) (c0 : Nat) (l0 : List Int) (a1 : Int) (r : Int) (w : World) (hr0 : Kd.C (Kd.int .u8) w A0 l0.length l0) (hc0 : l0.length ≤ c0) (h : enrycommon_indexByte.f k l0 a1 = some r) :
    Calls Try.prog 17 #[.slice A0 l0.length c0, .int .u8 a1] w fun e w' => e = .returned (.int .i64 r) ∧ Drawn0 w w' := by
  have HR0 := Aside0.mk hr0
  have HC0 := Aside0.mk hc0
  clear hr0 hc0
  have H : (enrycommon_indexByte.l0 k a1 l0 (l0.length : Int) 0) = some r := h
  clear h
  have H' := Aside0.mk H
  clear H
  go_enter Try.func17, Try.ntmps17
  go_wp2
  go_loopg [9] k (fun kq v9 w' => ∃ (x9_1 : Int), v9 = .int .i64 x9_1 ∧ Aside0 (enrycommon_indexByte.l0 kq a1 l0 (l0.length : Int) x9_1 = some r) ∧ Aside0 (kq ≤ k) ∧ Drawn0 w w')
  case atStart => exact ⟨(0), (by first | rfl | (simp; done) | (simp [*]; done)), H', ⟨Nat.le_refl _⟩, by repeat (first | exact Drawn0.refl _ | apply Drawn0.step)⟩
  case round =>
    clear H'
    try clear c1
    try clear p2
    obtain ⟨x9_1, rfl, HA, HK1, ⟨m1, rfl⟩⟩ := hrel
    cases gk with
    | zero => exact absurd HA.out (by simp [enrycommon_indexByte.l0])
    | succ k1 =>
      have H := HA.out
      clear HA
      simp only [enrycommon_indexByte.l0] at H
      by_cases c3 : x9_1 < (l0.length : Int)
      · rw [if_pos c3] at H
        have c3b0 : decide (x9_1 < (l0.length : Int)) = true := decide_eq_true c3
        clear c3
        by_cases c4 : 0 ≤ x9_1
        · rw [if_pos c4] at H
          have c4b0 : decide (0 ≤ x9_1) = true := decide_eq_true c4
          clear c4
          by_cases c5 : x9_1 < (l0.length : Int)
          · rw [if_pos c5] at H
            have c5b0 : decide (x9_1 < (l0.length : Int)) = true := decide_eq_true c5
            clear c5
            by_cases c6 : (rd l0 x9_1) = a1
            · rw [if_pos c6] at H
              have c6b0 : ((rd l0 x9_1) == a1) = true := beq_iff_eq.mpr c6
              have c6b1 : ((rd l0 x9_1) != a1) = false := bne_eq_false_iff_eq.mpr c6
              clear c6
              obtain rfl := Option.some.inj H
              have p101 : 0 ≤ (x9_1 : Int) := of_decide_eq_true (by first | (with_reducible assumption) | assumption)
              have q101 : x9_1 < (l0.length : Int) := of_decide_eq_true (by first | (with_reducible assumption) | assumption)
              obtain ⟨ad101, e101, hx101_0⟩ := Kd.at_int HR0.out x9_1 p101 q101
              cases e101
              replace p101 := eq_true p101
              replace q101 := eq_true q101
              go_wp2
              go_ret
              exact ⟨by first | rfl | (simp; done) | (simp [*]; done), by repeat (first | exact Drawn0.refl _ | apply Drawn0.step)⟩
            · rw [if_neg c6] at H
              have c6b0 : ((rd l0 x9_1) == a1) = false := beq_eq_false_iff_ne.mpr c6
              have c6b1 : ((rd l0 x9_1) != a1) = true := bne_iff_ne.mpr c6
              have H' := Aside0.mk H
              clear H
              have p101 : 0 ≤ (x9_1 : Int) := of_decide_eq_true (by first | (with_reducible assumption) | assumption)
              have q101 : x9_1 < (l0.length : Int) := of_decide_eq_true (by first | (with_reducible assumption) | assumption)
              obtain ⟨ad101, e101, hx101_0⟩ := Kd.at_int HR0.out x9_1 p101 q101
              cases e101
              replace p101 := eq_true p101
              replace q101 := eq_true q101
              go_wp2
              go_roundg k1
              case measure => have := HK1.out; omega
              case rel => exact ⟨(wrap64 (x9_1 + 1)), (by first | rfl | (simp; done) | (simp [*]; done)), H', ⟨by have := HK1.out; omega⟩, by repeat (first | exact Drawn0.refl _ | apply Drawn0.step)⟩
          · rw [if_neg c5] at H
            exact absurd H (by simp)
        · rw [if_neg c4] at H
          exact absurd H (by simp)
      · rw [if_neg c3] at H
        have c3b0 : decide (x9_1 < (l0.length : Int)) = false := decide_eq_false c3
        clear c3
        obtain rfl := Option.some.inj H
        go_wp2
        go_ret
        exact ⟨by first | rfl | (simp; done) | (simp [*]; done), by repeat (first | exact Drawn0.refl _ | apply Drawn0.step)⟩

/-! ### enrycommon_IsBinary: function 12 -/
def enrycommon_IsBinary.f (k : Nat) (l0 : List Int) : Option (Bool) := if (l0.length : Int) > 8000 then (if 8000 ≤ (l0.length : Int) then ((enrycommon_indexByte.f k (l0.take 8000) 0).bind fun t103 => (if t103 = (-1) then (some false) else (some true))) else (none)) else ((enrycommon_indexByte.f k l0 0).bind fun t104 => (if t104 = (-1) then (some false) else (some true)))
theorem enrycommon_IsBinary.mono : ∀ a0 k, LeO (enrycommon_IsBinary.f k a0) (enrycommon_IsBinary.f (k + 1) a0) := by
  intro a0 k
  unfold enrycommon_IsBinary.f
  repeat' first
      | (with_reducible exact enrycommon_indexByte.mono _ _ _)
      | (with_reducible exact LeO.refl _)
      | (with_reducible exact LeO.none _)
      | (with_reducible refine LeO.ite ?_ ?_)
      | (with_reducible refine LeO.bind ?_ (fun _ => ?_))
      | exact enrycommon_indexByte.mono _ _ _
      | exact LeO.none _
      | refine LeO.ite ?_ ?_
      | refine LeO.bind ?_ (fun _ => ?_)
set_option maxHeartbeats 8000000 in
set_option maxRecDepth 100000 in
theorem enrycommon_IsBinary.calls (k : Nat) (A0 : Option Addr) (c0 : Nat) (l0 : List Int) (r : Bool) (w : World) (hr0 : Kd.C (Kd.int .u8) w A0 l0.length l0) (hc0 : l0.length ≤ c0) (h : enrycommon_IsBinary.f k l0 = some r) :
    Calls Try.prog 12 #[.slice A0 l0.length c0] w fun e w' => e = .returned (.bool r) ∧ Drawn0 w w' := by
  have HR0 := Aside0.mk hr0
  have HC0 := Aside0.mk hc0
  clear hr0 hc0
  have H : (if (l0.length : Int) > 8000 then (if 8000 ≤ (l0.length : Int) then ((enrycommon_indexByte.f k (l0.take 8000) 0).bind fun t103 => (if t103 = (-1) then (some false) else (some true))) else (none)) else ((enrycommon_indexByte.f k l0 0).bind fun t104 => (if t104 = (-1) then (some false) else (some true)))) = some r := h
  clear h
  by_cases c2 : (l0.length : Int) > 8000
  · rw [if_pos c2] at H
    have c2b0 : decide (8000 < (l0.length : Int)) = true := decide_eq_true c2
    have c2b1 : decide (8000 < l0.length) = true := decide_eq_true (by omega)
    clear c2
    by_cases c3 : 8000 ≤ (l0.length : Int)
    · rw [if_pos c3] at H
      have c3b0 := eq_true c3
      have c3b1 : decide (8000 ≤ (l0.length : Int)) = true := decide_eq_true c3
      clear c3
      replace H := Option.bind_eq_some_iff.mp H
      obtain ⟨t103, A40, H⟩ := H
      replace H : (if t103 = (-1) then (some false) else (some true)) = some r := H
      have A4 := Aside0.mk A40
      clear A40
      by_cases c5 : t103 = (-1)
      · rw [if_pos c5] at H
        have c5b0 : (t103 == (-1)) = true := beq_iff_eq.mpr c5
        have c5b1 : (t103 != (-1)) = false := bne_eq_false_iff_eq.mpr c5
        clear c5
        obtain rfl := Option.some.inj H
        obtain ⟨i06, hi06, _, hsz6, _⟩ := info_parts info5
        obtain ⟨hcut6, hA6, hC6⟩ := print_take_of (P := Try.prog) (Value.int .u8) 0 23 5 .i64 Try.underlying23 hi06 hsz6 A0 c0 l0 8000 (by omega) (of_decide_eq_true (by first | (with_reducible assumption) | assumption)) HC0.out
        have HR102 := Aside0.mk (Kd.C_of_reads (h1 := fun _ => rfl) (hA6 _ (Kd.reads_of_C HR0.out)))
        have HC102 := Aside0.mk hC6
        clear hA6 hC6 hi06 hsz6
        go_enter Try.func12, Try.ntmps12
        go_wp2_with (first | ((with_reducible refine gate_callee (f := 17) rfl ?_); refine goesL_ (some 9) rfl rfl Try.func17 (by kernel_rfl) rfl #[.slice A0 (l0.take 8000).length c0, .int .u8 0] rfl (by (try simp only [List.map_toArray, List.map_cons, List.map_nil]); first | done | (rw [show (l0.take 8000).length = 8000 from (by rw [List.length_take]; have h_ : (8000 : Int) ≤ (l0.length : Int) := of_decide_eq_true (by first | (with_reducible assumption) | assumption); omega)] <;> rfl) | rfl | (simp only [List.length_drop, List.length_take]; rfl)) ?_; (with_reducible refine (enrycommon_indexByte.calls k _ _ (l0.take 8000) 0 t103 _ ?side1 ?side2 A4.out).mono ?_); (case side1 => repeat (first | exact HR102.out | (with_reducible refine Kd.C_alloc ?_ _) | (with_reducible refine Kd.C_drewN ?_ _) | (with_reducible refine Kd.C_drew ?_))); (case side2 => exact HC102.out); rintro e w' ⟨rfl, ⟨nd, rfl⟩⟩; refine ⟨_, rfl, ?_⟩))
        go_ret
        exact ⟨by first | rfl | (simp; done) | (simp [*]; done), by repeat (first | exact Drawn0.refl _ | apply Drawn0.step)⟩
      · rw [if_neg c5] at H
        have c5b0 : (t103 == (-1)) = false := beq_eq_false_iff_ne.mpr c5
        have c5b1 : (t103 != (-1)) = true := bne_iff_ne.mpr c5
        obtain rfl := Option.some.inj H
        obtain ⟨i07, hi07, _, hsz7, _⟩ := info_parts info5
        obtain ⟨hcut7, hA7, hC7⟩ := print_take_of (P := Try.prog) (Value.int .u8) 0 23 5 .i64 Try.underlying23 hi07 hsz7 A0 c0 l0 8000 (by omega) (of_decide_eq_true (by first | (with_reducible assumption) | assumption)) HC0.out
        have HR102 := Aside0.mk (Kd.C_of_reads (h1 := fun _ => rfl) (hA7 _ (Kd.reads_of_C HR0.out)))
        have HC102 := Aside0.mk hC7
        clear hA7 hC7 hi07 hsz7
        go_enter Try.func12, Try.ntmps12
        go_wp2_with (first | ((with_reducible refine gate_callee (f := 17) rfl ?_); refine goesL_ (some 9) rfl rfl Try.func17 (by kernel_rfl) rfl #[.slice A0 (l0.take 8000).length c0, .int .u8 0] rfl (by (try simp only [List.map_toArray, List.map_cons, List.map_nil]); first | done | (rw [show (l0.take 8000).length = 8000 from (by rw [List.length_take]; have h_ : (8000 : Int) ≤ (l0.length : Int) := of_decide_eq_true (by first | (with_reducible assumption) | assumption); omega)] <;> rfl) | rfl | (simp only [List.length_drop, List.length_take]; rfl)) ?_; (with_reducible refine (enrycommon_indexByte.calls k _ _ (l0.take 8000) 0 t103 _ ?side1 ?side2 A4.out).mono ?_); (case side1 => repeat (first | exact HR102.out | (with_reducible refine Kd.C_alloc ?_ _) | (with_reducible refine Kd.C_drewN ?_ _) | (with_reducible refine Kd.C_drew ?_))); (case side2 => exact HC102.out); rintro e w' ⟨rfl, ⟨nd, rfl⟩⟩; refine ⟨_, rfl, ?_⟩))
        go_ret
        exact ⟨by first | rfl | (simp; done) | (simp [*]; done), by repeat (first | exact Drawn0.refl _ | apply Drawn0.step)⟩
    · rw [if_neg c3] at H
      exact absurd H (by simp)
  · rw [if_neg c2] at H
    have c2b0 : decide (8000 < (l0.length : Int)) = false := decide_eq_false c2
    have c2b1 : decide (8000 < l0.length) = false := decide_eq_false (by omega)
    clear c2
    replace H := Option.bind_eq_some_iff.mp H
    obtain ⟨t104, A80, H⟩ := H
    replace H : (if t104 = (-1) then (some false) else (some true)) = some r := H
    have A8 := Aside0.mk A80
    clear A80
    by_cases c9 : t104 = (-1)
    · rw [if_pos c9] at H
      have c9b0 : (t104 == (-1)) = true := beq_iff_eq.mpr c9
      have c9b1 : (t104 != (-1)) = false := bne_eq_false_iff_eq.mpr c9
      clear c9
      obtain rfl := Option.some.inj H
      go_enter Try.func12, Try.ntmps12
      go_wp2_with (first | ((with_reducible refine gate_callee (f := 17) rfl ?_); refine goesL_ (some 9) rfl rfl Try.func17 (by kernel_rfl) rfl #[.slice A0 l0.length c0, .int .u8 0] rfl (by (try simp only [List.map_toArray, List.map_cons, List.map_nil]); first | done | rfl | (simp only [List.length_drop, List.length_take]; rfl)) ?_; (with_reducible refine (enrycommon_indexByte.calls k _ _ l0 0 t104 _ ?side1 ?side2 A8.out).mono ?_); (case side1 => repeat (first | exact HR0.out | (with_reducible refine Kd.C_alloc ?_ _) | (with_reducible refine Kd.C_drewN ?_ _) | (with_reducible refine Kd.C_drew ?_))); (case side2 => exact HC0.out); rintro e w' ⟨rfl, ⟨nd, rfl⟩⟩; refine ⟨_, rfl, ?_⟩))
      go_ret
      exact ⟨by first | rfl | (simp; done) | (simp [*]; done), by repeat (first | exact Drawn0.refl _ | apply Drawn0.step)⟩
    · rw [if_neg c9] at H
      have c9b0 : (t104 == (-1)) = false := beq_eq_false_iff_ne.mpr c9
      have c9b1 : (t104 != (-1)) = true := bne_iff_ne.mpr c9
      obtain rfl := Option.some.inj H
      go_enter Try.func12, Try.ntmps12
      go_wp2_with (first | ((with_reducible refine gate_callee (f := 17) rfl ?_); refine goesL_ (some 9) rfl rfl Try.func17 (by kernel_rfl) rfl #[.slice A0 l0.length c0, .int .u8 0] rfl (by (try simp only [List.map_toArray, List.map_cons, List.map_nil]); first | done | rfl | (simp only [List.length_drop, List.length_take]; rfl)) ?_; (with_reducible refine (enrycommon_indexByte.calls k _ _ l0 0 t104 _ ?side1 ?side2 A8.out).mono ?_); (case side1 => repeat (first | exact HR0.out | (with_reducible refine Kd.C_alloc ?_ _) | (with_reducible refine Kd.C_drewN ?_ _) | (with_reducible refine Kd.C_drew ?_))); (case side2 => exact HC0.out); rintro e w' ⟨rfl, ⟨nd, rfl⟩⟩; refine ⟨_, rfl, ?_⟩))
      go_ret
      exact ⟨by first | rfl | (simp; done) | (simp [*]; done), by repeat (first | exact Drawn0.refl _ | apply Drawn0.step)⟩

/-! ### impl_Binary: function 6 -/
def impl_Binary.f (k : Nat) (l0 : List Int) : Option (Bool) := (enrycommon_IsBinary.f k l0).bind fun t105 => (some t105)
theorem impl_Binary.mono : ∀ a0 k, LeO (impl_Binary.f k a0) (impl_Binary.f (k + 1) a0) := by
  intro a0 k
  unfold impl_Binary.f
  repeat' first
      | (with_reducible exact enrycommon_IsBinary.mono _ _)
      | (with_reducible exact LeO.refl _)
      | (with_reducible exact LeO.none _)
      | (with_reducible refine LeO.ite ?_ ?_)
      | (with_reducible refine LeO.bind ?_ (fun _ => ?_))
      | exact enrycommon_IsBinary.mono _ _
      | exact LeO.none _
      | refine LeO.ite ?_ ?_
      | refine LeO.bind ?_ (fun _ => ?_)
set_option maxHeartbeats 8000000 in
set_option maxRecDepth 100000 in
theorem impl_Binary.calls (k : Nat) (A0 : Option Addr) (c0 : Nat) (l0 : List Int) (r : Bool) (w : World) (hr0 : Kd.C (Kd.int .u8) w A0 l0.length l0) (hc0 : l0.length ≤ c0) (h : impl_Binary.f k l0 = some r) :
    Calls Try.prog 6 #[.slice A0 l0.length c0] w fun e w' => e = .returned (.bool r) ∧ Drawn0 w w' := by
  have HR0 := Aside0.mk hr0
  have HC0 := Aside0.mk hc0
  clear hr0 hc0
  have H : ((enrycommon_IsBinary.f k l0).bind fun t105 => (some t105)) = some r := h
  clear h
  replace H := Option.bind_eq_some_iff.mp H
  obtain ⟨t105, A20, H⟩ := H
  replace H : (some t105) = some r := H
  have A2 := Aside0.mk A20
  clear A20
  obtain rfl := Option.some.inj H
  go_enter Try.func6, Try.ntmps6
  go_wp2_with (first | ((with_reducible refine gate_callee (f := 12) rfl ?_); refine goesL_ (some 4) rfl rfl Try.func12 (by kernel_rfl) rfl #[.slice A0 l0.length c0] rfl (by (try simp only [List.map_toArray, List.map_cons, List.map_nil]); first | done | rfl | (simp only [List.length_drop, List.length_take]; rfl)) ?_; (with_reducible refine (enrycommon_IsBinary.calls k _ _ l0 t105 _ ?side1 ?side2 A2.out).mono ?_); (case side1 => repeat (first | exact HR0.out | (with_reducible refine Kd.C_alloc ?_ _) | (with_reducible refine Kd.C_drewN ?_ _) | (with_reducible refine Kd.C_drew ?_))); (case side2 => exact HC0.out); rintro e w' ⟨rfl, ⟨nd, rfl⟩⟩; refine ⟨_, rfl, ?_⟩))
  go_ret
  exact ⟨by first | rfl | (simp; done) | (simp [*]; done), by repeat (first | exact Drawn0.refl _ | apply Drawn0.step)⟩

/-! ### laws_FnBinary: function 3 -/
mutual
def laws_FnBinary.l0 : Nat → Int → Bool → Int → List Int → Int → Int → Option (Bool)
  | 0, _, _, _, _, _, _ => none
  | k + 1, x1, x2, x7, x8, x16, x17 => if x17 < x16 then (if x8.length < 140737488355328 then (laws_FnBinary.l0 k x1 x2 x7 (x8 ++ [(wrap64 (1 + (Int.tmod x17 255))) % 256]) x16 (wrap64 (x17 + 1))) else (none)) else (if x2 = true then (laws_FnBinary.j1 k x1 x7 x8 false (decide (x7 > 0))) else (laws_FnBinary.j1 k x1 x7 x8 false false))
def laws_FnBinary.j1 : Nat → Int → Int → List Int → Bool → Bool → Option (Bool)
  | 0, _, _, _, _, _ => none
  | k + 1, x1, x7, x8, x10, x32 => if x32 = true then (if x7 = 0 then (none) else (if 0 ≤ (Int.tmod (wrap64 (x1)) x7) then (if (Int.tmod (wrap64 (x1)) x7) < (x8.length : Int) then ((impl_Binary.f k (x8.set ((Int.tmod (wrap64 (x1)) x7) : Int).toNat 0)).bind fun t113 => (if (t113 == (decide ((Int.tmod (wrap64 (x1)) x7) < 8000))) = true then ((impl_Binary.f k (([0] : List Int))).bind fun t117 => (some t117)) else (some false))) else (none)) else (none))) else ((impl_Binary.f k x8).bind fun t118 => (if (t118 == x10) = true then ((impl_Binary.f k (([0] : List Int))).bind fun t122 => (some t122)) else (some false)))
end
def laws_FnBinary.f (k : Nat) (a0 : Int) (a1 : Int) (a2 : Bool) : Option (Bool) := laws_FnBinary.l0 k a1 a2 (Int.tmod (wrap64 (a0)) 9001) (([] : List Int)) (Int.tmod (wrap64 (a0)) 9001) 0
theorem laws_FnBinary.mono_l : ∀ k, (∀ y0 y1 y2 y3 y4 y5, LeO (laws_FnBinary.l0 k y0 y1 y2 y3 y4 y5) (laws_FnBinary.l0 (k + 1) y0 y1 y2 y3 y4 y5)) ∧ (∀ y0 y1 y2 y3 y4, LeO (laws_FnBinary.j1 k y0 y1 y2 y3 y4) (laws_FnBinary.j1 (k + 1) y0 y1 y2 y3 y4))
  | 0 => ⟨fun _ _ _ _ _ _ r h => by simp [laws_FnBinary.l0] at h, fun _ _ _ _ _ r h => by simp [laws_FnBinary.j1] at h⟩
  | k + 1 => by
    obtain ⟨ih0, ih1⟩ := laws_FnBinary.mono_l k
    refine ⟨?_, ?_⟩
    · intro y0 y1 y2 y3 y4 y5
      unfold laws_FnBinary.l0
      repeat' first
      | (with_reducible exact ih0 _ _ _ _ _ _)
      | (with_reducible exact ih1 _ _ _ _ _)
      | (with_reducible exact impl_Binary.mono _ _)
      | (with_reducible exact LeO.refl _)
      | (with_reducible exact LeO.none _)
      | (with_reducible refine LeO.ite ?_ ?_)
      | (with_reducible refine LeO.bind ?_ (fun _ => ?_))
      | exact ih0 _ _ _ _ _ _
      | exact ih1 _ _ _ _ _
      | exact impl_Binary.mono _ _
      | exact LeO.none _
      | refine LeO.ite ?_ ?_
      | refine LeO.bind ?_ (fun _ => ?_)
    · intro y0 y1 y2 y3 y4
      unfold laws_FnBinary.j1
      repeat' first
      | (with_reducible exact ih0 _ _ _ _ _ _)
      | (with_reducible exact ih1 _ _ _ _ _)
      | (with_reducible exact impl_Binary.mono _ _)
      | (with_reducible exact LeO.refl _)
      | (with_reducible exact LeO.none _)
      | (with_reducible refine LeO.ite ?_ ?_)
      | (with_reducible refine LeO.bind ?_ (fun _ => ?_))
      | exact ih0 _ _ _ _ _ _
      | exact ih1 _ _ _ _ _
      | exact impl_Binary.mono _ _
      | exact LeO.none _
      | refine LeO.ite ?_ ?_
      | refine LeO.bind ?_ (fun _ => ?_)
theorem laws_FnBinary.mono : ∀ a0 a1 a2 k, LeO (laws_FnBinary.f k a0 a1 a2) (laws_FnBinary.f (k + 1) a0 a1 a2) := by
  intro a0 a1 a2 k
  obtain ⟨ih0, ih1⟩ := laws_FnBinary.mono_l k
  unfold laws_FnBinary.f
  repeat' first
      | (with_reducible exact ih0 _ _ _ _ _ _)
      | (with_reducible exact ih1 _ _ _ _ _)
      | (with_reducible exact impl_Binary.mono _ _)
      | (with_reducible exact LeO.refl _)
      | (with_reducible exact LeO.none _)
      | (with_reducible refine LeO.ite ?_ ?_)
      | (with_reducible refine LeO.bind ?_ (fun _ => ?_))
      | exact ih0 _ _ _ _ _ _
      | exact ih1 _ _ _ _ _
      | exact impl_Binary.mono _ _
      | exact LeO.none _
      | refine LeO.ite ?_ ?_
      | refine LeO.bind ?_ (fun _ => ?_)
set_option maxHeartbeats 8000000 in
set_option maxRecDepth 100000 in
theorem laws_FnBinary.calls (k : Nat) (a0 : Int) (a1 : Int) (a2 : Bool) (r : Bool) (w : World) (h : laws_FnBinary.f k a0 a1 a2 = some r) :
    Calls Try.prog 3 #[.int .u16 a0, .int .u16 a1, .bool a2] w fun e w' => e = .returned (.bool r) ∧ Below w.heap.size w w' := by
  have HB := Aside0.mk (Below.refl w.heap.size w)
  have H : (laws_FnBinary.l0 k a1 a2 (Int.tmod (wrap64 (a0)) 9001) (([] : List Int)) (Int.tmod (wrap64 (a0)) 9001) 0) = some r := h
  clear h
  obtain ⟨y106, hy106⟩ : ∃ y_ : List Int, y_ = (([] : List Int)) := ⟨_, rfl⟩
  replace H : (laws_FnBinary.l0 k a1 a2 (Int.tmod (wrap64 (a0)) 9001) y106 (Int.tmod (wrap64 (a0)) 9001) 0) = some r := by first | (rw [hy106]; with_reducible exact H) | (have H2_ := (Option.bind_some _ _).symm.trans H; rw [hy106]; with_reducible exact H2_) | (have H2_ := (Option.bind_some _ _).symm.trans H; with_reducible exact H2_) | with_reducible exact H | (rw [hy106]; exact H) | exact H
  have Ny106 := Aside0.mk hy106
  clear hy106
  have H' := Aside0.mk H
  clear H
  go_enter Try.func3, Try.ntmps3
  go_wp2_with (first | ((with_reducible refine gate_dst (N := 15) rfl ?_); (try (refine gate_guard (by rfl) ?_; dsimp only)); refine Kd.R_lit (Kd.int .u8) _ 5 ?hg (N := 15) ?hd (xs := ([] : List Int)) (inner := []) (ok := fun _ => True) (okp := fun _ => True) ?hr ?hp (fun _ hk => hk) trivial (Below.refl _ _) (Nat.le_refl _) (by simp) ?_; (case hd => rfl); (case hg => rfl); (case hr => first | (go_simp; done) | (go_simp; rfl)); (case hp => exact (Reps.none _ _)); intro v107 w4 ho5 hb hg_ hnew_; clear hg_ hnew_; (first | rw [← Ny106.out] at ho5 | (simp only [Int.reduceToNat] at ho5; rw [← Ny106.out] at ho5)); have n0_ := Aside0.mk (Kd.R_lower ho5 (below_size (by repeat (first | (with_reducible first | exact HB.out | apply below_alloc | apply pw_below_drewN | apply below_drew1) | exact HB.out)))); have n1_ := Aside0.mk (below_step (by repeat (first | (with_reducible first | exact HB.out | apply below_alloc | apply pw_below_drewN | apply below_drew1) | exact HB.out)) hb); clear HB; have HO108 := n0_; have HB := n1_; clear n0_ n1_; clear hb ho5))
  go_loopg [8, 17] k (fun kq v8 v17 w' => ∃ (x8_1 : List Int) (x17_1 : Int), v17 = .int .i64 x17_1 ∧ Aside0 (laws_FnBinary.l0 kq a1 a2 (Int.tmod (wrap64 (a0)) 9001) x8_1 (Int.tmod (wrap64 (a0)) 9001) x17_1 = some r) ∧ Aside0 (kq ≤ k) ∧ Aside0 (Kd.R (Kd.int .u8) 5 w' w.heap.size (fun _ => True) v8 x8_1) ∧ Aside0 (Below w.heap.size w w'))
  case atStart => exact ⟨(y106), (0), (by first | rfl | (simp; done) | (simp [*]; done)), H', ⟨Nat.le_refl _⟩, ⟨by (with_reducible repeat (first | apply Kd.R_alloc | apply Kd.R_drewN | apply Kd.R_drew)); exact HO108.out⟩, ⟨by repeat (first | (with_reducible first | exact HB.out | apply below_alloc | apply pw_below_drewN | apply below_drew1) | exact HB.out)⟩⟩
  case round =>
    clear H'
    try clear p2
    try clear c3
    obtain ⟨x8_1, x17_1, rfl, HA, HK1, HO_8, HB⟩ := hrel
    cases gk with
    | zero => exact absurd HA.out (by simp [laws_FnBinary.l0])
    | succ k1 =>
      have H := HA.out
      clear HA
      simp only [laws_FnBinary.l0] at H
      by_cases c6 : x17_1 < (Int.tmod (wrap64 (a0)) 9001)
      · rw [if_pos c6] at H
        have c6b0 : decide (x17_1 < (Int.tmod (wrap64 (a0)) 9001)) = true := decide_eq_true c6
        clear c6
        by_cases c7 : x8_1.length < 140737488355328
        · rw [if_pos c7] at H
          have LMc7 := Aside0.mk c7
          clear c7
          obtain ⟨y109, hy109⟩ : ∃ y_ : List Int, y_ = (x8_1 ++ [(wrap64 (1 + (Int.tmod x17_1 255))) % 256]) := ⟨_, rfl⟩
          replace H : (laws_FnBinary.l0 k1 a1 a2 (Int.tmod (wrap64 (a0)) 9001) y109 (Int.tmod (wrap64 (a0)) 9001) (wrap64 (x17_1 + 1))) = some r := by first | (rw [hy109]; with_reducible exact H) | (have H2_ := (Option.bind_some _ _).symm.trans H; rw [hy109]; with_reducible exact H2_) | (have H2_ := (Option.bind_some _ _).symm.trans H; with_reducible exact H2_) | with_reducible exact H | (rw [hy109]; exact H) | exact H
          have Ny109 := Aside0.mk hy109
          clear hy109
          have H' := Aside0.mk H
          clear H
          go_wp2_with (first | ((with_reducible refine gate_builtin (b := .append) (xs := #[.tmp 20, .tmp 25]) rfl ?_); (try (refine gate_guard (by rfl) ?_; dsimp only)); at_builtin; refine Kd.R_append (Kd.int .u8) (w0 := w) w.heap.size rfl (.tmp 20) (.tmp 25) 23 5 (.int .u8 0) 1 rfl Try.underlying23 info5 rfl (by decide) (by omega) u8 x8_1 ((wrap64 (1 + (Int.tmod x17_1 255))) % 256) [.int .u8 ((wrap64 (1 + (Int.tmod x17_1 255))) % 256)] (fun _ => True) (fun _ => False) rfl rfl ?aP (fun _ hk => hk.elim) ?aF ?aO ?aB ?aS ?aL ?_; (case aP => exact rfl); (case aB => exact (by repeat (first | (with_reducible first | exact HB.out | apply below_alloc | apply pw_below_drewN | apply below_drew1) | exact HB.out))); (case aF => exact (fun _ _ => trivial)); (case aO => exact (by (with_reducible repeat (first | apply Kd.R_alloc | apply Kd.R_drewN | apply Kd.R_drew)); exact HO_8.out)); (case aS => exact (below_size (by repeat (first | (with_reducible first | exact HB.out | apply below_alloc | apply pw_below_drewN | apply below_drew1) | exact HB.out)))); (case aL => have := LMc7.out; omega); intro v110 w8 ho hb hg hat; rw [← Ny109.out] at ho; have n0_ := Aside0.mk (hb); have n1_ := Aside0.mk (ho); clear HB; clear HO_8; have HB := n0_; have HO111 := n1_; clear n0_ n1_; clear ho hb hg hat))
          go_roundg k1
          case measure => have := HK1.out; omega
          case rel => exact ⟨(y109), (wrap64 (x17_1 + 1)), (by first | rfl | (simp; done) | (simp [*]; done)), H', ⟨by have := HK1.out; omega⟩, ⟨by (with_reducible repeat (first | apply Kd.R_alloc | apply Kd.R_drewN | apply Kd.R_drew)); exact HO111.out⟩, ⟨by repeat (first | (with_reducible first | exact HB.out | apply below_alloc | apply pw_below_drewN | apply below_drew1) | exact HB.out)⟩⟩
        · rw [if_neg c7] at H
          exact absurd H (by simp)
      · rw [if_neg c6] at H
        have c6b0 : decide (x17_1 < (Int.tmod (wrap64 (a0)) 9001)) = false := decide_eq_false c6
        clear c6
        have HC9 := Aside0.mk H
        clear H
        go_upto_region 9 with (fail)
        go_cut [32] (fun v32 wc => ∃ (kq : Nat) (x32_8 : Bool), v32 = .bool x32_8 ∧ Aside0 (laws_FnBinary.j1 kq a1 (Int.tmod (wrap64 (a0)) 9001) x8_1 false x32_8 = some r) ∧ Aside0 (kq ≤ k1) ∧ Aside0 (Kd.R (Kd.int .u8) 5 wc w.heap.size (fun _ => True) u8 x8_1) ∧ Aside0 (Below w.heap.size w wc))
        case first =>
          have H := HC9.out
          clear HC9
          by_cases c10 : a2 = true
          · subst c10
            have H1 : (laws_FnBinary.j1 k1 a1 (Int.tmod (wrap64 (a0)) 9001) x8_1 false (decide ((Int.tmod (wrap64 (a0)) 9001) > 0))) = some r := by rw [if_pos rfl] at H; exact H
            clear H
            have H := H1
            clear H1
            have H' := Aside0.mk H
            clear H
            go_wp2
            go_meet
            case rel => exact ⟨_, (decide ((Int.tmod (wrap64 (a0)) 9001) > 0)), (by first | rfl | (simp; done) | (simp [*]; done)), H', ⟨by have := HK1.out; first | omega | exact Nat.le_refl _⟩, ⟨by (with_reducible repeat (first | apply Kd.R_alloc | apply Kd.R_drewN | apply Kd.R_drew)); exact HO_8.out⟩, ⟨by repeat (first | (with_reducible first | exact HB.out | apply below_alloc | apply pw_below_drewN | apply below_drew1) | exact HB.out)⟩⟩
          · replace c10 := Bool.eq_false_iff.mpr c10
            subst c10
            have H1 : (laws_FnBinary.j1 k1 a1 (Int.tmod (wrap64 (a0)) 9001) x8_1 false false) = some r := by rw [if_neg (show ¬ (false = true) by decide)] at H; exact H
            clear H
            have H := H1
            clear H1
            have H' := Aside0.mk H
            clear H
            go_wp2
            go_meet
            case rel => exact ⟨_, (false), (by first | rfl | (simp; done) | (simp [*]; done)), H', ⟨by have := HK1.out; first | omega | exact Nat.le_refl _⟩, ⟨by (with_reducible repeat (first | apply Kd.R_alloc | apply Kd.R_drewN | apply Kd.R_drew)); exact HO_8.out⟩, ⟨by repeat (first | (with_reducible first | exact HB.out | apply below_alloc | apply pw_below_drewN | apply below_drew1) | exact HB.out)⟩⟩
        case rest =>
          clear HC9
          try clear c1
          try clear p2
          try clear c3
          try clear c6
          try clear c6b0
          try clear p6
          try clear c7
          try clear c10
          try clear p2
          obtain ⟨kq, x32_8, rfl, HA, HJ8, HO_8, HB⟩ := hcut
          cases kq with
          | zero => exact absurd HA.out (by simp [laws_FnBinary.j1])
          | succ kj8 =>
            have H := HA.out
            clear HA
            simp only [laws_FnBinary.j1] at H
            by_cases c11 : x32_8 = true
            · subst c11
              have H1 : (if (Int.tmod (wrap64 (a0)) 9001) = 0 then (none) else (if 0 ≤ (Int.tmod (wrap64 (a1)) (Int.tmod (wrap64 (a0)) 9001)) then (if (Int.tmod (wrap64 (a1)) (Int.tmod (wrap64 (a0)) 9001)) < (x8_1.length : Int) then ((impl_Binary.f kj8 (x8_1.set ((Int.tmod (wrap64 (a1)) (Int.tmod (wrap64 (a0)) 9001)) : Int).toNat 0)).bind fun t113 => (if (t113 == (decide ((Int.tmod (wrap64 (a1)) (Int.tmod (wrap64 (a0)) 9001)) < 8000))) = true then ((impl_Binary.f kj8 (([0] : List Int))).bind fun t117 => (some t117)) else (some false))) else (none)) else (none))) = some r := by rw [if_pos rfl] at H; exact H
              clear H
              have H := H1
              clear H1
              by_cases c12 : (Int.tmod (wrap64 (a0)) 9001) = 0
              · rw [if_pos c12] at H
                exact absurd H (by simp)
              · rw [if_neg c12] at H
                have c12b0 : ((Int.tmod (wrap64 (a0)) 9001) == 0) = false := beq_eq_false_iff_ne.mpr c12
                have c12b1 : ((Int.tmod (wrap64 (a0)) 9001) != 0) = true := bne_iff_ne.mpr c12
                obtain ⟨ji13, hji13⟩ : ∃ j_ : Int, (Int.tmod (wrap64 (a1)) (Int.tmod (wrap64 (a0)) 9001)) = j_ := ⟨_, rfl⟩
                replace H : (if 0 ≤ (ji13) then (if (ji13) < (x8_1.length : Int) then ((impl_Binary.f kj8 (x8_1.set ((ji13) : Int).toNat 0)).bind fun t113 => (if (t113 == (decide ((ji13) < 8000))) = true then ((impl_Binary.f kj8 (([0] : List Int))).bind fun t117 => (some t117)) else (some false))) else (none)) else (none)) = some r := by first | (rw [hji13] at H; exact H) | (simp only [hji13] at H ⊢; exact H)
                by_cases c14 : 0 ≤ (ji13)
                · rw [if_pos c14] at H
                  have c14b0 : decide (0 ≤ (ji13)) = true := decide_eq_true c14
                  clear c14
                  by_cases c15 : (ji13) < (x8_1.length : Int)
                  · rw [if_pos c15] at H
                    have c15b0 : decide ((ji13) < (x8_1.length : Int)) = true := decide_eq_true c15
                    clear c15
                    obtain ⟨y112, hy112⟩ : ∃ y_ : List Int, y_ = (x8_1.set ((ji13) : Int).toNat 0) := ⟨_, rfl⟩
                    replace H : ((impl_Binary.f kj8 y112).bind fun t113 => (if (t113 == (decide ((ji13) < 8000))) = true then ((impl_Binary.f kj8 (([0] : List Int))).bind fun t117 => (some t117)) else (some false))) = some r := by first | (rw [hy112]; with_reducible exact H) | (have H2_ := (Option.bind_some _ _).symm.trans H; rw [hy112]; with_reducible exact H2_) | (have H2_ := (Option.bind_some _ _).symm.trans H; with_reducible exact H2_) | with_reducible exact H | (rw [hy112]; exact H) | exact H
                    have Ny112 := Aside0.mk hy112
                    clear hy112
                    replace H := Option.bind_eq_some_iff.mp H
                    obtain ⟨t113, A170, H⟩ := H
                    replace H : (if (t113 == (decide ((ji13) < 8000))) = true then ((impl_Binary.f kj8 (([0] : List Int))).bind fun t117 => (some t117)) else (some false)) = some r := H
                    have A17 := Aside0.mk A170
                    clear A170
                    by_cases c18 : (t113 == (decide ((ji13) < 8000))) = true
                    · rw [if_pos c18] at H
                      have c18b0 : (t113 == (decide ((ji13) < 8000))) = true := c18
                      (try (have c18b1 : decide (t113 = (decide ((ji13) < 8000))) = true := by simpa using c18))
                      (try (have c18b2 : (t113 == (decide ((ji13) < 8000))) = true := by simpa using c18))
                      clear c18
                      obtain ⟨y114, hy114⟩ : ∃ y_ : List Int, y_ = (([0] : List Int)) := ⟨_, rfl⟩
                      replace H : ((impl_Binary.f kj8 y114).bind fun t117 => (some t117)) = some r := by first | (rw [hy114]; with_reducible exact H) | (have H2_ := (Option.bind_some _ _).symm.trans H; rw [hy114]; with_reducible exact H2_) | (have H2_ := (Option.bind_some _ _).symm.trans H; with_reducible exact H2_) | with_reducible exact H | (rw [hy114]; exact H) | exact H
                      have Ny114 := Aside0.mk hy114
                      clear hy114
                      replace H := Option.bind_eq_some_iff.mp H
                      obtain ⟨t117, A190, H⟩ := H
                      replace H : (some t117) = some r := H
                      have A19 := Aside0.mk A190
                      clear A190
                      obtain rfl := Option.some.inj H
                      have p16 : 0 ≤ ((ji13) : Int) := of_decide_eq_true (by first | (with_reducible assumption) | assumption)
                      have q16 : ((ji13) : Int) < ((x8_1.length : Int) : Int) := of_decide_eq_true (by first | (with_reducible assumption) | assumption)
                      obtain ⟨go16, co16, eo16, gb16, gl16, cl16, HG16⟩ := Kd.R_form HO_8.out (by omega)
                      (first | cases eo16 | (injection eo16 with ea_ en_ ec_; (first | subst ea_ | (injection ea_ with ea_; subst ea_)); subst ec_; clear en_))
                      have GB16 := Aside0.mk gb16
                      have GG16 := Aside0.mk HG16
                      clear gb16 gl16 HG16
                      obtain ⟨hx16_0, hf16_0⟩ := Kd.R_celln 0 HO_8.out ((ji13) : Int) p16 q16
                      replace p16 := eq_true p16
                      replace q16 := eq_true q16
                      have HP20 := Kd.R_putg HO_8.out ((ji13) : Int) 0
                      go_wp2_with (first | ((with_reducible refine gate_store (t := 5) (p := 39) rfl ?_); refine store_event (t := 5) (p := 39) (v := ?vo_w21) (w1 := (wc.setCell ⟨go16, ((ji13) : Int).toNat, none⟩ (.int .u8 0))) ?hg ?ho ?hn ?hr ?_; (case ho => rfl); (case hg => rfl); (case hn => rfl); (case hr => first | (go_simp; done) | (go_simp; rfl)); intro w21 hw; have hg : wc.grownBy w21 (some go16) := (by rw [hw]; exact HP20.2); have hp_ : Kd.R (Kd.int .u8) 5 w21 w.heap.size (fun _ => True) (.slice (some ⟨go16, 0, none⟩) x8_1.length co16) y112 := (by rw [hw, Ny112.out]; exact HP20.1); clear HP20; have n0_ := Aside0.mk (hp_); have n1_ := Aside0.mk ((by rw [hw]; exact below_set (HB.out) GB16.out : Below w.heap.size w w21)); clear HO_8; clear HB; have HO_8 := n0_; have HB := n1_; clear n0_ n1_; clear hg hw hp_) | ((with_reducible refine gate_callee (f := 6) rfl ?_); refine goesL_ (some 43) rfl rfl Try.func6 (by kernel_rfl) rfl #[.slice (some ⟨go16, 0, none⟩) y112.length co16] rfl (by (try simp only [List.map_toArray, List.map_cons, List.map_nil]); first | done | (rw [show y112.length = x8_1.length from (Kd.R_reads' HO_8.out).1.symm] <;> rfl) | rfl | (simp only [List.length_drop, List.length_take]; rfl)) ?_; (with_reducible refine (impl_Binary.calls kj8 _ _ y112 t113 _ ?side1 ?side2 A17.out).mono ?_); (case side1 => repeat (first | exact (Kd.R_reads' HO_8.out).2.2 | (with_reducible refine Kd.C_alloc ?_ _) | (with_reducible refine Kd.C_drewN ?_ _) | (with_reducible refine Kd.C_drew ?_))); (case side2 => rw [show y112.length = x8_1.length from (Kd.R_reads' HO_8.out).1.symm]; exact (Kd.R_reads' HO_8.out).2.1); rintro e w' ⟨rfl, ⟨nd, rfl⟩⟩; refine ⟨_, rfl, ?_⟩) | ((with_reducible refine gate_dst (N := 47) rfl ?_); (try (refine gate_guard (by rfl) ?_; dsimp only)); refine Kd.R_lit (Kd.int .u8) _ 5 ?hg (N := 47) ?hd (xs := ([0] : List Int)) (inner := [.int .u8 0]) (ok := fun _ => True) (okp := fun _ => True) ?hr ?hp (fun _ hk => hk) trivial (Below.refl _ _) (Nat.le_refl _) (by simp) ?_; (case hd => rfl); (case hg => rfl); (case hr => first | (go_simp; done) | (go_simp; rfl)); (case hp => exact (Reps.one (show Kd.M (Kd.int .u8) _ _ _ 0 [.int .u8 0] from rfl) (Reps.none _ _))); intro v115 w22 ho23 hb hg_ hnew_; clear hg_ hnew_; (first | rw [← Ny114.out] at ho23 | (simp only [Int.reduceToNat] at ho23; rw [← Ny114.out] at ho23)); have n0_ := Aside0.mk (Kd.R_elder' (by (with_reducible repeat (first | apply Kd.R_alloc | apply Kd.R_drewN | apply Kd.R_drew)); exact HO_8.out) (Kd.R_base ho23) hb); have n1_ := Aside0.mk (Kd.R_lower (Kd.R_new' ho23 (Kd.R_lt (by (with_reducible repeat (first | apply Kd.R_alloc | apply Kd.R_drewN | apply Kd.R_drew)); exact HO_8.out))) (below_size (by repeat (first | (with_reducible first | exact HB.out | apply below_alloc | apply pw_below_drewN | apply below_drew1) | exact HB.out)))); have n2_ := Aside0.mk (below_step (by repeat (first | (with_reducible first | exact HB.out | apply below_alloc | apply pw_below_drewN | apply below_drew1) | exact HB.out)) hb); clear HO_8; clear HB; have HO_8 := n0_; have HO116 := n1_; have HB := n2_; clear n0_ n1_ n2_; clear hb ho23; obtain ⟨Ao24, co24, eo24⟩ := Kd.R_slice HO116.out; subst eo24) | (go_at_call 6; (with_reducible refine (impl_Binary.calls kj8 _ _ y114 t117 _ ?side1 ?side2 A19.out).mono ?_); (case side1 => repeat (first | exact (Kd.R_reads' HO116.out).2.2 | (with_reducible refine Kd.C_alloc ?_ _) | (with_reducible refine Kd.C_drewN ?_ _) | (with_reducible refine Kd.C_drew ?_))); (case side2 => exact (Kd.R_reads' HO116.out).2.1); rintro e w' ⟨rfl, ⟨nd, rfl⟩⟩))
                      go_ret
                      exact ⟨by first | rfl | (simp [errW_none, errW_some] <;> rfl) | (simp only [← hji13]; first | rfl | (simp [errW_none, errW_some] <;> rfl)) | (simp [*, errW_none, errW_some] <;> rfl), by repeat (first | (with_reducible first | exact HB.out | apply below_alloc | apply pw_below_drewN | apply below_drew1) | exact HB.out)⟩
                    · rw [if_neg c18] at H
                      have c18b0 : (t113 == (decide ((ji13) < 8000))) = false := by simpa using c18
                      (try (have c18b1 : decide (t113 = (decide ((ji13) < 8000))) = false := by simpa using c18))
                      (try (have c18b2 : (t113 == (decide ((ji13) < 8000))) = false := by simpa using c18))
                      (try (have c18b3 : ¬ (t113 = (decide ((ji13) < 8000))) := by simpa using c18))
                      clear c18
                      obtain rfl := Option.some.inj H
                      have p16 : 0 ≤ ((ji13) : Int) := of_decide_eq_true (by first | (with_reducible assumption) | assumption)
                      have q16 : ((ji13) : Int) < ((x8_1.length : Int) : Int) := of_decide_eq_true (by first | (with_reducible assumption) | assumption)
                      obtain ⟨go16, co16, eo16, gb16, gl16, cl16, HG16⟩ := Kd.R_form HO_8.out (by omega)
                      (first | cases eo16 | (injection eo16 with ea_ en_ ec_; (first | subst ea_ | (injection ea_ with ea_; subst ea_)); subst ec_; clear en_))
                      have GB16 := Aside0.mk gb16
                      have GG16 := Aside0.mk HG16
                      clear gb16 gl16 HG16
                      obtain ⟨hx16_0, hf16_0⟩ := Kd.R_celln 0 HO_8.out ((ji13) : Int) p16 q16
                      replace p16 := eq_true p16
                      replace q16 := eq_true q16
                      have HP25 := Kd.R_putg HO_8.out ((ji13) : Int) 0
                      go_wp2_with (first | ((with_reducible refine gate_store (t := 5) (p := 39) rfl ?_); refine store_event (t := 5) (p := 39) (v := ?vo_w26) (w1 := (wc.setCell ⟨go16, ((ji13) : Int).toNat, none⟩ (.int .u8 0))) ?hg ?ho ?hn ?hr ?_; (case ho => rfl); (case hg => rfl); (case hn => rfl); (case hr => first | (go_simp; done) | (go_simp; rfl)); intro w26 hw; have hg : wc.grownBy w26 (some go16) := (by rw [hw]; exact HP25.2); have hp_ : Kd.R (Kd.int .u8) 5 w26 w.heap.size (fun _ => True) (.slice (some ⟨go16, 0, none⟩) x8_1.length co16) y112 := (by rw [hw, Ny112.out]; exact HP25.1); clear HP25; have n0_ := Aside0.mk (hp_); have n1_ := Aside0.mk ((by rw [hw]; exact below_set (HB.out) GB16.out : Below w.heap.size w w26)); clear HO_8; clear HB; have HO_8 := n0_; have HB := n1_; clear n0_ n1_; clear hg hw hp_) | ((with_reducible refine gate_callee (f := 6) rfl ?_); refine goesL_ (some 43) rfl rfl Try.func6 (by kernel_rfl) rfl #[.slice (some ⟨go16, 0, none⟩) y112.length co16] rfl (by (try simp only [List.map_toArray, List.map_cons, List.map_nil]); first | done | (rw [show y112.length = x8_1.length from (Kd.R_reads' HO_8.out).1.symm] <;> rfl) | rfl | (simp only [List.length_drop, List.length_take]; rfl)) ?_; (with_reducible refine (impl_Binary.calls kj8 _ _ y112 t113 _ ?side1 ?side2 A17.out).mono ?_); (case side1 => repeat (first | exact (Kd.R_reads' HO_8.out).2.2 | (with_reducible refine Kd.C_alloc ?_ _) | (with_reducible refine Kd.C_drewN ?_ _) | (with_reducible refine Kd.C_drew ?_))); (case side2 => rw [show y112.length = x8_1.length from (Kd.R_reads' HO_8.out).1.symm]; exact (Kd.R_reads' HO_8.out).2.1); rintro e w' ⟨rfl, ⟨nd, rfl⟩⟩; refine ⟨_, rfl, ?_⟩))
                      go_ret
                      exact ⟨by first | rfl | (simp [errW_none, errW_some] <;> rfl) | (simp only [← hji13]; first | rfl | (simp [errW_none, errW_some] <;> rfl)) | (simp [*, errW_none, errW_some] <;> rfl), by repeat (first | (with_reducible first | exact HB.out | apply below_alloc | apply pw_below_drewN | apply below_drew1) | exact HB.out)⟩
                  · rw [if_neg c15] at H
                    exact absurd H (by simp)
                · rw [if_neg c14] at H
                  exact absurd H (by simp)
            · replace c11 := Bool.eq_false_iff.mpr c11
              subst c11
              have H1 : ((impl_Binary.f kj8 x8_1).bind fun t118 => (if (t118 == false) = true then ((impl_Binary.f kj8 (([0] : List Int))).bind fun t122 => (some t122)) else (some false))) = some r := by rw [if_neg (show ¬ (false = true) by decide)] at H; exact H
              clear H
              have H := H1
              clear H1
              replace H := Option.bind_eq_some_iff.mp H
              obtain ⟨t118, A270, H⟩ := H
              replace H : (if (t118 == false) = true then ((impl_Binary.f kj8 (([0] : List Int))).bind fun t122 => (some t122)) else (some false)) = some r := H
              have A27 := Aside0.mk A270
              clear A270
              by_cases c28 : (t118 == false) = true
              · rw [if_pos c28] at H
                have c28b0 : (t118 == false) = true := c28
                (try (have c28b1 : decide (t118 = false) = true := by simpa using c28))
                (try (have c28b2 : (t118 == false) = true := by simpa using c28))
                clear c28
                obtain ⟨y119, hy119⟩ : ∃ y_ : List Int, y_ = (([0] : List Int)) := ⟨_, rfl⟩
                replace H : ((impl_Binary.f kj8 y119).bind fun t122 => (some t122)) = some r := by first | (rw [hy119]; with_reducible exact H) | (have H2_ := (Option.bind_some _ _).symm.trans H; rw [hy119]; with_reducible exact H2_) | (have H2_ := (Option.bind_some _ _).symm.trans H; with_reducible exact H2_) | with_reducible exact H | (rw [hy119]; exact H) | exact H
                have Ny119 := Aside0.mk hy119
                clear hy119
                replace H := Option.bind_eq_some_iff.mp H
                obtain ⟨t122, A290, H⟩ := H
                replace H : (some t122) = some r := H
                have A29 := Aside0.mk A290
                clear A290
                obtain rfl := Option.some.inj H
                obtain ⟨Ao30, co30, eo30⟩ := Kd.R_slice HO_8.out
                subst eo30
                go_wp2_with (first | ((with_reducible refine gate_callee (f := 6) rfl ?_); refine goesL_ (some 43) rfl rfl Try.func6 (by kernel_rfl) rfl #[.slice Ao30 x8_1.length co30] rfl (by (try simp only [List.map_toArray, List.map_cons, List.map_nil]); first | done | rfl | (simp only [List.length_drop, List.length_take]; rfl)) ?_; (with_reducible refine (impl_Binary.calls kj8 _ _ x8_1 t118 _ ?side1 ?side2 A27.out).mono ?_); (case side1 => repeat (first | exact (Kd.R_reads' HO_8.out).2.2 | (with_reducible refine Kd.C_alloc ?_ _) | (with_reducible refine Kd.C_drewN ?_ _) | (with_reducible refine Kd.C_drew ?_))); (case side2 => exact (Kd.R_reads' HO_8.out).2.1); rintro e w' ⟨rfl, ⟨nd, rfl⟩⟩; refine ⟨_, rfl, ?_⟩) | ((with_reducible refine gate_dst (N := 47) rfl ?_); (try (refine gate_guard (by rfl) ?_; dsimp only)); refine Kd.R_lit (Kd.int .u8) _ 5 ?hg (N := 47) ?hd (xs := ([0] : List Int)) (inner := [.int .u8 0]) (ok := fun _ => True) (okp := fun _ => True) ?hr ?hp (fun _ hk => hk) trivial (Below.refl _ _) (Nat.le_refl _) (by simp) ?_; (case hd => rfl); (case hg => rfl); (case hr => first | (go_simp; done) | (go_simp; rfl)); (case hp => exact (Reps.one (show Kd.M (Kd.int .u8) _ _ _ 0 [.int .u8 0] from rfl) (Reps.none _ _))); intro v120 w31 ho32 hb hg_ hnew_; clear hg_ hnew_; (first | rw [← Ny119.out] at ho32 | (simp only [Int.reduceToNat] at ho32; rw [← Ny119.out] at ho32)); have n0_ := Aside0.mk (Kd.R_elder' (by (with_reducible repeat (first | apply Kd.R_alloc | apply Kd.R_drewN | apply Kd.R_drew)); exact HO_8.out) (Kd.R_base ho32) hb); have n1_ := Aside0.mk (Kd.R_lower (Kd.R_new' ho32 (Kd.R_lt (by (with_reducible repeat (first | apply Kd.R_alloc | apply Kd.R_drewN | apply Kd.R_drew)); exact HO_8.out))) (below_size (by repeat (first | (with_reducible first | exact HB.out | apply below_alloc | apply pw_below_drewN | apply below_drew1) | exact HB.out)))); have n2_ := Aside0.mk (below_step (by repeat (first | (with_reducible first | exact HB.out | apply below_alloc | apply pw_below_drewN | apply below_drew1) | exact HB.out)) hb); clear HO_8; clear HB; have HO_8 := n0_; have HO121 := n1_; have HB := n2_; clear n0_ n1_ n2_; clear hb ho32; obtain ⟨Ao33, co33, eo33⟩ := Kd.R_slice HO121.out; subst eo33) | (go_at_call 6; (with_reducible refine (impl_Binary.calls kj8 _ _ y119 t122 _ ?side1 ?side2 A29.out).mono ?_); (case side1 => repeat (first | exact (Kd.R_reads' HO121.out).2.2 | (with_reducible refine Kd.C_alloc ?_ _) | (with_reducible refine Kd.C_drewN ?_ _) | (with_reducible refine Kd.C_drew ?_))); (case side2 => exact (Kd.R_reads' HO121.out).2.1); rintro e w' ⟨rfl, ⟨nd, rfl⟩⟩))
                go_ret
                exact ⟨by first | rfl | (simp [errW_none, errW_some] <;> rfl) | (simp [*, errW_none, errW_some] <;> rfl), by repeat (first | (with_reducible first | exact HB.out | apply below_alloc | apply pw_below_drewN | apply below_drew1) | exact HB.out)⟩
              · rw [if_neg c28] at H
                have c28b0 : (t118 == false) = false := by simpa using c28
                (try (have c28b1 : decide (t118 = false) = false := by simpa using c28))
                (try (have c28b2 : (t118 == false) = false := by simpa using c28))
                (try (have c28b3 : ¬ (t118 = false) := by simpa using c28))
                clear c28
                obtain rfl := Option.some.inj H
                obtain ⟨Ao34, co34, eo34⟩ := Kd.R_slice HO_8.out
                subst eo34
                go_wp2_with (first | ((with_reducible refine gate_callee (f := 6) rfl ?_); refine goesL_ (some 43) rfl rfl Try.func6 (by kernel_rfl) rfl #[.slice Ao34 x8_1.length co34] rfl (by (try simp only [List.map_toArray, List.map_cons, List.map_nil]); first | done | rfl | (simp only [List.length_drop, List.length_take]; rfl)) ?_; (with_reducible refine (impl_Binary.calls kj8 _ _ x8_1 t118 _ ?side1 ?side2 A27.out).mono ?_); (case side1 => repeat (first | exact (Kd.R_reads' HO_8.out).2.2 | (with_reducible refine Kd.C_alloc ?_ _) | (with_reducible refine Kd.C_drewN ?_ _) | (with_reducible refine Kd.C_drew ?_))); (case side2 => exact (Kd.R_reads' HO_8.out).2.1); rintro e w' ⟨rfl, ⟨nd, rfl⟩⟩; refine ⟨_, rfl, ?_⟩))
                go_ret
                exact ⟨by first | rfl | (simp [errW_none, errW_some] <;> rfl) | (simp [*, errW_none, errW_some] <;> rfl), by repeat (first | (with_reducible first | exact HB.out | apply below_alloc | apply pw_below_drewN | apply below_drew1) | exact HB.out)⟩

/-- THE ONE PURE STATEMENT of laws_FnBinary: yours. -/
def laws_FnBinary.Pure : Prop := ∀ (a0 : Int) (a1 : Int) (a2 : Bool), (Lit.int .u16 a0).wf = true → (Lit.int .u16 a1).wf = true → ∃ k, laws_FnBinary.f k a0 a1 a2 = some true
theorem laws_FnBinary.walk (P : laws_FnBinary.Pure) (a0 : Int) (a1 : Int) (a2 : Bool) (w : World) (w0 : (Lit.int .u16 a0).wf = true) (w1 : (Lit.int .u16 a1).wf = true) :
    Calls Try.prog 3 #[.int .u16 a0, .int .u16 a1, .bool a2] w fun e w' => e = .returned (.bool true) ∧ Below w.heap.size w w' := by
  obtain ⟨k, h⟩ := P a0 a1 a2 w0 w1
  refine (laws_FnBinary.calls k a0 a1 a2 true w h).mono ?_
  rintro e w' ⟨rfl, hd⟩
  exact ⟨rfl, hd⟩

end Go.Proofs.Ytcjppgeblibkcaa.PFnBinary
