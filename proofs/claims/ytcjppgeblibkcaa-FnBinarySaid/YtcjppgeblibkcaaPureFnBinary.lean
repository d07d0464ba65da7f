/- A text is binary for impl.Binary exactly when a byte 0 stands among its first 8000: for every size, place and choice, the statement's answer is true. No conditions. -/
import Derived.Test.YtcjppgeblibkcaaPFnBinaryx1
namespace Go.Proofs.Ytcjppgeblibkcaa.Pure
open Go.RowKit Go.Proofs.Ytcjppgeblibkcaa.PFnBinary Go.Proofs.YtcjppgeblibkcaaW.PrintWords Go.Proofs.YtcjppgeblibkcaaW.PrintLast

theorem bin_wrap {i : Int} (h0 : -9223372036854775808 ≤ i) (h : i ≤ 9223372036854775807) : wrap64 i = i := by
  unfold wrap64
  omega

/-- The search from place i on: the first place of c, or -1. -/
theorem bin_index (L : List Int) (c : Int) (hn : L.length ≤ 140737488355328) (d : Nat) : ∀ (k : Nat) (i : Int), 0 ≤ i → (L.length : Int) - i = d → d < k →
    ∃ r, enrycommon_indexByte.l0 k c L (L.length : Int) i = some r ∧
      ((r = -1 ∧ ∀ j, i ≤ j → j < (L.length : Int) → rd L j ≠ c) ∨ (i ≤ r ∧ r < (L.length : Int) ∧ rd L r = c)) := by
  induction d with
  | zero =>
    intro k i h0 hd hk
    obtain ⟨k, rfl⟩ : ∃ m, k = m + 1 := ⟨k - 1, by omega⟩
    refine ⟨-1, ?_, Or.inl ⟨rfl, fun j a b => by omega⟩⟩
    simp only [enrycommon_indexByte.l0]; rw [if_neg (by omega)]
  | succ d ih =>
    intro k i h0 hd hk
    obtain ⟨k, rfl⟩ : ∃ m, k = m + 1 := ⟨k - 1, by omega⟩
    have hlt : i < (L.length : Int) := by omega
    by_cases e : rd L i = c
    · refine ⟨i, ?_, Or.inr ⟨by omega, hlt, e⟩⟩
      simp only [enrycommon_indexByte.l0]; rw [if_pos hlt, if_pos h0, if_pos hlt, if_pos e]
    · obtain ⟨r, hr, h⟩ := ih k (i + 1) (by omega) (by omega) (by omega)
      refine ⟨r, ?_, ?_⟩
      · simp only [enrycommon_indexByte.l0]; rw [if_pos hlt, if_pos h0, if_pos hlt, if_neg e, bin_wrap (by omega) (by omega)]; exact hr
      · rcases h with ⟨a, b⟩ | ⟨a, b, f⟩
        · refine Or.inl ⟨a, fun j x y => ?_⟩
          by_cases g : j = i
          · rw [g]; exact e
          · exact b j (by omega) y
        · exact Or.inr ⟨by omega, b, f⟩

theorem bin_take (L : List Int) (j : Int) (h0 : 0 ≤ j) (h : j < 8000) : rd (L.take 8000) j = rd L j := by
  unfold rd
  rw [List.getD_eq_getElem?_getD, List.getD_eq_getElem?_getD, List.getElem?_take, if_pos (by omega)]

theorem bin_yes (L : List Int) (k : Nat) (hn : L.length ≤ 9000) (hk : 9000 < k) (p : Int) (h0 : 0 ≤ p) (h1 : p < (L.length : Int)) (h2 : p < 8000) (hz : rd L p = 0) :
    impl_Binary.f k L = some true := by
  unfold impl_Binary.f enrycommon_IsBinary.f enrycommon_indexByte.f
  by_cases g : (L.length : Int) > 8000
  · have hl : (L.take 8000).length = 8000 := by rw [List.length_take]; omega
    obtain ⟨r, hr, h⟩ := bin_index (L.take 8000) 0 (by omega) 8000 k 0 (by omega) (by omega) (by omega)
    rw [if_pos g, if_pos (by omega), hr]
    simp only [Option.bind_some]
    rw [if_neg]
    · rfl
    · rcases h with ⟨_, b⟩ | ⟨a, _, _⟩
      · exact absurd ((bin_take L p h0 h2).trans hz) (b p h0 (by omega))
      · omega
  · obtain ⟨r, hr, h⟩ := bin_index L 0 (by omega) L.length k 0 (by omega) (by omega) (by omega)
    rw [if_neg g, hr]
    simp only [Option.bind_some]
    rw [if_neg]
    · rfl
    · rcases h with ⟨_, b⟩ | ⟨a, _, _⟩
      · exact absurd hz (b p h0 (by omega))
      · omega

theorem bin_no (L : List Int) (k : Nat) (hn : L.length ≤ 9000) (hk : 9000 < k) (hz : ∀ j : Int, 0 ≤ j → j < (L.length : Int) → j < 8000 → rd L j ≠ 0) :
    impl_Binary.f k L = some false := by
  unfold impl_Binary.f enrycommon_IsBinary.f enrycommon_indexByte.f
  by_cases g : (L.length : Int) > 8000
  · have hl : (L.take 8000).length = 8000 := by rw [List.length_take]; omega
    obtain ⟨r, hr, h⟩ := bin_index (L.take 8000) 0 (by omega) 8000 k 0 (by omega) (by omega) (by omega)
    rw [if_pos g, if_pos (by omega), hr]
    simp only [Option.bind_some]
    rw [if_pos]
    · rfl
    · rcases h with ⟨a, _⟩ | ⟨a, b, f⟩
      · exact a
      · rw [bin_take L r a (by omega)] at f
        exact absurd f (hz r a (by omega) (by omega))
  · obtain ⟨r, hr, h⟩ := bin_index L 0 (by omega) L.length k 0 (by omega) (by omega) (by omega)
    rw [if_neg g, hr]
    simp only [Option.bind_some]
    rw [if_pos]
    · rfl
    · rcases h with ⟨a, _⟩ | ⟨a, b, f⟩
      · exact a
      · exact absurd f (hz r a b (by omega))

theorem bin_one (k : Nat) (hk : 9000 < k) : impl_Binary.f k ([0] : List Int) = some true :=
  bin_yes [0] k (by simp) hk 0 (by omega) (by simp) (by omega) rfl

theorem bin_tmod (a b : Int) (ha : 0 ≤ a) : Int.tmod a b = a % b := Int.tmod_eq_emod_of_nonneg ha

theorem bin_set (L : List Int) (p : Nat) (hp : p < L.length) (j : Int) (hj : 0 ≤ j) : rd (L.set ((p : Int).toNat) 0) j = if j = p then 0 else rd L j := by
  unfold rd
  rw [List.getD_eq_getElem?_getD, List.getElem?_set]
  by_cases e : j = p
  · rw [if_pos (by omega), if_pos (by omega), if_pos e]; rfl
  · rw [if_neg (by omega), if_neg e, List.getD_eq_getElem?_getD]

theorem bin_end (n a1 : Int) (a2 : Bool) (h1 : n ≤ 9000) (p0 : 0 ≤ a1) (p1 : a1 ≤ 65535) (L : List Int) (k : Nat) (hk : 9002 < k)
    (hl : (L.length : Int) = n) (hL : ∀ j : Int, 0 ≤ j → j < n → 1 ≤ rd L j) :
    (if a2 = true then laws_FnBinary.j1 k a1 n L false (decide (n > 0)) else laws_FnBinary.j1 k a1 n L false false) = some true := by
  obtain ⟨k, rfl⟩ : ∃ m, k = m + 1 := ⟨k - 1, by omega⟩
  have no : laws_FnBinary.j1 (k + 1) a1 n L false false = some true := by
    simp only [laws_FnBinary.j1]
    rw [if_neg (by decide), bin_no L k (by omega) (by omega) (fun j a b _ => by have := hL j a (by omega); omega)]
    simp only [Option.bind_some]
    rw [bin_one k (by omega)]
    rfl
  cases a2 with
  | false => rw [if_neg (by decide)]; exact no
  | true =>
    rw [if_pos rfl]
    by_cases g : n > 0
    · rw [decide_eq_true g]
      have q0 := Int.emod_nonneg a1 (b := n) (by omega)
      have q1 := Int.emod_lt_of_pos a1 g
      simp only [laws_FnBinary.j1]
      rw [if_pos trivial, if_neg (by omega), bin_wrap (by omega) (by omega), bin_tmod a1 n p0]
      rw [if_pos q0, if_pos (by omega)]
      obtain ⟨p, hp⟩ : ∃ p : Nat, a1 % n = (p : Int) := ⟨(a1 % n).toNat, by omega⟩
      rw [hp] at q0 q1 ⊢
      have hset := bin_set L p (by omega)
      have hlen : (L.set ((p : Int).toNat) 0).length = L.length := List.length_set
      by_cases h8 : (p : Int) < 8000
      · have A := bin_yes (L.set ((p : Int).toNat) 0) k (by rw [hlen]; omega) (by omega) (p : Int) q0 (by rw [hlen]; omega) h8 (by rw [hset _ q0, if_pos rfl])
        rw [A, decide_eq_true h8]
        simp only [Option.bind_some]
        rw [bin_one k (by omega)]
        rfl
      · have A := bin_no (L.set ((p : Int).toNat) 0) k (by rw [hlen]; omega) (by omega) (fun j a b c => by
          rw [hlen] at b
          rw [hset j a, if_neg (by omega)]
          have := hL j a (by omega)
          omega)
        rw [A, decide_eq_false h8]
        simp only [Option.bind_some]
        rw [bin_one k (by omega)]
        rfl
    · rw [decide_eq_false g]; exact no

theorem bin_loop (n a1 : Int) (a2 : Bool) (h1 : n ≤ 9000) (p0 : 0 ≤ a1) (p1 : a1 ≤ 65535) (d : Nat) :
    ∀ (k : Nat) (L : List Int) (i : Int), (L.length : Int) = i → (∀ j : Int, 0 ≤ j → j < i → 1 ≤ rd L j) → n - i = d → d + 9005 < k →
    laws_FnBinary.l0 k a1 a2 n L n i = some true := by
  induction d with
  | zero =>
    intro k L i hl hL hd hk
    obtain ⟨k, rfl⟩ : ∃ m, k = m + 1 := ⟨k - 1, by omega⟩
    obtain rfl : i = n := by omega
    simp only [laws_FnBinary.l0]
    rw [if_neg (by omega)]
    exact bin_end i a1 a2 h1 p0 p1 L k (by omega) hl hL
  | succ d ih =>
    intro k L i hl hL hd hk
    obtain ⟨k, rfl⟩ : ∃ m, k = m + 1 := ⟨k - 1, by omega⟩
    simp only [laws_FnBinary.l0]
    rw [if_pos (by omega), if_pos (by omega), bin_tmod i 255 (by omega), bin_wrap (i := i + 1) (by omega) (by omega), bin_wrap (i := 1 + i % 255) (by omega) (by omega)]
    refine ih k _ (i + 1) (by simp; omega) ?_ (by omega) (by omega)
    intro j j0 j1
    unfold rd
    rw [List.getD_eq_getElem?_getD]
    by_cases e : j < i
    · rw [List.getElem?_append_left (by omega), ← List.getD_eq_getElem?_getD]
      exact hL j j0 e
    · have e' : j.toNat = L.length := by omega
      rw [e', List.getElem?_append_right (Nat.le_refl _)]
      simp
      omega

theorem FnBinary : laws_FnBinary.Pure := by
  intro a0 a1 a2 w0 w1
  have b0 : 0 ≤ a0 ∧ a0 ≤ 65535 := by simpa [Lit.wf, IntKind.min, IntKind.max, IntKind.bits, IntKind.signed] using w0
  have b1 : 0 ≤ a1 ∧ a1 ≤ 65535 := by simpa [Lit.wf, IntKind.min, IntKind.max, IntKind.bits, IntKind.signed] using w1
  refine ⟨20000, ?_⟩
  unfold laws_FnBinary.f
  have e : wrap64 a0 = a0 := bin_wrap (by omega) (by omega)
  rw [e, bin_tmod a0 9001 b0.1]
  exact bin_loop (a0 % 9001) a1 a2 (by omega) b1.1 b1.2 (a0 % 9001).toNat 20000 [] 0 rfl (fun j a b => by omega) (by omega) (by omega)

end Go.Proofs.Ytcjppgeblibkcaa.Pure
