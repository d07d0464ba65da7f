/- The head and the foot of a text by the package's functions are those by the reference: both go by the places of the ends of lines. Conditions: at most 300 bytes. -/
import Derived.Test.YtcjppgeblibkcaaBytes
import Derived.Test.YtcjppgeblibkcaaLines
namespace Go.Proofs.Ytcjppgeblibkcaa.Mine
open Go.RowKit Go.Proofs.YtcjppgeblibkcaaW.PrintWords Go.Proofs.Ytcjppgeblibkcaa.PFnLines

/-- The places of the ends of lines, counted from o on. -/
def pos : Int → List Int → List Int
  | _, [] => []
  | o, x :: R => if x = 10 then o :: pos (o + 1) R else pos (o + 1) R

theorem pos_append (A : List Int) : ∀ (o : Int) (R : List Int), pos o (A ++ R) = pos o A ++ pos (o + A.length) R := by
  induction A with
  | nil => intro o R; simp [pos]
  | cons x A ih =>
    intro o R
    have e : o + ((x :: A).length : Int) = o + 1 + (A.length : Int) := by simp; omega
    rw [List.cons_append, e]
    simp only [pos]
    by_cases h : x = 10
    · rw [if_pos h, if_pos h, ih]; rfl
    · rw [if_neg h, if_neg h, ih]

theorem pos_none (A : List Int) (h : 10 ∉ A) : ∀ o, pos o A = [] := by
  induction A with
  | nil => intro o; rfl
  | cons x A ih =>
    intro o
    simp at h
    simp only [pos]
    rw [if_neg (fun e => h.1 e.symm), ih h.2]

theorem pos_mid (o : Int) (B S : List Int) (h : 10 ∉ B) : pos o (B ++ 10 :: S) = (o + B.length) :: pos (o + B.length + 1) S := by
  rw [pos_append, pos_none B h]
  simp [pos]

theorem pos_last (o : Int) (B S : List Int) (h : 10 ∉ S) : pos o (B ++ 10 :: S) = pos o B ++ [o + B.length] := by
  rw [pos_append]
  simp only [pos, if_true]
  rw [pos_none S h]

theorem pos_in (R : List Int) : ∀ (o x : Int), x ∈ pos o R → o ≤ x ∧ x < o + R.length := by
  induction R with
  | nil => intro o x h; simp [pos] at h
  | cons y R ih =>
    intro o x h
    simp only [pos] at h
    have e : ((y :: R).length : Int) = (R.length : Int) + 1 := by simp
    rw [e]
    by_cases g : y = 10
    · rw [if_pos g] at h
      rcases List.mem_cons.1 h with rfl | h
      · omega
      · have := ih (o + 1) x h
        omega
    · rw [if_neg g] at h
      have := ih (o + 1) x h
      omega

theorem pos_le (R : List Int) : ∀ (o : Int), (pos o R).length ≤ R.length := by
  induction R with
  | nil => intro o; simp [pos]
  | cons y R ih =>
    intro o
    simp only [pos]
    have := ih (o + 1)
    by_cases g : y = 10
    · rw [if_pos g]; simp; omega
    · rw [if_neg g]; simp; omega

theorem rd_in (P : List Int) (i : Int) (h0 : 0 ≤ i) (h : i < P.length) : rd P i ∈ P := by
  unfold rd
  rw [List.getD_eq_getElem?_getD, List.getElem?_eq_getElem (by omega)]
  exact List.getElem_mem _

theorem rd_left (P Q : List Int) (i : Int) (h0 : 0 ≤ i) (h : i < P.length) : rd (P ++ Q) i = rd P i := by
  unfold rd
  rw [List.getD_eq_getElem?_getD, List.getElem?_append_left (by omega), ← List.getD_eq_getElem?_getD]

theorem rd_succ (P : List Int) (x : Int) (i : Nat) : rd (x :: P) ((i : Int) + 1) = rd P (i : Int) := by
  unfold rd
  have e : ((i : Int) + 1).toNat = i + 1 := by omega
  rw [e, Int.toNat_natCast]
  rfl

/-- The search from the front: none, or the first one. -/
theorem front_tells (R : List Int) : ∀ (A : List Int) (k : Nat) (L : List Int), L = A ++ R → 10 ∉ A → L.length ≤ 300 → R.length < k →
    (10 ∉ L ∧ enrycommon_indexByte.l0 k 10 L (L.length : Int) (A.length : Int) = some (-1)) ∨
    (∃ B S, L = B ++ 10 :: S ∧ 10 ∉ B ∧ enrycommon_indexByte.l0 k 10 L (L.length : Int) (A.length : Int) = some (B.length : Int)) := by
  induction R with
  | nil =>
    intro A k L hL hA hn hk
    obtain ⟨k, rfl⟩ : ∃ m, k = m + 1 := ⟨k - 1, by omega⟩
    simp at hL
    subst hL
    refine Or.inl ⟨hA, ?_⟩
    simp only [enrycommon_indexByte.l0]
    rw [if_neg (by omega)]
  | cons x R ih =>
    intro A k L hL hA hn hk
    obtain ⟨k, rfl⟩ : ∃ m, k = m + 1 := ⟨k - 1, by omega⟩
    have hlen : L.length = A.length + (R.length + 1) := by rw [hL]; simp
    have hx : rd L (A.length : Int) = x := by rw [hL]; exact rd_mid A R x _ rfl
    have hlt : (A.length : Int) < (L.length : Int) := by omega
    simp only [enrycommon_indexByte.l0]
    rw [if_pos hlt, if_pos (by omega), if_pos hlt, hx]
    by_cases e : x = 10
    · rw [if_pos e]
      exact Or.inr ⟨A, R, by rw [hL, e], hA, rfl⟩
    · rw [if_neg e, wrap_in (by omega) (by omega)]
      have g : ((A.length : Int) + 1) = ((A ++ [x]).length : Int) := by simp
      rw [g]
      exact ih (A ++ [x]) k L (by rw [hL]; simp) (by simp; exact ⟨hA, fun q => e q.symm⟩) hn (by simp at hk; omega)

/-- The search from the back: none, or the last one. -/
theorem back_tells (d : Nat) : ∀ (A R : List Int) (k : Nat) (L : List Int), A.length = d → L = A ++ R → 10 ∉ R → L.length ≤ 300 → d < k →
    (10 ∉ L ∧ enrycommon_lastIndexByte.l0 k L 10 ((A.length : Int) - 1) = some (-1)) ∨
    (∃ B S, L = B ++ 10 :: S ∧ 10 ∉ S ∧ enrycommon_lastIndexByte.l0 k L 10 ((A.length : Int) - 1) = some (B.length : Int)) := by
  induction d with
  | zero =>
    intro A R k L hd hL hR hn hk
    obtain ⟨k, rfl⟩ : ∃ m, k = m + 1 := ⟨k - 1, by omega⟩
    have hA : A = [] := List.eq_nil_of_length_eq_zero hd
    subst hA
    simp at hL
    subst hL
    refine Or.inl ⟨hR, ?_⟩
    simp only [enrycommon_lastIndexByte.l0]
    rw [if_neg (by simp)]
  | succ d ih =>
    intro A R k L hd hL hR hn hk
    obtain ⟨k, rfl⟩ : ∃ m, k = m + 1 := ⟨k - 1, by omega⟩
    have h0 : A ≠ [] := fun e => by rw [e] at hd; simp at hd
    obtain ⟨B, x, rfl⟩ : ∃ B x, A = B ++ [x] := ⟨A.dropLast, A.getLast h0, (List.dropLast_concat_getLast h0).symm⟩
    have hB : B.length = d := by simp at hd; exact hd
    have hL2 : L = B ++ x :: R := by rw [hL]; simp
    have hlen : L.length = B.length + (R.length + 1) := by rw [hL2]; simp
    have e1 : ((B ++ [x]).length : Int) - 1 = (B.length : Int) := by simp
    have hx : rd L (B.length : Int) = x := by rw [hL2]; exact rd_mid B R x _ rfl
    rw [e1]
    simp only [enrycommon_lastIndexByte.l0]
    rw [if_pos (by omega), if_pos (by omega), if_pos (by omega), hx]
    by_cases e : x = 10
    · rw [if_pos e]
      exact Or.inr ⟨B, R, by rw [hL2, e], hR, rfl⟩
    · rw [if_neg e, wrap_in (by omega) (by omega)]
      exact ih B (x :: R) k L hB hL2 (by simp; exact ⟨fun q => e q.symm, hR⟩) hn (by omega)

/-- The number of ends of lines. -/
theorem count_tells (o : Int) (R : List Int) : ∀ (A : List Int) (k : Nat) (L : List Int) (n : Int), L = A ++ R → 0 ≤ n → n ≤ A.length → L.length ≤ 300 → R.length < k →
    enrycommon_countByte.l0 k 10 n L (L.length : Int) (A.length : Int) = some (n + (pos o R).length) := by
  induction R generalizing o with
  | nil =>
    intro A k L n hL h0 h1 hn hk
    obtain ⟨k, rfl⟩ : ∃ m, k = m + 1 := ⟨k - 1, by omega⟩
    simp at hL
    subst hL
    simp only [enrycommon_countByte.l0]
    rw [if_neg (by omega)]
    simp [pos]
  | cons x R ih =>
    intro A k L n hL h0 h1 hn hk
    obtain ⟨k, rfl⟩ : ∃ m, k = m + 1 := ⟨k - 1, by omega⟩
    have hlen : L.length = A.length + (R.length + 1) := by rw [hL]; simp
    have hx : rd L (A.length : Int) = x := by rw [hL]; exact rd_mid A R x _ rfl
    have hlt : (A.length : Int) < (L.length : Int) := by omega
    have g : ((A.length : Int) + 1) = ((A ++ [x]).length : Int) := by simp
    simp at hk
    simp only [enrycommon_countByte.l0, pos]
    rw [if_pos hlt, if_pos (by omega), if_pos hlt, hx, wrap_in (i := (A.length : Int) + 1) (by omega) (by omega), g]
    by_cases e : x = 10
    · rw [if_pos e, if_pos e, wrap_in (by omega) (by omega), ih (o + 1) (A ++ [x]) k L (n + 1) (by rw [hL]; simp) (by omega) (by simp; omega) hn (by omega)]
      congr 1
      simp
      omega
    · rw [if_neg e, if_neg e, ih (o + 1) (A ++ [x]) k L n (by rw [hL]; simp) h0 (by simp; omega) hn (by omega)]

/-- The head's end. -/
theorem head_tells (j : Nat) : ∀ (k : Nat) (R : List Int) (o : Int), j ≤ 5 → j ≤ (pos o R).length → 0 ≤ o → o + R.length ≤ 300 → j + 310 < k →
    enrycommon_headScope.l0 k R 5 (o - (5 - (j : Int))) (5 - (j : Int)) = some (if j = 0 then o - 1 else rd (pos o R) ((j : Int) - 1)) := by
  induction j with
  | zero =>
    intro k R o hj hp h0 h1 hk
    have hn : R.length ≤ 300 := by omega
    obtain ⟨k, rfl⟩ : ∃ m, k = m + 1 := ⟨k - 1, by omega⟩
    simp only [enrycommon_headScope.l0]
    rw [if_neg (by omega), if_pos trivial, wrap_in (i := o - (5 - ((0 : Nat) : Int)) + 5) (by omega) (by omega), wrap_in (by omega) (by omega)]
    congr 1
    omega
  | succ j ih =>
    intro k R o hj hp h0 h1 hk
    have hn : R.length ≤ 300 := by omega
    obtain ⟨k, rfl⟩ : ∃ m, k = m + 1 := ⟨k - 1, by omega⟩
    simp only [enrycommon_headScope.l0]
    rw [if_pos (by omega), if_neg (Nat.succ_ne_zero j)]
    unfold enrycommon_indexByte.f
    rcases front_tells R [] k R rfl (by simp) hn (by omega) with ⟨a, _⟩ | ⟨B, S, a, b, c⟩
    · rw [pos_none R a] at hp
      simp at hp
    · simp at c
      rw [c]
      rw [Option.bind_some]
      have hB : B.length + S.length + 1 = R.length := by rw [a]; simp; omega
      have hdrop : R.drop (B.length + 1) = S := by rw [a]; simp
      rw [wrap_in (i := (B.length : Int) + 1) (by omega) (by omega), if_pos (by omega), if_pos (by omega), wrap_in (i := o - (5 - ((j + 1 : Nat) : Int)) + (B.length : Int)) (by omega) (by omega), wrap_in (by omega) (by omega)]
      have e1 : ((B.length : Int) + 1).toNat = B.length + 1 := by omega
      rw [e1, hdrop]
      have hpos : pos o R = (o + B.length) :: pos (o + B.length + 1) S := by rw [a]; exact pos_mid o B S b
      rw [hpos] at hp
      simp only [List.length_cons] at hp
      have H := ih k S (o + B.length + 1) (by omega) (by omega) (by omega) (by omega) (by omega)
      have e2 : o + (B.length : Int) + 1 - (5 - (j : Int)) = o - (5 - ((j + 1 : Nat) : Int)) + (B.length : Int) := by omega
      have e3 : (5 : Int) - (j : Int) = 5 - ((j + 1 : Nat) : Int) + 1 := by omega
      rw [e2, e3] at H
      rw [H, hpos]
      congr 1
      by_cases hj0 : j = 0
      · subst hj0
        rw [if_pos rfl]
        have := rd_mid [] (pos (o + B.length + 1) S) (o + B.length) 0 rfl
        simp at this ⊢
        rw [this]
      · rw [if_neg hj0]
        obtain ⟨m, rfl⟩ : ∃ m, j = m + 1 := ⟨j - 1, by omega⟩
        have e4 : ((m + 1 : Nat) : Int) - 1 = (m : Int) := by omega
        have e5 : ((m + 1 + 1 : Nat) : Int) - 1 = (m : Int) + 1 := by omega
        rw [e4, e5, rd_succ]

/-- The foot's begin. -/
theorem foot_tells (j : Nat) : ∀ (k : Nat) (R : List Int) (x : Int), j ≤ 5 → j ≤ (pos 0 R).length → -1 ≤ x → x ≤ 300 → R.length ≤ 300 → j + 310 < k →
    enrycommon_footScope.l0 k R 5 x (5 - (j : Int)) = some ((if j = 0 then x else rd (pos 0 R) (((pos 0 R).length : Int) - (j : Int))) + 1) := by
  induction j with
  | zero =>
    intro k R x hj hp h0 h1 hn hk
    obtain ⟨k, rfl⟩ : ∃ m, k = m + 1 := ⟨k - 1, by omega⟩
    simp only [enrycommon_footScope.l0]
    rw [if_neg (by omega), if_pos trivial, wrap_in (by omega) (by omega)]
  | succ j ih =>
    intro k R x hj hp h0 h1 hn hk
    obtain ⟨k, rfl⟩ : ∃ m, k = m + 1 := ⟨k - 1, by omega⟩
    simp only [enrycommon_footScope.l0]
    rw [if_pos (by omega), if_neg (Nat.succ_ne_zero j)]
    unfold enrycommon_lastIndexByte.f
    rw [wrap_in (i := (R.length : Int) - 1) (by omega) (by omega)]
    rcases back_tells R.length R [] k R rfl (by simp) (by simp) hn (by omega) with ⟨a, _⟩ | ⟨B, S, a, b, c⟩
    · rw [pos_none R a] at hp
      simp at hp
    · rw [c, Option.bind_some]
      have hB : B.length + S.length + 1 = R.length := by rw [a]; simp; omega
      have htake : R.take B.length = B := by rw [a]; simp
      rw [if_pos (by omega), if_pos (by omega), wrap_in (by omega) (by omega), Int.toNat_natCast, htake]
      have hpos : pos 0 R = pos 0 B ++ [(B.length : Int)] := by
        have z := pos_last 0 B S b
        rw [← a] at z
        rw [z]
        simp
      have hlen : (pos 0 R).length = (pos 0 B).length + 1 := by rw [hpos]; simp
      have H := ih k B (B.length : Int) (by omega) (by omega) (by omega) (by omega) (by omega) (by omega)
      have e3 : (5 : Int) - (j : Int) = 5 - ((j + 1 : Nat) : Int) + 1 := by omega
      rw [e3] at H
      rw [H, hlen, hpos]
      congr 2
      by_cases hj0 : j = 0
      · subst hj0
        rw [if_pos rfl]
        exact (rd_mid (pos 0 B) [] (B.length : Int) _ (by omega)).symm
      · rw [if_neg hj0, rd_left _ _ _ (by omega) (by omega)]
        congr 1
        omega

/-- The reference's loop: the places are gathered. -/
theorem gather_tells (s : ByteArray) (hs : s.size ≤ 300) (d : Nat) : ∀ (k I : Nat) (P : List Int), I ≤ s.size → s.size - I = d → P.length ≤ I →
    spec_Ends.l0 (d + k) s P (s.size : Int) (I : Int) = spec_Ends.l0 k s (P ++ pos (I : Int) ((bytesOf s).drop I)) (s.size : Int) (s.size : Int) := by
  have hB := bytesOf_length s
  induction d with
  | zero =>
    intro k I P h1 hd hP
    obtain rfl : I = s.size := by omega
    have hd0 : (bytesOf s).drop s.size = [] := List.drop_eq_nil_of_le (by omega)
    rw [hd0, Nat.zero_add]
    simp [pos]
  | succ d ih =>
    intro k I P h1 hd hP
    have hI : I < (bytesOf s).length := by omega
    have w1 : wrap64 ((I : Int) + 1) = ((I + 1 : Nat) : Int) := by rw [wrap_in (by omega) (by omega)]; rfl
    rw [show d + 1 + k = (d + k) + 1 by omega, drop_cons (bytesOf s) I hI, rd_bytesOf]
    conv => lhs; unfold spec_Ends.l0
    rw [if_pos (by omega), if_pos (by omega), if_pos (by omega), w1]
    simp only [pos]
    have e1 : (I : Int) + 1 = ((I + 1 : Nat) : Int) := rfl
    by_cases c : bt s (I : Int) = 10
    · rw [if_pos c, if_pos c, if_pos (by omega), ih k (I + 1) (P ++ [(I : Int)]) (by omega) (by omega) (by simp; omega), e1, List.append_assoc]
      rfl
    · rw [if_neg c, if_neg c, ih k (I + 1) P (by omega) (by omega) (by omega), e1]

/-- Where the text is of the signs that the statement speaks of, it is short; the look ends. -/
theorem plainL_tells (s : ByteArray) (hs : s.size ≤ 2147483647) (d : Nat) : ∀ (k : Nat) (i : Int), 0 ≤ i → (s.size : Int) - i = d → d < k →
    ∃ b, laws_plain.l0 k s 300 (s.size : Int) i = some b ∧ (b = true → s.size ≤ 300) := by
  induction d with
  | zero =>
    intro k i h0 hd hk
    obtain ⟨k, rfl⟩ : ∃ m, k = m + 1 := ⟨k - 1, by omega⟩
    simp only [laws_plain.l0]
    rw [if_neg (by omega)]
    exact ⟨_, rfl, fun h => by have := of_decide_eq_true h; omega⟩
  | succ d ih =>
    intro k i h0 hd hk
    obtain ⟨k, rfl⟩ : ∃ m, k = m + 1 := ⟨k - 1, by omega⟩
    obtain ⟨b, hb, H⟩ := ih k (i + 1) (by omega) (by omega) (by omega)
    simp only [laws_plain.l0]
    rw [if_pos (by omega), if_pos h0, if_pos (by omega), wrap_in (by omega) (by omega), hb]
    by_cases c1 : bt s i > 126
    · rw [if_pos c1]; exact ⟨false, rfl, fun h => by cases h⟩
    · rw [if_neg c1]
      by_cases c2 : bt s i < 32
      · rw [if_pos c2]
        by_cases c3 : bt s i = 9
        · rw [if_pos c3]; exact ⟨b, rfl, H⟩
        · rw [if_neg c3]
          by_cases c4 : bt s i = 10
          · rw [if_pos c4]; exact ⟨b, rfl, H⟩
          · rw [if_neg c4]; exact ⟨false, rfl, fun h => by cases h⟩
      · rw [if_neg c2]; exact ⟨b, rfl, H⟩

theorem count_of (L : List Int) (k : Nat) (h : L.length ≤ 300) (hk : 300 < k) : enrycommon_countByte.f k L 10 = some ((pos 0 L).length : Int) := by
  unfold enrycommon_countByte.f
  have H := count_tells 0 L [] k L 0 rfl (by omega) (by omega) h (by omega)
  rw [Int.zero_add] at H
  exact H

/-- Both sides come to the same. -/
theorem ends_tell (s : ByteArray) (hs : s.size ≤ 300) (k : Nat) (hk : 1000 < k) : ∃ r, EndsTo k (bytesOf s) r ∧ spec_Ends.f k s = some (strOfNums r) ∧ r.length ≤ 1000 := by
  have hB := bytesOf_length s
  have hle := pos_le (bytesOf s) 0
  have hc := count_of (bytesOf s) k (by omega) (by omega)
  obtain ⟨k1, hk1⟩ : ∃ k1, k = s.size + (k1 + 1) := ⟨k - s.size - 1, by omega⟩
  have hg := gather_tells s hs s.size (k1 + 1) 0 [] (by omega) (by omega) (by simp)
  rw [← hk1] at hg
  have hspec : spec_Ends.f k s = spec_Ends.l0 (k1 + 1) s (pos 0 (bytesOf s)) (s.size : Int) (s.size : Int) := hg
  rw [hspec]
  unfold spec_Ends.l0
  rw [if_neg (by omega)]
  by_cases hfew : ((pos 0 (bytesOf s)).length : Int) < 10
  · rw [if_pos hfew]
    refine ⟨bytesOf s, ?_, by rw [strOf_bytes], by omega⟩
    by_cases h0 : bytesOf s = []
    · exact Or.inl ⟨h0, h0⟩
    · exact Or.inr (Or.inl ⟨h0, rfl, _, hfew, hc⟩)
  · rw [if_neg hfew]
    have h0 : bytesOf s ≠ [] := fun e => by rw [e] at hfew; simp [pos] at hfew
    obtain ⟨a, ha⟩ : ∃ a : Nat, rd (pos 0 (bytesOf s)) 4 = (a : Int) := ⟨(rd (pos 0 (bytesOf s)) 4).toNat, by
      have := pos_in _ _ _ (rd_in (pos 0 (bytesOf s)) 4 (by omega) (by omega))
      omega⟩
    have ha1 := pos_in _ _ _ (rd_in (pos 0 (bytesOf s)) 4 (by omega) (by omega))
    have hb1 := pos_in _ _ _ (rd_in (pos 0 (bytesOf s)) (((pos 0 (bytesOf s)).length : Int) - 5) (by omega) (by omega))
    obtain ⟨b, hb⟩ : ∃ b : Nat, rd (pos 0 (bytesOf s)) (((pos 0 (bytesOf s)).length : Int) - 5) + 1 = (b : Int) := ⟨(rd (pos 0 (bytesOf s)) (((pos 0 (bytesOf s)).length : Int) - 5) + 1).toNat, by omega⟩
    have w5 : wrap64 (((pos 0 (bytesOf s)).length : Int) - 5) = ((pos 0 (bytesOf s)).length : Int) - 5 := wrap_in (by omega) (by omega)
    rw [w5, wrap_in (i := rd (pos 0 (bytesOf s)) (((pos 0 (bytesOf s)).length : Int) - 5) + 1) (by omega) (by omega), hb, ha]
    rw [ha] at ha1
    have hle1 : (s.extract 0 a).size ≤ 300 := by
      rw [← bytesOf_length, bytes_extract, List.length_take, List.length_drop]
      omega
    have hle2 : (s.extract b s.size).size ≤ 300 := by
      rw [← bytesOf_length, bytes_extract, List.length_take, List.length_drop]
      omega
    rw [if_pos (by omega), if_pos (by omega), if_pos (by omega), if_pos (by omega), if_pos (by omega), if_pos (by omega), if_pos (by omega), Int.toNat_natCast, Int.toNat_natCast, if_pos (by omega)]
    refine ⟨(bytesOf s).take a ++ (bytesOf s).drop b, ?_, ?_, ?_⟩
    · refine Or.inr (Or.inr ⟨h0, _, a, b, by omega, by omega, by omega, rfl, hc, ?_, ?_⟩)
      · have H := head_tells 5 k (bytesOf s) 0 (by omega) (by omega) (by omega) (by omega) (by omega)
        unfold enrycommon_headScope.f
        rw [if_neg (by omega)] at H
        rw [← ha]
        exact H
      · have H := foot_tells 5 k (bytesOf s) 0 (by omega) (by omega) (by omega) (by omega) (by omega) (by omega)
        unfold enrycommon_footScope.f
        rw [if_neg (by omega)] at H
        rw [← hb]
        exact H
    · congr 1
      rw [← strOf_bytes (s.extract 0 a ++ s.extract b s.size), bytes_append, bytes_extract, bytes_extract, List.drop_zero, Nat.sub_zero]
      congr 2
      rw [List.take_of_length_le]
      rw [List.length_drop]
      omega
    · rw [List.length_append, List.length_take, List.length_drop]
      omega

theorem ends_one (k : Nat) (hk : 1000 < k) : EndsTo k [97] [97] := by
  refine Or.inr (Or.inl ⟨by simp, rfl, 0, by omega, ?_⟩)
  exact count_of [97] k (by simp) (by omega)

end Go.Proofs.Ytcjppgeblibkcaa.Mine
