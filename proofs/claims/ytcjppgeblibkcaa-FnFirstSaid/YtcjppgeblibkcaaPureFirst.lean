/- The first lines of a text by the package's function are those by the reference: both are 'cut'. Conditions: at most 300 bytes, a number of lines that is not negative. -/
import Derived.Test.YtcjppgeblibkcaaBytes
import Derived.Test.YtcjppgeblibkcaaFirst
namespace Go.Proofs.Ytcjppgeblibkcaa.Mine
open Go.RowKit Go.Proofs.YtcjppgeblibkcaaW.PrintWords Go.Proofs.Ytcjppgeblibkcaa.PFnFirst

/-- So many lines at the front, without the last end of a line. -/
def cut : Nat → List Int → List Int
  | 0, _ => []
  | _ + 1, [] => []
  | n + 1, x :: R => if x = 10 then (if n = 0 then [] else 10 :: cut n R) else x :: cut (n + 1) R

/-- The lines, each with its end; A: what stands of the first one. -/
def lns : List Int → List Int → List (List Int)
  | A, [] => if A = [] then [] else [A]
  | A, x :: R => if x = 10 then (A ++ [10]) :: lns [] R else lns (A ++ [x]) R

/-- So many of some lines, the last end left out. -/
def sel : Nat → List (List Int) → List Int
  | 0, _ => []
  | _ + 1, [] => []
  | m + 1, l :: ls => (if m = 0 ∧ rd l ((l.length : Int) - 1) = 10 then l.take (l.length - 1) else l) ++ sel m ls

theorem rd_last (A : List Int) (x : Int) : rd (A ++ [x]) (((A ++ [x]).length : Int) - 1) = x := by
  apply rd_mid
  simp

theorem rd_last_ne (A : List Int) (h : 10 ∉ A) (h0 : A ≠ []) : rd A ((A.length : Int) - 1) ≠ 10 := by
  have hA := List.dropLast_concat_getLast h0
  intro e
  rw [← hA, rd_last] at e
  exact h (e ▸ List.getLast_mem h0)

theorem sel_lns (R : List Int) : ∀ (n : Nat) (A : List Int), 10 ∉ A → sel (n + 1) (lns A R) = A ++ cut (n + 1) R := by
  induction R with
  | nil =>
    intro n A hA
    unfold lns cut
    by_cases h : A = []
    · rw [if_pos h, h]; rfl
    · rw [if_neg h]
      unfold sel
      rw [if_neg (fun g => rd_last_ne A hA h g.2)]
      cases n <;> simp [sel]
  | cons x R ih =>
    intro n A hA
    unfold lns cut
    by_cases h : x = 10
    · rw [if_pos h, if_pos h]
      unfold sel
      by_cases hn : n = 0
      · subst hn
        rw [if_pos ⟨rfl, rd_last A 10⟩, if_pos rfl]
        simp [sel]
      · obtain ⟨m, rfl⟩ : ∃ m, n = m + 1 := ⟨n - 1, by omega⟩
        rw [if_neg (fun g => hn g.1), if_neg hn, ih m [] (by simp)]
        simp
    · rw [if_neg h, if_neg h, ih n (A ++ [x]) (by simp; exact ⟨hA, fun g => h g.symm⟩)]
      simp

theorem lns_size (R : List Int) : ∀ (A : List Int), (lns A R).length ≤ A.length + R.length ∧ ∀ l ∈ lns A R, 0 < l.length ∧ l.length ≤ A.length + R.length := by
  induction R with
  | nil =>
    intro A
    unfold lns
    by_cases h : A = []
    · rw [if_pos h]; simp
    · rw [if_neg h]
      have := List.length_pos_iff.2 h
      simp
      omega
  | cons x R ih =>
    intro A
    unfold lns
    by_cases h : x = 10
    · rw [if_pos h]
      obtain ⟨a, b⟩ := ih []
      refine ⟨by simp at a ⊢; omega, fun l hl => ?_⟩
      rcases List.mem_cons.1 hl with rfl | hl
      · simp
      · have := b l hl
        simp at this ⊢
        omega
    · rw [if_neg h]
      obtain ⟨a, b⟩ := ih (A ++ [x])
      refine ⟨by simp at a ⊢; omega, fun l hl => ?_⟩
      have := b l hl
      simp at this ⊢
      omega

theorem cut_no (R : List Int) (h : 10 ∉ R) (n : Nat) : cut (n + 1) R = R := by
  induction R with
  | nil => rfl
  | cons x R ih =>
    simp at h
    unfold cut
    rw [if_neg (fun e => h.1 e.symm), ih h.2]

theorem cut_at (A R : List Int) (h : 10 ∉ A) (n : Nat) : cut (n + 1) (A ++ 10 :: R) = A ++ (if n = 0 then [] else 10 :: cut n R) := by
  induction A with
  | nil => simp [cut]
  | cons x A ih =>
    simp at h
    rw [List.cons_append]
    conv => lhs; unfold cut
    rw [if_neg (fun e => h.1 e.symm), ih h.2]
    rfl

theorem cut_le (R : List Int) : ∀ n, (cut n R).length ≤ R.length := by
  induction R with
  | nil => intro n; cases n <;> simp [cut]
  | cons x R ih =>
    intro n
    cases n with
    | zero => simp [cut]
    | succ n =>
      unfold cut
      by_cases h : x = 10
      · rw [if_pos h]
        by_cases hn : n = 0
        · rw [if_pos hn]; simp
        · rw [if_neg hn]; have := ih n; simp; omega
      · rw [if_neg h]; have := ih (n + 1); simp; omega

/-- The search: no end of a line, or the first one. -/
theorem index_tells (c : Int) (R : List Int) : ∀ (A : List Int) (k : Nat) (L : List Int), L = A ++ R → c ∉ A → L.length ≤ 300 → R.length < k →
    (c ∉ L ∧ enrycommon_indexByte.l0 k c L (L.length : Int) (A.length : Int) = some (-1)) ∨
    (∃ B S, L = B ++ c :: S ∧ c ∉ B ∧ enrycommon_indexByte.l0 k c L (L.length : Int) (A.length : Int) = some (B.length : Int)) := by
  induction R with
  | nil =>
    intro A k L hL hA hn hk
    obtain ⟨k, rfl⟩ : ∃ m, k = m + 1 := ⟨k - 1, by omega⟩
    simp at hL
    subst hL
    refine Or.inl ⟨hA, ?_⟩
    simp only [enrycommon_indexByte.l0]
    rw [if_neg (by omega)]
  | cons x R ih =>
    intro A k L hL hA hn hk
    obtain ⟨k, rfl⟩ : ∃ m, k = m + 1 := ⟨k - 1, by omega⟩
    have hlen : L.length = A.length + (R.length + 1) := by rw [hL]; simp
    have hx : rd L (A.length : Int) = x := by rw [hL]; exact rd_mid A R x _ rfl
    have hlt : (A.length : Int) < (L.length : Int) := by omega
    simp only [enrycommon_indexByte.l0]
    rw [if_pos hlt, if_pos (by omega), if_pos hlt, hx]
    by_cases e : x = c
    · rw [if_pos e]
      exact Or.inr ⟨A, R, by rw [hL, e], hA, rfl⟩
    · rw [if_neg e, wrap_in (by omega) (by omega)]
      have g : ((A.length : Int) + 1) = ((A ++ [x]).length : Int) := by simp
      rw [g]
      exact ih (A ++ [x]) k L (by rw [hL]; simp) (by simp; exact ⟨hA, fun q => e q.symm⟩) hn (by simp at hk; omega)

/-- The package's function is 'cut'. -/
theorem get_tells (n : Nat) : ∀ (k : Nat) (P R : List Int), n ≤ 1000 → (P ++ R).length ≤ 300 → n + 310 < k →
    enrycommon_getFirstLines.l0 k (P ++ R) ((n : Int) + 1) ((P.length : Int) - 1) = some (P ++ cut (n + 1) R) := by
  induction n with
  | zero =>
    intro k P R hs hn hk
    obtain ⟨k, rfl⟩ : ∃ m, k = m + 2 := ⟨k - 2, by omega⟩
    have hl := hn
    rw [List.length_append] at hl
    conv => lhs; unfold enrycommon_getFirstLines.l0
    rw [if_pos (by omega), wrap_in (by omega) (by omega), if_pos (by omega), if_pos (by rw [List.length_append]; omega)]
    have e : ((P.length : Int) - 1 + 1).toNat = P.length := by omega
    rw [e, List.drop_left]
    unfold enrycommon_indexByte.f
    rcases index_tells 10 R [] (k + 1) R rfl (by simp) (by omega) (by omega) with ⟨a, b⟩ | ⟨B, S, a, b, c⟩
    · simp at b
      rw [b]
      simp only [Option.bind_some]
      rw [if_pos (by omega), cut_no R a]
    · simp at c
      rw [c]
      simp only [Option.bind_some]
      have hB : B.length + S.length + 1 = R.length := by rw [a]; simp; omega
      rw [if_neg (by omega), wrap_in (i := (B.length : Int) + 1) (by omega) (by omega), wrap_in (i := (P.length : Int) - 1 + ((B.length : Int) + 1)) (by omega) (by omega), wrap_in (by omega) (by omega)]
      unfold enrycommon_getFirstLines.l0
      rw [if_neg (by omega), if_pos (by omega), if_pos (by rw [List.length_append]; omega)]
      have e2 : ((P.length : Int) - 1 + ((B.length : Int) + 1)).toNat = P.length + B.length := by omega
      rw [e2, List.take_length_add_append, a, List.take_left, cut_at B S b]
      simp
  | succ n ih =>
    intro k P R hs hn hk
    obtain ⟨k, rfl⟩ : ∃ m, k = m + 1 := ⟨k - 1, by omega⟩
    have hl := hn
    rw [List.length_append] at hl
    conv => lhs; unfold enrycommon_getFirstLines.l0
    rw [if_pos (by omega), wrap_in (by omega) (by omega), if_pos (by omega), if_pos (by rw [List.length_append]; omega)]
    have e : ((P.length : Int) - 1 + 1).toNat = P.length := by omega
    rw [e, List.drop_left]
    unfold enrycommon_indexByte.f
    rcases index_tells 10 R [] k R rfl (by simp) (by omega) (by omega) with ⟨a, b⟩ | ⟨B, S, a, b, c⟩
    · simp at b
      rw [b]
      simp only [Option.bind_some]
      rw [if_pos (by omega), cut_no R a]
    · simp at c
      rw [c]
      simp only [Option.bind_some]
      have hB : B.length + S.length + 1 = R.length := by rw [a]; simp; omega
      rw [if_neg (by omega), wrap_in (i := (B.length : Int) + 1) (by omega) (by omega), wrap_in (i := (P.length : Int) - 1 + ((B.length : Int) + 1)) (by omega) (by omega), wrap_in (i := ((n + 1 : Nat) : Int) + 1 - 1) (by omega) (by omega)]
      have H := ih k (P ++ (B ++ [10])) S (by omega) (by rw [a] at hn; simp at hn ⊢; omega) (by omega)
      have e1 : P ++ (B ++ [10]) ++ S = P ++ R := by rw [a]; simp
      have e2 : ((P ++ (B ++ [10])).length : Int) - 1 = (P.length : Int) - 1 + ((B.length : Int) + 1) := by simp; omega
      have e3 : ((n + 1 : Nat) : Int) + 1 - 1 = (n : Int) + 1 := by omega
      rw [e1, e2] at H
      rw [e3, H, a, cut_at B S b]
      simp

theorem first_tells (n k : Nat) (L : List Int) (hL : L.length ≤ 300) (hn : n ≤ 1000) (hk : n + 310 < k) : firstOf k L (n : Int) = some (cut n L) := by
  unfold firstOf
  cases n with
  | zero => rw [if_pos (show ((0 : Nat) : Int) = 0 from rfl)]; simp [cut]
  | succ n =>
    rw [if_neg (by omega)]
    unfold enrycommon_ZZFirstLines.f enrycommon_getFirstLines.f
    have H := get_tells n k [] L (by omega) hL (by omega)
    rw [show ((n + 1 : Nat) : Int) = (n : Int) + 1 from rfl]
    simp at H
    rw [H]
    rfl

/-- Where the text is of the signs that the statement speaks of, it is short; the look ends. -/
theorem plain_tells (s : ByteArray) (hs : s.size ≤ 2147483647) (d : Nat) : ∀ (k : Nat) (i : Int), 0 ≤ i → (s.size : Int) - i = d → d < k →
    ∃ b, laws_plain.l0 k s 300 (s.size : Int) i = some b ∧ (b = true → s.size ≤ 300) := by
  induction d with
  | zero =>
    intro k i h0 hd hk
    obtain ⟨k, rfl⟩ : ∃ m, k = m + 1 := ⟨k - 1, by omega⟩
    simp only [laws_plain.l0]
    rw [if_neg (by omega)]
    exact ⟨_, rfl, fun h => by have := of_decide_eq_true h; omega⟩
  | succ d ih =>
    intro k i h0 hd hk
    obtain ⟨k, rfl⟩ : ∃ m, k = m + 1 := ⟨k - 1, by omega⟩
    obtain ⟨b, hb, H⟩ := ih k (i + 1) (by omega) (by omega) (by omega)
    simp only [laws_plain.l0]
    rw [if_pos (by omega), if_pos h0, if_pos (by omega), wrap_in (by omega) (by omega), hb]
    by_cases c1 : bt s i > 126
    · rw [if_pos c1]; exact ⟨false, rfl, fun h => by cases h⟩
    · rw [if_neg c1]
      by_cases c2 : bt s i < 32
      · rw [if_pos c2]
        by_cases c3 : bt s i = 9
        · rw [if_pos c3]; exact ⟨b, rfl, H⟩
        · rw [if_neg c3]
          by_cases c4 : bt s i = 10
          · rw [if_pos c4]; exact ⟨b, rfl, H⟩
          · rw [if_neg c4]; exact ⟨false, rfl, fun h => by cases h⟩
      · rw [if_neg c2]; exact ⟨b, rfl, H⟩

/-- The reference's lines. -/
theorem lines_tells (s : ByteArray) (hs : s.size ≤ 300) (d : Nat) : ∀ (k F I : Nat) (ls : List ByteArray), F ≤ I → I ≤ s.size → s.size - I = d → ls.length ≤ I → d < k →
    ∃ qs, spec_lines.l0 k s ls (F : Int) (s.size : Int) (I : Int) = some (ls ++ qs) ∧ qs.map bytesOf = lns (((bytesOf s).drop F).take (I - F)) ((bytesOf s).drop I) := by
  have hB := bytesOf_length s
  induction d with
  | zero =>
    intro k F I ls h1 h2 hd hls hk
    obtain ⟨k, rfl⟩ : ∃ m, k = m + 1 := ⟨k - 1, by omega⟩
    obtain rfl : I = s.size := by omega
    simp only [spec_lines.l0]
    rw [if_neg (by omega)]
    have hd0 : (bytesOf s).drop s.size = [] := List.drop_eq_nil_of_le (by omega)
    rw [hd0]
    unfold lns
    by_cases g : (F : Int) < (s.size : Int)
    · rw [if_pos g, if_pos (by omega), if_pos (by omega), if_pos (by omega)]
      refine ⟨[s.extract F s.size], rfl, ?_⟩
      rw [List.map_singleton, bytes_extract, if_neg]
      intro e
      have := congrArg List.length e
      rw [List.length_take, List.length_drop] at this
      simp at this
      omega
    · rw [if_neg g]
      refine ⟨[], by simp, ?_⟩
      rw [if_pos]
      · rfl
      · have : s.size - F = 0 := by omega
        rw [this, List.take_zero]
  | succ d ih =>
    intro k F I ls h1 h2 hd hls hk
    obtain ⟨k, rfl⟩ : ∃ m, k = m + 1 := ⟨k - 1, by omega⟩
    have hI : I < (bytesOf s).length := by omega
    have w1 : wrap64 ((I : Int) + 1) = ((I + 1 : Nat) : Int) := by rw [wrap_in (by omega) (by omega)]; rfl
    simp only [spec_lines.l0]
    rw [if_pos (by omega), if_pos (by omega), if_pos (by omega), w1, drop_cons (bytesOf s) I hI, rd_bytesOf]
    conv => rhs; intro qs; rhs; rhs; unfold lns
    by_cases c : bt s (I : Int) = 10
    · rw [if_pos c, if_pos (by omega), if_pos (by omega), if_pos (by omega), if_pos (by omega)]
      obtain ⟨qs, a, b⟩ := ih k (I + 1) (I + 1) (ls ++ [s.extract F (I + 1)]) (Nat.le_refl _) (by omega) (by omega) (by simp; omega) (by omega)
      have e1 : ((F : Int)).toNat = F := by omega
      have e2 : (((I + 1 : Nat) : Int)).toNat = I + 1 := by omega
      rw [e1, e2, a]
      refine ⟨s.extract F (I + 1) :: qs, by simp, ?_⟩
      rw [List.map_cons, b, bytes_extract, part_snoc _ _ _ h1 hI, rd_bytesOf, c, if_pos rfl]
      simp
    · rw [if_neg c, if_neg c]
      obtain ⟨qs, a, b⟩ := ih k F (I + 1) ls (by omega) (by omega) (by omega) (by omega) (by omega)
      refine ⟨qs, a, ?_⟩
      rw [b, part_snoc _ _ _ h1 hI, rd_bytesOf]

/-- The reference's choice of lines. -/
theorem sel_tells (n : Nat) (hn : n ≤ 1000) (Q : List ByteArray) : ∀ (k : Nat) (P : List ByteArray) (ls : List ByteArray) (out : ByteArray), ls = P ++ Q → ls.length ≤ 300 → (∀ l ∈ ls, 0 < l.size ∧ l.size ≤ 300) → out.size ≤ 300 * P.length → 2 * Q.length + 1 < k →
    ∃ q, spec_First.l0 k (n : Int) out ls (ls.length : Int) (P.length : Int) = some q ∧ bytesOf q = bytesOf out ++ sel (n - P.length) (Q.map bytesOf) := by
  induction Q with
  | nil =>
    intro k P ls out hls hl hm ho hk
    obtain ⟨k, rfl⟩ : ∃ m, k = m + 1 := ⟨k - 1, by omega⟩
    simp at hls
    subst hls
    simp only [spec_First.l0]
    rw [if_neg (by omega)]
    refine ⟨out, rfl, ?_⟩
    cases n - ls.length <;> simp [sel]
  | cons l Q ih =>
    intro k P ls out hls hl hm ho hk
    simp at hk
    obtain ⟨k, rfl⟩ : ∃ m, k = m + 2 := ⟨k - 2, by omega⟩
    have hlen : ls.length = P.length + (Q.length + 1) := by rw [hls]; simp
    have hx : rdOf ByteArray.empty ls (P.length : Int) = l := by
      unfold rdOf
      rw [hls, List.getD_eq_getElem?_getD, Int.toNat_natCast, List.getElem?_append_right (Nat.le_refl _)]
      simp
    obtain ⟨m0, m1⟩ := hm l (by rw [hls]; simp)
    have w1 : wrap64 ((P.length : Int) + 1) = ((P ++ [l]).length : Int) := by rw [wrap_in (by omega) (by omega)]; simp
    have w2 : wrap64 ((n : Int) - 1) = (n : Int) - 1 := wrap_in (by omega) (by omega)
    have w3 : wrap64 ((l.size : Int) - 1) = (l.size : Int) - 1 := wrap_in (by omega) (by omega)
    have hb := bytesOf_length l
    have step : ∀ y : ByteArray, y.size ≤ 300 → (P.length < n) → bytesOf y = (if n - P.length - 1 = 0 ∧ rd (bytesOf l) (((bytesOf l).length : Int) - 1) = 10 then (bytesOf l).take ((bytesOf l).length - 1) else bytesOf l) →
        ∃ q, spec_First.l0 k (n : Int) (out ++ y) ls (ls.length : Int) ((P ++ [l]).length : Int) = some q ∧ bytesOf q = bytesOf out ++ sel (n - P.length) ((l :: Q).map bytesOf) := by
      intro y hy hlt he
      obtain ⟨q, a, b⟩ := ih k (P ++ [l]) ls (out ++ y) (by rw [hls]; simp) hl hm (by rw [ByteArray.size_append]; simp; omega) (by omega)
      refine ⟨q, a, ?_⟩
      obtain ⟨m, hmm⟩ : ∃ m, n - P.length = m + 1 := ⟨n - P.length - 1, by omega⟩
      have hm2 : n - (P ++ [l]).length = m := by simp; omega
      rw [b, bytes_append, he, hm2, hmm]
      conv => rhs; rhs; rw [List.map_cons]; unfold sel
      simp
    have skip : ¬ P.length < n →
        ∃ q, spec_First.l0 k (n : Int) out ls (ls.length : Int) ((P ++ [l]).length : Int) = some q ∧ bytesOf q = bytesOf out ++ sel (n - P.length) ((l :: Q).map bytesOf) := by
      intro hge
      obtain ⟨q, a, b⟩ := ih k (P ++ [l]) ls out (by rw [hls]; simp) hl hm (by simp; omega) (by omega)
      refine ⟨q, a, ?_⟩
      have z1 : n - P.length = 0 := by omega
      have z2 : n - (P ++ [l]).length = 0 := by simp; omega
      rw [b, z1, z2]
      simp [sel]
    conv => rhs; intro q; lhs; lhs; unfold spec_First.l0
    rw [if_pos (by omega), if_pos (by omega), if_pos (by omega), hx, w2, w3]
    by_cases c : (P.length : Int) = (n : Int) - 1
    · rw [if_pos c, if_pos (by omega), if_pos (by omega)]
      have hlt : P.length < n := by omega
      have hz : n - P.length - 1 = 0 := by omega
      unfold spec_First.j1
      rw [w1, w3]
      have hrd : bt l ((l.size : Int) - 1) = rd (bytesOf l) (((bytesOf l).length : Int) - 1) := by rw [hb, rd_bytesOf]
      by_cases c2 : bt l ((l.size : Int) - 1) = 10
      · rw [if_pos (by rw [c2]; rfl), if_pos (by omega), if_pos (by omega), if_pos (by omega)]
        have ey : (l.extract 0 ((l.size : Int) - 1).toNat).size = l.size - 1 := by
          rw [← bytesOf_length, bytes_extract, List.length_take, List.drop_zero, hb]
          omega
        rw [if_pos (by omega)]
        refine step _ (by omega) hlt ?_
        rw [if_pos ⟨hz, by rw [← hrd]; exact c2⟩, bytes_extract, hb, List.drop_zero]
        congr 1
        omega
      · rw [if_neg (by simpa using c2), if_pos (by omega), if_pos (by omega)]
        refine step _ (by omega) hlt ?_
        rw [if_neg (fun g => c2 (hrd.trans g.2))]
    · rw [if_neg c]
      unfold spec_First.j1
      rw [w1, if_neg (by decide)]
      by_cases hlt : P.length < n
      · rw [if_pos (by omega), if_pos (by omega)]
        refine step _ (by omega) hlt ?_
        rw [if_neg (fun g => by omega)]
      · rw [if_neg (by omega)]
        exact skip hlt

theorem spec_tells (s : ByteArray) (hs : s.size ≤ 300) (n k : Nat) (hn : n ≤ 1000) (hk : 1000 < k) : spec_First.f k s (n : Int) = some (strOfNums (cut n (bytesOf s))) := by
  obtain ⟨qs, a, b⟩ := lines_tells s hs s.size k 0 0 [] (Nat.le_refl _) (by omega) (by omega) (by simp) (by omega)
  simp at a b
  have hb := bytesOf_length s
  obtain ⟨z1, z2⟩ := lns_size (bytesOf s) []
  rw [← b] at z1 z2
  simp at z1 z2
  obtain ⟨q, c, d⟩ := sel_tells n hn qs k [] qs ⟨#[]⟩ rfl (by omega) (fun l hl => by
    have := z2 l hl
    rw [bytesOf_length] at this
    omega) (Nat.zero_le _) (by omega)
  unfold spec_First.f spec_lines.f
  simp at c d
  rw [a]
  simp only [Option.bind_some]
  rw [c]
  congr 1
  rw [← strOf_bytes q, d, b, bytes_nil]
  cases n with
  | zero => simp [sel, cut]
  | succ n => rw [sel_lns _ _ _ (by simp)]; simp

end Go.Proofs.Ytcjppgeblibkcaa.Mine
