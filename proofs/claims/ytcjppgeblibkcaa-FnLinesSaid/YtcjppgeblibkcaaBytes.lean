/- Plain lemmas on bytes and lists: a string's bytes, their parts, reading at a place. No conditions but those that each lemma names. -/
import Derived.Test.YtcjppgeblibkcaaClone
import Derived.Lib.Strings
namespace Go.Proofs.Ytcjppgeblibkcaa.Mine
open Go.RowKit Go.Proofs.YtcjppgeblibkcaaW.PrintWords

theorem wrap_in {i : Int} (h0 : -9223372036854775808 ≤ i) (h : i ≤ 9223372036854775807) : wrap64 i = i := by
  unfold wrap64
  omega

theorem rd_mid (A R : List Int) (x i : Int) (h : i = A.length) : rd (A ++ x :: R) i = x := by
  unfold rd
  have e : i.toNat = A.length := by omega
  rw [e, List.getD_eq_getElem?_getD, List.getElem?_append_right (Nat.le_refl _)]
  simp

theorem strOf_bytes (s : ByteArray) : strOfNums (bytesOf s) = s := by
  have h : (strOfNums (bytesOf s)).data = s.data := by
    apply Array.toList_inj.1
    rw [strOfNums_data]
    unfold bytesOf
    rw [List.map_map]
    have : ((fun n : Int => UInt8.ofNat n.toNat) ∘ fun b : UInt8 => (b.toNat : Int)) = id := by
      funext b
      simp
    rw [this, List.map_id]
  cases s
  exact congrArg ByteArray.mk h

theorem bytes_append (s t : ByteArray) : bytesOf (s ++ t) = bytesOf s ++ bytesOf t := by
  unfold bytesOf
  rw [← List.map_append]
  simp

theorem bytes_extract (s : ByteArray) (a b : Nat) : bytesOf (s.extract a b) = ((bytesOf s).drop a).take (b - a) := by
  unfold bytesOf
  rw [Lib.extract_data, List.map_take, List.map_drop]

theorem bytes_nil : bytesOf (⟨#[]⟩ : ByteArray) = [] := rfl

/-- A part of a list, one longer. -/
theorem part_snoc (B : List Int) (F I : Nat) (h : F ≤ I) (h' : I < B.length) : (B.drop F).take (I + 1 - F) = (B.drop F).take (I - F) ++ [rd B I] := by
  have e : I + 1 - F = (I - F) + 1 := by omega
  have hl : I - F < (B.drop F).length := by rw [List.length_drop]; omega
  rw [e, List.take_succ_eq_append_getElem hl]
  congr 2
  unfold rd
  rw [List.getElem_drop, List.getD_eq_getElem?_getD]
  have e2 : F + (I - F) = I := by omega
  have e3 : ((I : Int)).toNat = I := by omega
  rw [e3, List.getElem?_eq_getElem h']
  simp [e2]

theorem drop_cons (B : List Int) (I : Nat) (h : I < B.length) : B.drop I = rd B I :: B.drop (I + 1) := by
  rw [List.drop_eq_getElem_cons h]
  congr 1
  unfold rd
  have e3 : ((I : Int)).toNat = I := by omega
  rw [e3, List.getD_eq_getElem?_getD, List.getElem?_eq_getElem h]
  rfl

end Go.Proofs.Ytcjppgeblibkcaa.Mine
