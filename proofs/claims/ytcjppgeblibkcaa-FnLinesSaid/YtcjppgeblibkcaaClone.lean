/- slices.Clone of bytes hands back a new row that reads as its argument; what lay in memory stays as it was. Conditions: at most 100000 bytes. -/
import Derived.Below
import Derived.Deep.Draws
import Derived.Deep.AppendLies
import Derived.Maps.AppendAt
import Derived.OwnWalk
import Derived.Laws.BytesArg
import Derived.Laws.MakeOwn
import Derived.Laws.OwnMore
import Derived.Deep.OwnRows
import Derived.Tactics
import Derived.Lib.ConvBytes
import Derived.Laws.Slices
import Derived.WalkKit
import Derived.KernelRfl
import Derived.RowKit3
import Derived.Deep.LoopGhost
import Derived.Deep.QuietTactic
import Derived.BigQuiet
import Derived.WideLaws
import Derived.Deep.DeepCutAuto
import Derived.Deep.CutBlock
import Derived.Deep.RegionHeld3
import Derived.Laws.Rows
import Derived.Lib.AppendStr
import Derived.ArgAppend
import Derived.Laws.IdiomCopy
import Derived.OrdersHeld
import Derived.Laws.BitsLemmas
import Derived.RowKit
import Derived.Test.YtcjppgeblibkcaaWWords
import Derived.Test.YtcjppgeblibkcaaWLast
import Derived.Test.YtcjppgeblibkcaaWTab
import Derived.Test.YtcjppgeblibkcaaWFour
import Derived.Test.YtcjppgeblibkcaaWQPut
import Derived.Test.YtcjppgeblibkcaaWApart
import Derived.Test.YtcjppgeblibkcaaWArr
import Derived.Test.YtcjppgeblibkcaaWZeros
import Derived.Test.YtcjppgeblibkcaaWFoot
import Derived.Test.YtcjppgeblibkcaaWKept
import Derived.Test.YtcjppgeblibkcaaWShare
import Derived.Test.YtcjppgeblibkcaaWN
import Derived.Test.YtcjppgeblibkcaaWFootNe
import Derived.Test.YtcjppgeblibkcaaWAt
import Derived.Test.YtcjppgeblibkcaaWEqStruct
import Derived.Test.YtcjppgeblibkcaaWRepsOne
import Derived.Test.YtcjppgeblibkcaaWInv
import Derived.Test.YtcjppgeblibkcaaWInvWords
import Derived.Test.YtcjppgeblibkcaaWGuard
import Derived.Test.YtcjppgeblibkcaaWNEv
import Derived.Test.YtcjppgeblibkcaaWMore
import Derived.Test.YtcjppgeblibkcaaProg
import Derived.Lib.SliceRun
import Derived.Lib.SlBytesConst
namespace Go.Proofs.Ytcjppgeblibkcaa.Mine
open Go.RowKit Go.Proofs.YtcjppgeblibkcaaW.PrintWords Go.Proofs.YtcjppgeblibkcaaW.PrintLast Go.Proofs.YtcjppgeblibkcaaW.PrintMore

theorem inf5 : (Try.prog.info? 5).map (fun i => (i.zero, i.size, i.bytes)) = some (some (.int .u8 0), 1, 1) := by kernel_rfl

/-- A literal of bytes reads as its numbers, its row marked as a conversion's or not. -/
theorem lit_reads (W : World) (xs : List Int) (fr : Nat × Nat) (hm : xs.length ≤ 9223372036854775807) : ReadsInt (W.alloc (.cells (nums .u8 xs).toArray 5 fr)) .u8 (some ⟨W.heap.size, 0, none⟩) xs.length xs := by
  refine ⟨rfl, hm, fun _ => ⟨_, rfl, fun j hj => ?_⟩⟩
  rw [add_plain, World.cell?_alloc_mark]
  simp [nums, List.getElem?_eq_getElem hj, List.getD_eq_getElem?_getD]

/-- A row of bytes made into a string: at its own world, and at every later one. -/
theorem row_string {w w1 : World} {B : Nat} {v : Value} {xs : List Int} {q : ByteArray} (h : w.ownsRow B 5 1 v xs.length (nums .u8 xs)) (hb : Below w.heap.size w w1) (hq : strOfNums xs = q) : (convert 23 9 v).run Try.prog w1 = .ok (.string q) w1 := by
  rw [← hq]
  exact own_string Try.underlying23 Try.underlying5 Try.underlying9 (pw_own_below h hb)

set_option maxHeartbeats 1000000 in
set_option maxRecDepth 100000 in
theorem clone_calls (A0 : Option Addr) (c0 : Nat) (l : List Int) (w : World) (hc : Kd.C (Kd.int .u8) w A0 l.length l) (hl : l.length ≤ 100000) :
    Calls Try.prog 13 #[.slice A0 l.length c0] w fun e w' => ∃ v : Value, e = .returned v ∧ Kd.R (Kd.int .u8) 5 w' w.heap.size (fun _ => True) v l ∧ Below w.heap.size w w' := by
  have hq := fun (W : World) => Lib.run_eql_slice_nil (P := Try.prog) W 23 5 A0 l.length c0 0 0 Try.underlying23
  have HL := Aside0.mk hl
  have HC := Aside0.mk hc
  clear hl hc
  rcases A0 with _ | ad
  · have h0 : l = [] := by
      rcases Nat.eq_zero_or_pos l.length with h | h
      · exact List.eq_nil_of_length_eq_zero h
      · obtain ⟨_, e, _⟩ := (Kd.reads_of_C (d := (0 : Int)) HC.out).2.2 h
        cases e
    have H0 := Aside0.mk h0
    clear h0
    go_enter Try.func13, Try.ntmps13
    go_wp2
    go_ret
    exact ⟨_, rfl, by rw [H0.out]; exact Kd.R_nil _ _ _ _ _, Below.refl _ _⟩
  · go_enter Try.func13, Try.ntmps13
    go_wp2_with (at_builtin; refine print_append_row (w0 := w) w.heap.size rfl _ _ 23 5 .u8 1 rfl Try.underlying23 inf5 (by decide) (.slice (some ⟨w.heap.size, 0, none⟩) 0 0) [] l (some ad) l.length c0 rfl rfl ?c1 ?c2 ?c3 ?c4 ?c5 ?_; (case c1 => exact own_lit w w.heap.size 5 .u8 [] (Nat.le_refl _) (by decide)); (case c2 => exact Kd.reads_of_C (Kd.C_below HC.out (below_alloc (Below.refl _ _) _))); (case c3 => exact below_alloc (Below.refl _ _) _); (case c4 => simp); (case c5 => have := HL.out; simp; omega); intro v1 w1 hown hb _ _; have HO := Aside0.mk hown; have HB := Aside0.mk hb; clear hown hb)
    go_ret
    exact ⟨_, rfl, Kd.R_of_own HO.out (fun _ _ => trivial), HB.out⟩

/-- What lay in memory stays through the steps of a comparison: a conversion, two calls, a literal, one call more. -/
theorem chain {w w1 a b d : World} {s : ByteArray} {o : Obj} (h : Below w.heap.size w w1) (h2 : Below (Lib.bytesWorld w1.drew 5 s).heap.size (Lib.bytesWorld w1.drew 5 s) a) (h3 : Below a.heap.size a b)
    (h4 : Below (b.alloc o).heap.size (b.alloc o) d) : Below w.heap.size w d := by
  have A0 := bytes_below (below_drew h) h.size 5 s
  have A1 := below_then A0 A0.size h2
  have A2 := below_then A1 A1.size h3
  have A3 := below_alloc A2 o
  exact below_then A3 A3.size h4

end Go.Proofs.Ytcjppgeblibkcaa.Mine
