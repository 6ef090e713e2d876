/-
  The string of one byte, and how many bytes are refused: for the law on the inserted byte.
-/
import Derived.Test.Qxb6630362aSyn
import Derived.Laws.BytesArg
import Derived.Laws.IdiomStrings
namespace Go.Proofs.Qxb6630362a.Syn
open Go.RowKit

/-- The string of one byte. -/
def oneB (c : Int) : ByteArray := strOfNums [c]
theorem oneB_size (c : Int) : (oneB c).size = 1 := by unfold oneB; rw [strOfNums_size]; rfl
theorem oneB_fv (c : Int) (h0 : 0 ≤ c) (h1 : c ≤ 255) : fv (oneB c).data.toList = !ctl c := by
  unfold oneB; rw [strOfNums_data]
  show fv [UInt8.ofNat c.toNat] = _
  rw [fv_one]
  have : ((UInt8.ofNat c.toNat).toNat : Int) = c := by
    rw [UInt8.toNat_ofNat']; omega
  rw [this]
theorem one_run (c : Int) (w : World) :
    (convert 25 9 (.slice (some ⟨w.heap.size, 0, none⟩) 1 1)).run Try.prog (w.alloc (.cells #[.int .u8 c] 5)) = .ok (.string (oneB c)) (w.alloc (.cells #[.int .u8 c] 5)) := by
  refine run_convert_bytes_arg (P := Try.prog) (w.alloc (.cells #[.int .u8 c] 5)) 25 5 Try.underlying25 Try.underlying5 w.heap.size 0 1 1 [c] rfl ?_ 9 Try.underlying9
  intro i hi
  obtain rfl : i = 0 := by omega
  rw [World.cell?_alloc_mark]; rfl

/-- How many of the first k bytes are refused. -/
def cnt (k : Nat) : Nat := ((List.range k).filter fun (d : Nat) => ctl (d : Int)).length
theorem cnt_succ (k : Nat) : cnt (k + 1) = cnt k + if ctl (k : Int) = true then 1 else 0 := by
  unfold cnt
  rw [List.range_succ, List.filter_append]
  cases h : ctl (k : Int) <;> simp [h]
theorem cnt_le (k : Nat) : cnt k ≤ k := by
  unfold cnt
  have := List.length_filter_le (fun d : Nat => ctl (d : Int)) (List.range k)
  simpa using this
theorem cnt_all : cnt 256 = 32 := by decide +kernel

end Go.Proofs.Qxb6630362a.Syn
