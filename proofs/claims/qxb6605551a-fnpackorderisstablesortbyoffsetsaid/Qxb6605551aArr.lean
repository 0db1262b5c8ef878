import Derived.Test.Qxb6605551aDigit
import Derived.Lib.SliceRun
import Derived.Lib.LazyBuf
namespace Go.Proofs.Qxb6605551a
open Go.RowKit

theorem Try.info29 : (Try.prog.info? 29).map (fun i => (i.zero, i.size, i.bytes)) = some (some (.int .u32 0), 1, 4) := by kernel_rfl
/-- 2048 times 0. -/
def zeros : Array Value := Array.replicate 2048 (.int .i64 0)
theorem zero58 (w : World) : (zeroValue 58).run Try.prog w = .ok (.agg zeros) w := by kernel_rfl
theorem zero3 (w : World) : (zeroValue 3).run Try.prog w = .ok (.int .i64 0) w := by kernel_rfl
theorem zeros_row (w : World) : (w.alloc (.cells zeros 58)).rowIs w.heap.size 58 2048 (fun _ => .int .i64 0) :=
  ⟨zeros, Deep.blk_alloc_new _ _, by simp [zeros], fun i hi => by simp [zeros, hi]⟩
theorem arr58 : Try.prog.arrayLen 58 = 2048 := by kernel_rfl
theorem und58 : Try.prog.underlying 58 = some (.array (Try.prog.arrayLen 58) (Try.prog.elem 58)) := by kernel_rfl
theorem size58 (w : World) : (sizeOf (Try.prog.elem 58)).run Try.prog w = .ok 1 w := by kernel_rfl
theorem info58 : (Try.prog.info? 58).map (·.size) = some 2048 := by kernel_rfl
theorem run_slice_all58 (b : Nat) (w : World) : (Instr.sliceAt 58 (.pointer (some ⟨b, 0, none⟩)) none none none).run Try.prog w = .ok (.slice (some ⟨b, 0, none⟩) 2048 2048) w := by
  rw [run_sliceAt_array_all w 58 ⟨b, 0, none⟩ und58, size58, arr58]
  simp [Result.andThen, slicedAt, Addr.add]

theorem agg58 (w : World) : (isAgg (Try.prog.elem 58)).run Try.prog w = .ok false w := by kernel_rfl
theorem grown_setCells (b : Nat) : ∀ (vs : List Value) (o : Nat) (w : World), w.grownBy (w.setCells b o vs) (some b) ∧ (w.setCells b o vs).heap.size = w.heap.size
  | [], _, w => ⟨⟨rfl, rfl, rfl, Nat.le_refl _, fun _ _ _ => rfl⟩, rfl⟩
  | v :: r, o, w => by
    obtain ⟨h1, h2⟩ := grown_setCells b r (o + 1) (w.setCell ⟨b, o, none⟩ v)
    have hs : (w.setCell ⟨b, o, none⟩ v).heap.size = w.heap.size := by simp [World.setCell]
    refine ⟨⟨h1.os, h1.tape, h1.output, by rw [← hs]; exact h1.size, fun k hk hb => ?_⟩, h2.trans hs⟩
    rw [← Below.heap_setCell w ⟨b, o, none⟩ v k (fun e => hb (by simp at e; rw [e]))]
    exact h1.block k (by rw [hs]; exact hk) hb

/-- 'clear(starts[:])'. -/
theorem run_clear58 {w : World} {b : Nat} {f : Nat → Value} (h : w.rowIs b 58 2048 f) (ty : TypeId) :
    ∃ w', (Builtin.clear_ #[60] ty #[.slice (some ⟨b, 0, none⟩) 2048 2048]).run Try.prog w = .ok (.tuple #[]) w' ∧ w'.rowIs b 58 2048 (fun _ => .int .i64 0) ∧ w.grownBy w' (some b) ∧ w'.heap.size = w.heap.size := by
  have hr := Lib.run_clear_slice (P := Try.prog) w 60 3 ty (.int .i64 0) Try.underlying60 zero3 rfl rfl b 0 2048 2048 (by omega)
    (fun j hj => by rw [Nat.zero_add, h.cell hj]; rfl) (fun j _ => h.frozen _)
  obtain ⟨h1, h2⟩ := grown_setCells b (List.replicate 2048 (.int .i64 0)) 0 w
  refine ⟨_, hr, (rowIs_setCells _ 0 w f h).congr (fun j hj => ?_), h1, h2⟩
  rw [if_pos (by rw [List.length_replicate]; omega), List.getElem?_replicate, if_pos (by omega)]
  rfl

/-- 'starts[d]' of the array as it was. -/
theorem run_index58 {cs : Array Value} {d : Nat} {v : Value} (hd : d < 2048) (hv : cs[d]? = some v) (w : World) : (Instr.index 58 (.agg cs) (.int .i64 (d : Int))).run Try.prog w = .ok v w := by
  simp [Instr.index, asIntOf, run_underlying und58, arr58, size58, hd, part, agg58, hv, Result.andThen]
end Go.Proofs.Qxb6605551a
