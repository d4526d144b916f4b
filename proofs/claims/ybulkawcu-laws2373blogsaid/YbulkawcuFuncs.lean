/-
  THE WALKS of classParts (20) and funcs (15).
-/
import Derived.Test.YbulkawcuTop
namespace Go.Proofs.Ybulkawcu
open Go.RowKit

theorem Yba.info98 : (Yba.prog.info? 98).map (fun i => (i.zero, i.size, i.bytes)) = some (some (.agg #[.pointer none, .bool false, .slice none 0 0, .slice none 0 0]), 4, 64) := by kernel_rfl

set_option maxHeartbeats 1000000 in
set_option maxRecDepth 100000 in
theorem parts_any {w : World} {N R bf bg bp bs n : Nat} {sv : Value} (hN : N ≤ w.heap.size) (hT : Top w N bf bg bp bs R n sv) :
    Calls Yba.prog 20 #[ptr bg] w fun e w' => ∃ ao cap, e = .returned (.slice ao 0 cap) ∧ Below w.heap.size w w' := by
  obtain ⟨i0, hi0, hz0, hz1, hz2⟩ := info_parts Yba.info98
  have hmk : ∀ w : World, ∃ cs, (Instr.makeSlice 95 (.int .i64 0) (.int .i64 0)).run Yba.prog w = .ok (.slice (some ⟨w.heap.size, 0, none⟩) 0 0) (w.alloc (.cells cs 98)) := fun w =>
    ⟨_, run_make w 95 98 i0 _ Yba.underlying95 hi0 hz0 .i64 .i64 0 0 (by omega) (by omega) (by omega) (by omega)⟩
  have hmk' : ∃ F : World → Array Value, ∀ w : World, (Instr.makeSlice 95 (.int .i64 0) (.int .i64 0)).run Yba.prog w = .ok (.slice (some ⟨w.heap.size, 0, none⟩) 0 0) (w.alloc (.cells (F w) 98)) := ⟨fun w => Classical.choose (hmk w), fun w => Classical.choose_spec (hmk w)⟩
  obtain ⟨F, hF⟩ := hmk'
  clear hmk hi0 hz0 hz1 hz2
  have c1 := hT.g1
  have c2 := hT.f8
  have c3 := hT.f9
  have HT := (show Hid _ from hT)
  clear hT
  unfold ptr at *
  go_enter Yba.func20, Yba.ntmps20
  go_wp2_with fail
  go_region
  have hB1 : Below w.heap.size w (w.alloc (Obj.cells (F w.drew) 98)).drew := ((Below.refl _ _).alloc (Nat.le_refl _) _).drew
  generalize (w.alloc (Obj.cells (F w.drew) 98)).drew = w1 at *
  have hT1 := HT.out.below (hB1.mono hN)
  clear c1 c2 c3 hF
  have c1 := hT1.g1
  have c2 := hT1.f8
  have c3 := hT1.f9
  unfold ptr at c1
  have HB1 := (show Hid _ from hB1)
  clear hT1 hB1
  go_wp2_with fail
  go_loopg [3, 34] 0 (fun g x v wr => g = 0 ∧ v = .int .i64 0 ∧ wr = w1 ∧ x = .slice (some ⟨w.heap.size, 0, none⟩) 0 0)
  case atStart => exact ⟨rfl, rfl, rfl, rfl⟩
  case round =>
    obtain ⟨_, rfl, rfl, rfl⟩ := hrel
    go_wp2_with fail
    go_loopg [3, 60] 0 (fun g x v wr1 => g = 0 ∧ v = .int .i64 0 ∧ wr1 = wr ∧ x = .slice (some ⟨w.heap.size, 0, none⟩) 0 0)
    case atStart => exact ⟨rfl, rfl, rfl, rfl⟩
    case round =>
      obtain ⟨_, rfl, rfl, rfl⟩ := hrel
      go_wp2_with fail
      exact bodyPost_ret (results_tmp rfl _ _ _) rfl ⟨_, _, rfl, HB1.out⟩

set_option maxHeartbeats 1000000 in
set_option maxRecDepth 100000 in
theorem funcs_any {w : World} {N R bf bg bp bs n : Nat} {sv : Value} (hN : N ≤ w.heap.size) (hT : Top w N bf bg bp bs R n sv) :
    Calls Yba.prog 15 #[ptr bg] w fun e w' => e = .returned (.slice none 0 0) ∧ Below w.heap.size w w' := by
  have HT := (show Hid _ from hT)
  unfold ptr at *
  go_enter Yba.func15, Yba.ntmps15
  go_wp2_with fail
  refine (parts_any hN HT.out).mono ?_
  rintro e w1 ⟨ao, cap, rfl, hB1⟩
  have hT1 := HT.out.below (hB1.mono hN)
  have c1 := hT1.g1
  have c2 := hT1.f10
  unfold ptr at c1
  have HB1 := (show Hid _ from hB1)
  clear hT1 hB1 hT
  go_wp2_with fail
  go_loopg [3, 9] 0 (fun g x v wr => g = 0 ∧ v = .int .i64 0 ∧ wr = w1 ∧ x = .slice none 0 0)
  case atStart => exact ⟨rfl, rfl, rfl, rfl⟩
  case round =>
    obtain ⟨_, rfl, rfl, rfl⟩ := hrel
    go_wp2_with fail
    exact bodyPost_ret (results_tmp rfl _ _ _) rfl ⟨rfl, HB1.out⟩
end Go.Proofs.Ybulkawcu
