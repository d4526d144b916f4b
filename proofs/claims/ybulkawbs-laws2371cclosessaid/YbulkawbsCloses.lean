/-
  'recount' (8) and the law 'LawS2371CCloses' (4): the walks.
-/
import Derived.Test.YbulkawbsChan
import Derived.WalkSpells
import Derived.WalkLawsBesides
import Derived.Deep.RegionWith
namespace Go.Proofs.Ybulkawbs
open Go.Conc Go.RowKit
theorem eqIn_chan (d : Nat) (a b : Option Nat) (w : World) : (Op.equalIn (d + 1) 53 (.chan a) (.chan b)).run Yba.prog w = .ok (a == b) w := by
  simp [Op.equalIn, run_underlying Yba.underlying53]
theorem neq_chan (a b : Option Nat) (w : World) : (binOp .neq 53 (.chan a) (.chan b)).run Yba.prog w = .ok (.bool (a != b)) w := by
  simp only [binOp]
  simp [Op.equal, Op.maxDepth, eqIn_chan 9999 a b w, bne]

set_option maxRecDepth 100000 in
theorem recount_nil (b : Nat) (w : World) (hc : w.cell? ⟨b, 36, none⟩ = some (.chan none)) :
    Calls Yba.prog 8 #[.pointer (some ⟨b, 0, none⟩)] w fun e w' => e = .returned (.tuple #[]) ∧ w' = w := by
  have hn := neq_chan none none
  go_enter Yba.func8, Yba.ntmps8
  go_wp2
  go_end0
  exact ⟨rfl, rfl⟩

theorem setChan_cell {w : World} {c : Nat} {a : Addr} (h : a.block ≠ c) : (w.setChan c 0 #[] true 0 0 false).cell? a = w.cell? a :=
  World.cell?_of_block (by simp [World.setChan, Array.getElem?_setIfInBounds_ne (Ne.symm h)])
theorem setChan_frozen {w : World} {c : Nat} {a : Addr} (h : a.block ≠ c) : (w.setChan c 0 #[] true 0 0 false).frozen? a = w.frozen? a :=
  World.frozen?_of_block (by simp [World.setChan, Array.getElem?_setIfInBounds_ne (Ne.symm h)])

set_option maxRecDepth 100000 in
theorem recount_open (b c : Nat) (w : World) (hbc : b ≠ c) (hc : w.cell? ⟨b, 36, none⟩ = some (.chan (some c))) (hz : w.frozen? ⟨b, 36, none⟩ = false) (hh : w.heap[c]? = some (.chan 0 #[] false 0 0 false)) :
    Calls Yba.prog 8 #[.pointer (some ⟨b, 0, none⟩)] w fun e w' => e = .returned (.tuple #[]) ∧ w' = (w.setChan c 0 #[] true 0 0 false).setCell ⟨b, 36, none⟩ (.chan none) := by
  have hn : ∀ w, (binOp .neq 53 (.chan (some c)) (.chan none)).run Yba.prog w = .ok (.bool true) w := fun w => neq_chan (some c) none w
  have hcl : ∀ (ats : Array TypeId) (ty : TypeId), (Builtin.close_ ats ty #[.chan (some c)]).run Yba.prog w = .ok (.tuple #[]) (w.setChan c 0 #[] true 0 0 false) := fun ats ty => run_close_open (P := Yba.prog) (w := w) ats ty hh
  have h1 : (w.setChan c 0 #[] true 0 0 false).cell? ⟨b, 36, none⟩ = some (.chan (some c)) := (setChan_cell hbc).trans hc
  have h2 : (w.setChan c 0 #[] true 0 0 false).frozen? ⟨b, 36, none⟩ = false := (setChan_frozen hbc).trans hz
  go_enter Yba.func8, Yba.ntmps8
  go_wp2
  go_end0
  exact ⟨rfl, rfl⟩

theorem bytes35 : ∃ i, Yba.prog.info? 35 = some i ∧ i.bytes = 0 := by
  have h : (Yba.prog.info? 35).map (·.bytes) = some 0 := by kernel_rfl
  obtain ⟨i, hi, hb⟩ := Option.map_eq_some_iff.1 h
  exact ⟨i, hi, hb⟩
theorem mk0 (w : World) : (Instr.makeChan 53 (.int .i64 0)).run Yba.prog w = .ok (.chan (some w.heap.size)) (w.alloc (.chan 0 #[] false 0 0 false)) := by
  obtain ⟨i, hi, hb⟩ := bytes35
  simpa using run_makeChan (P := Yba.prog) (w := w) Yba.underlying53 hi .i64 0 (by omega) (by rw [hb]; omega)

set_option maxRecDepth 100000 in
set_option maxHeartbeats 1000000 in
theorem law_no (twice full : Bool) (w : World) :
    Calls Yba.prog 4 #[.bool false, .bool twice, .bool full] w fun e w' => e = .returned (.bool true) ∧ Below w.heap.size w w' := by
  have hmk := mk0
  have hc34 : ((w.alloc (.chan 0 #[] false 0 0 false)).alloc (.cells #[.chan none, .chan none, .chan none, .int .u64 0, .int .u32 0, .chan none, .chan none, .chan none, .chan none, .int .i64 0, .pointer none, .chan none, .int .i32 0, .string ⟨#[]⟩, .int .u64 0, .pointer none, .slice none 0 0, .slice none 0 0, .string ⟨#[]⟩, .bool false, .bool false, .bool false, .nilIface, .nilFunc, .int .i32 0, .int .u32 0, .bool false, .nilIface, .map none, .map none, .map none, .map none, .map none, .map none, .bool full, .chan (some (w.heap.size)), .chan none] 83)).cell? ⟨w.heap.size + 1, 34, none⟩ = some (.bool full) := by rw [World.cell?_alloc_at _ _ _ _ (by simp)]; rfl
  have hc35 : ((w.alloc (.chan 0 #[] false 0 0 false)).alloc (.cells #[.chan none, .chan none, .chan none, .int .u64 0, .int .u32 0, .chan none, .chan none, .chan none, .chan none, .int .i64 0, .pointer none, .chan none, .int .i32 0, .string ⟨#[]⟩, .int .u64 0, .pointer none, .slice none 0 0, .slice none 0 0, .string ⟨#[]⟩, .bool false, .bool false, .bool false, .nilIface, .nilFunc, .int .i32 0, .int .u32 0, .bool false, .nilIface, .map none, .map none, .map none, .map none, .map none, .map none, .bool full, .chan (some (w.heap.size)), .chan none] 83)).cell? ⟨w.heap.size + 1, 35, none⟩ = some (.chan (some (w.heap.size))) := by rw [World.cell?_alloc_at _ _ _ _ (by simp)]; rfl
  have hc36 : ((w.alloc (.chan 0 #[] false 0 0 false)).alloc (.cells #[.chan none, .chan none, .chan none, .int .u64 0, .int .u32 0, .chan none, .chan none, .chan none, .chan none, .int .i64 0, .pointer none, .chan none, .int .i32 0, .string ⟨#[]⟩, .int .u64 0, .pointer none, .slice none 0 0, .slice none 0 0, .string ⟨#[]⟩, .bool false, .bool false, .bool false, .nilIface, .nilFunc, .int .i32 0, .int .u32 0, .bool false, .nilIface, .map none, .map none, .map none, .map none, .map none, .map none, .bool full, .chan (some (w.heap.size)), .chan none] 83)).cell? ⟨w.heap.size + 1, 36, none⟩ = some (.chan none) := by rw [World.cell?_alloc_at _ _ _ _ (by simp)]; rfl
  have hz36 : ((w.alloc (.chan 0 #[] false 0 0 false)).alloc (.cells #[.chan none, .chan none, .chan none, .int .u64 0, .int .u32 0, .chan none, .chan none, .chan none, .chan none, .int .i64 0, .pointer none, .chan none, .int .i32 0, .string ⟨#[]⟩, .int .u64 0, .pointer none, .slice none 0 0, .slice none 0 0, .string ⟨#[]⟩, .bool false, .bool false, .bool false, .nilIface, .nilFunc, .int .i32 0, .int .u32 0, .bool false, .nilIface, .map none, .map none, .map none, .map none, .map none, .map none, .bool full, .chan (some (w.heap.size)), .chan none] 83)).frozen? ⟨w.heap.size + 1, 36, none⟩ = false := World.frozen?_alloc_at _ _ _ _ (by simp)
  have hB : Below w.heap.size w ((w.alloc (.chan 0 #[] false 0 0 false)).alloc (.cells #[.chan none, .chan none, .chan none, .int .u64 0, .int .u32 0, .chan none, .chan none, .chan none, .chan none, .int .i64 0, .pointer none, .chan none, .int .i32 0, .string ⟨#[]⟩, .int .u64 0, .pointer none, .slice none 0 0, .slice none 0 0, .string ⟨#[]⟩, .bool false, .bool false, .bool false, .nilIface, .nilFunc, .int .i32 0, .int .u32 0, .bool false, .nilIface, .map none, .map none, .map none, .map none, .map none, .map none, .bool full, .chan (some (w.heap.size)), .chan none] 83)) := ((Below.refl _ _).alloc (Nat.le_refl _) _).alloc (by simp) _
  have ho : ((w.alloc (.chan 0 #[] false 0 0 false)).alloc (.cells #[.chan none, .chan none, .chan none, .int .u64 0, .int .u32 0, .chan none, .chan none, .chan none, .chan none, .int .i64 0, .pointer none, .chan none, .int .i32 0, .string ⟨#[]⟩, .int .u64 0, .pointer none, .slice none 0 0, .slice none 0 0, .string ⟨#[]⟩, .bool false, .bool false, .bool false, .nilIface, .nilFunc, .int .i32 0, .int .u32 0, .bool false, .nilIface, .map none, .map none, .map none, .map none, .map none, .map none, .bool full, .chan (some (w.heap.size)), .chan none] 83)).heap[w.heap.size]? = some (.chan 0 #[] false 0 0 false) := by
    rw [Below.heap_alloc _ _ _ (by simp)]
    exact heap_alloc_new w _
  go_enter Yba.func4, Yba.ntmps4
  go_wp2_with fail
  generalize ((w.alloc (.chan 0 #[] false 0 0 false)).alloc (.cells #[.chan none, .chan none, .chan none, .int .u64 0, .int .u32 0, .chan none, .chan none, .chan none, .chan none, .int .i64 0, .pointer none, .chan none, .int .i32 0, .string ⟨#[]⟩, .int .u64 0, .pointer none, .slice none 0 0, .slice none 0 0, .string ⟨#[]⟩, .bool false, .bool false, .bool false, .nilIface, .nilFunc, .int .i32 0, .int .u32 0, .bool false, .nilIface, .map none, .map none, .map none, .map none, .map none, .map none, .bool full, .chan (some (w.heap.size)), .chan none] 83)) = W at *
  generalize (Value.agg #[.chan none, .chan none, .chan none, .int .u64 0, .int .u32 0, .chan none, .chan none, .chan none, .chan none, .int .i64 0, .pointer none, .chan none, .int .i32 0, .string ⟨#[]⟩, .int .u64 0, .pointer none, .slice none 0 0, .slice none 0 0, .string ⟨#[]⟩, .bool false, .bool false, .bool false, .nilIface, .nilFunc, .int .i32 0, .int .u32 0, .bool false, .nilIface, .map none, .map none, .map none, .map none, .map none, .map none, .bool full, .chan (some (w.heap.size)), .chan none]) = ag at *
  refine (recount_nil (w.heap.size + 1) W hc36).mono ?_
  rintro e w1 ⟨rfl, hw1⟩
  have k34 : w1.cell? ⟨w.heap.size + 1, 34, none⟩ = some (.bool full) := by rw [hw1]; exact hc34
  have k35 : w1.cell? ⟨w.heap.size + 1, 35, none⟩ = some (.chan (some w.heap.size)) := by rw [hw1]; exact hc35
  have k36 : w1.cell? ⟨w.heap.size + 1, 36, none⟩ = some (.chan none) := by rw [hw1]; exact hc36
  have ko : w1.heap[w.heap.size]? = some (.chan 0 #[] false 0 0 false) := by rw [hw1]; exact ho
  have kB : Below w.heap.size w w1 := by rw [hw1]; exact hB
  clear hw1 hc34 hc35 hc36 hz36 hB ho  hmk
  have hn := neq_chan none none
  have hn2 : ∀ w₀, (binOp .neq 53 (.chan (some (w.heap.size))) (.chan (some (w.heap.size)))).run Yba.prog w₀ = .ok (.bool false) w₀ := fun w₀ => by rw [neq_chan]; simp
  have KO : Hid (w1.heap[w.heap.size]? = some (.chan 0 #[] false 0 0 false)) := ko
  clear ko
  cases twice <;> cases full
  all_goals
    go_wp2_with (first | (go_at_call 8; refine (recount_nil (w.heap.size + 1) _ (by assumption)).mono ?_; rintro e w2 ⟨rfl, rfl⟩) | (go_at_call 9; refine (closed_no (w.heap.size) _ (Hid.out (by assumption))).mono ?_; rintro e w2 ⟨rfl, rfl⟩))
    go_ret
    exact ⟨rfl, by assumption⟩

set_option maxRecDepth 100000 in
set_option maxHeartbeats 1000000 in
theorem law_yes (twice full : Bool) (w : World) :
    Calls Yba.prog 4 #[.bool true, .bool twice, .bool full] w fun e w' => e = .returned (.bool true) ∧ Below w.heap.size w w' := by
  have hmk := mk0
  have hc34 : (((w.alloc (.chan 0 #[] false 0 0 false)).alloc (.chan 0 #[] false 0 0 false)).alloc (.cells #[.chan none, .chan none, .chan none, .int .u64 0, .int .u32 0, .chan none, .chan none, .chan none, .chan none, .int .i64 0, .pointer none, .chan none, .int .i32 0, .string ⟨#[]⟩, .int .u64 0, .pointer none, .slice none 0 0, .slice none 0 0, .string ⟨#[]⟩, .bool false, .bool false, .bool false, .nilIface, .nilFunc, .int .i32 0, .int .u32 0, .bool false, .nilIface, .map none, .map none, .map none, .map none, .map none, .map none, .bool full, .chan (some (w.heap.size + 1)), .chan (some w.heap.size)] 83)).cell? ⟨w.heap.size + 2, 34, none⟩ = some (.bool full) := by rw [World.cell?_alloc_at _ _ _ _ (by simp)]; rfl
  have hc35 : (((w.alloc (.chan 0 #[] false 0 0 false)).alloc (.chan 0 #[] false 0 0 false)).alloc (.cells #[.chan none, .chan none, .chan none, .int .u64 0, .int .u32 0, .chan none, .chan none, .chan none, .chan none, .int .i64 0, .pointer none, .chan none, .int .i32 0, .string ⟨#[]⟩, .int .u64 0, .pointer none, .slice none 0 0, .slice none 0 0, .string ⟨#[]⟩, .bool false, .bool false, .bool false, .nilIface, .nilFunc, .int .i32 0, .int .u32 0, .bool false, .nilIface, .map none, .map none, .map none, .map none, .map none, .map none, .bool full, .chan (some (w.heap.size + 1)), .chan (some w.heap.size)] 83)).cell? ⟨w.heap.size + 2, 35, none⟩ = some (.chan (some (w.heap.size + 1))) := by rw [World.cell?_alloc_at _ _ _ _ (by simp)]; rfl
  have hc36 : (((w.alloc (.chan 0 #[] false 0 0 false)).alloc (.chan 0 #[] false 0 0 false)).alloc (.cells #[.chan none, .chan none, .chan none, .int .u64 0, .int .u32 0, .chan none, .chan none, .chan none, .chan none, .int .i64 0, .pointer none, .chan none, .int .i32 0, .string ⟨#[]⟩, .int .u64 0, .pointer none, .slice none 0 0, .slice none 0 0, .string ⟨#[]⟩, .bool false, .bool false, .bool false, .nilIface, .nilFunc, .int .i32 0, .int .u32 0, .bool false, .nilIface, .map none, .map none, .map none, .map none, .map none, .map none, .bool full, .chan (some (w.heap.size + 1)), .chan (some w.heap.size)] 83)).cell? ⟨w.heap.size + 2, 36, none⟩ = some (.chan (some w.heap.size)) := by rw [World.cell?_alloc_at _ _ _ _ (by simp)]; rfl
  have hz36 : (((w.alloc (.chan 0 #[] false 0 0 false)).alloc (.chan 0 #[] false 0 0 false)).alloc (.cells #[.chan none, .chan none, .chan none, .int .u64 0, .int .u32 0, .chan none, .chan none, .chan none, .chan none, .int .i64 0, .pointer none, .chan none, .int .i32 0, .string ⟨#[]⟩, .int .u64 0, .pointer none, .slice none 0 0, .slice none 0 0, .string ⟨#[]⟩, .bool false, .bool false, .bool false, .nilIface, .nilFunc, .int .i32 0, .int .u32 0, .bool false, .nilIface, .map none, .map none, .map none, .map none, .map none, .map none, .bool full, .chan (some (w.heap.size + 1)), .chan (some w.heap.size)] 83)).frozen? ⟨w.heap.size + 2, 36, none⟩ = false := World.frozen?_alloc_at _ _ _ _ (by simp)
  have hB : Below w.heap.size w (((w.alloc (.chan 0 #[] false 0 0 false)).alloc (.chan 0 #[] false 0 0 false)).alloc (.cells #[.chan none, .chan none, .chan none, .int .u64 0, .int .u32 0, .chan none, .chan none, .chan none, .chan none, .int .i64 0, .pointer none, .chan none, .int .i32 0, .string ⟨#[]⟩, .int .u64 0, .pointer none, .slice none 0 0, .slice none 0 0, .string ⟨#[]⟩, .bool false, .bool false, .bool false, .nilIface, .nilFunc, .int .i32 0, .int .u32 0, .bool false, .nilIface, .map none, .map none, .map none, .map none, .map none, .map none, .bool full, .chan (some (w.heap.size + 1)), .chan (some w.heap.size)] 83)) := (((Below.refl _ _).alloc (Nat.le_refl _) _).alloc (by simp) _).alloc (by simp; omega) _
  have ho : (((w.alloc (.chan 0 #[] false 0 0 false)).alloc (.chan 0 #[] false 0 0 false)).alloc (.cells #[.chan none, .chan none, .chan none, .int .u64 0, .int .u32 0, .chan none, .chan none, .chan none, .chan none, .int .i64 0, .pointer none, .chan none, .int .i32 0, .string ⟨#[]⟩, .int .u64 0, .pointer none, .slice none 0 0, .slice none 0 0, .string ⟨#[]⟩, .bool false, .bool false, .bool false, .nilIface, .nilFunc, .int .i32 0, .int .u32 0, .bool false, .nilIface, .map none, .map none, .map none, .map none, .map none, .map none, .bool full, .chan (some (w.heap.size + 1)), .chan (some w.heap.size)] 83)).heap[w.heap.size + 1]? = some (.chan 0 #[] false 0 0 false) := by
    rw [Below.heap_alloc _ _ _ (by simp)]
    have := heap_alloc_new (w.alloc (.chan 0 #[] false 0 0 false)) (.chan 0 #[] false 0 0 false)
    simpa only [World.size_alloc] using this
  have hh : (((w.alloc (.chan 0 #[] false 0 0 false)).alloc (.chan 0 #[] false 0 0 false)).alloc (.cells #[.chan none, .chan none, .chan none, .int .u64 0, .int .u32 0, .chan none, .chan none, .chan none, .chan none, .int .i64 0, .pointer none, .chan none, .int .i32 0, .string ⟨#[]⟩, .int .u64 0, .pointer none, .slice none 0 0, .slice none 0 0, .string ⟨#[]⟩, .bool false, .bool false, .bool false, .nilIface, .nilFunc, .int .i32 0, .int .u32 0, .bool false, .nilIface, .map none, .map none, .map none, .map none, .map none, .map none, .bool full, .chan (some (w.heap.size + 1)), .chan (some w.heap.size)] 83)).heap[w.heap.size]? = some (.chan 0 #[] false 0 0 false) := by
    rw [Below.heap_alloc _ _ _ (by simp; omega), Below.heap_alloc _ _ _ (by simp)]
    exact heap_alloc_new w _
  go_enter Yba.func4, Yba.ntmps4
  go_wp2_with fail
  generalize (((w.alloc (.chan 0 #[] false 0 0 false)).alloc (.chan 0 #[] false 0 0 false)).alloc (.cells #[.chan none, .chan none, .chan none, .int .u64 0, .int .u32 0, .chan none, .chan none, .chan none, .chan none, .int .i64 0, .pointer none, .chan none, .int .i32 0, .string ⟨#[]⟩, .int .u64 0, .pointer none, .slice none 0 0, .slice none 0 0, .string ⟨#[]⟩, .bool false, .bool false, .bool false, .nilIface, .nilFunc, .int .i32 0, .int .u32 0, .bool false, .nilIface, .map none, .map none, .map none, .map none, .map none, .map none, .bool full, .chan (some (w.heap.size + 1)), .chan (some w.heap.size)] 83)) = W at *
  generalize (Value.agg #[.chan none, .chan none, .chan none, .int .u64 0, .int .u32 0, .chan none, .chan none, .chan none, .chan none, .int .i64 0, .pointer none, .chan none, .int .i32 0, .string ⟨#[]⟩, .int .u64 0, .pointer none, .slice none 0 0, .slice none 0 0, .string ⟨#[]⟩, .bool false, .bool false, .bool false, .nilIface, .nilFunc, .int .i32 0, .int .u32 0, .bool false, .nilIface, .map none, .map none, .map none, .map none, .map none, .map none, .bool full, .chan (some (w.heap.size + 1)), .chan (some w.heap.size)]) = ag at *
  refine (recount_open (w.heap.size + 2) w.heap.size W (by omega) hc36 hz36 hh).mono ?_
  rintro e w1 ⟨rfl, hw1⟩
  have k34 : w1.cell? ⟨w.heap.size + 2, 34, none⟩ = some (.bool full) := by rw [hw1, World.cell?_setCell_other _ _ _ _ (by simp), setChan_cell (by simp)]; exact hc34
  have k35 : w1.cell? ⟨w.heap.size + 2, 35, none⟩ = some (.chan (some (w.heap.size + 1))) := by rw [hw1, World.cell?_setCell_other _ _ _ _ (by simp), setChan_cell (by simp)]; exact hc35
  have k36 : w1.cell? ⟨w.heap.size + 2, 36, none⟩ = some (.chan none) := by rw [hw1]; exact World.cell?_setCell_same _ _ _ ((setChan_cell (by simp)).trans hc36)
  have ko : w1.heap[w.heap.size + 1]? = some (.chan 0 #[] false 0 0 false) := by
    rw [hw1, Below.heap_setCell _ _ _ _ (by simp)]
    simp only [World.setChan]
    rw [Array.getElem?_setIfInBounds_ne (by omega)]
    exact ho
  have kh : w1.heap[w.heap.size]? = some (.chan 0 #[] true 0 0 false) := by
    rw [hw1, Below.heap_setCell _ _ _ _ (by simp)]
    exact heap_setChan W w.heap.size 0 #[] true 0 0 false (Array.getElem?_eq_some_iff.1 hh).1
  have kB : Below w.heap.size w w1 := by rw [hw1]; exact (below_setChan hB (Nat.le_refl _) _ _ _ _ _ _).setCell (by simp) _
  clear hw1 hc34 hc35 hc36 hz36 hB ho hh hmk
  have hn := neq_chan none none
  have hn2 : ∀ w₀, (binOp .neq 53 (.chan (some (w.heap.size + 1))) (.chan (some (w.heap.size + 1)))).run Yba.prog w₀ = .ok (.bool false) w₀ := fun w₀ => by rw [neq_chan]; simp
  have KO : Hid (w1.heap[w.heap.size + 1]? = some (.chan 0 #[] false 0 0 false)) := ko
  clear ko
  have KH : Hid (w1.heap[w.heap.size]? = some (.chan 0 #[] true 0 0 false)) := kh
  clear kh
  cases twice <;> cases full
  all_goals
    go_wp2_with (first | (go_at_call 8; refine (recount_nil (w.heap.size + 2) _ (by assumption)).mono ?_; rintro e w2 ⟨rfl, rfl⟩) | (go_at_call_of 9 (Value.chan (some w.heap.size)); refine (closed_yes w.heap.size _ (Hid.out (by assumption))).mono ?_; rintro e w2 ⟨rfl, rfl⟩) | (go_at_call 9; refine (closed_no (w.heap.size + 1) _ (Hid.out (by assumption))).mono ?_; rintro e w2 ⟨rfl, rfl⟩))
    go_ret
    exact ⟨rfl, by assumption⟩

end Go.Proofs.Ybulkawbs
