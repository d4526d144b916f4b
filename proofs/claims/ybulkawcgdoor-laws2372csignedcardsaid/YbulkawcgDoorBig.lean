/-
  MATH/BIG ON THE ROAD: integers of at most one word. The walks of nat.make (26), nat.setWord (22), nat.set (25), Int.Set (21), NewInt (7).
-/
import Derived.Test.YbulkawcgDoorRows
import Derived.WalkKit
import Derived.WalkSpells
import Derived.WalkLawsBesides
import Derived.Handy
import Derived.Deep.RegionHeld3
import Derived.BigQuiet
import Derived.Laws.CopyOwn
import Derived.LaidEqlPtr
namespace Go.Proofs.YbulkawcgDoor
open Go.RowKit

theorem mk1 (w : World) : (Instr.makeSlice 26 (.int .i64 1) (.int .i64 1)).run Ybad.prog w = .ok (.slice (some ⟨w.heap.size, 0, none⟩) 1 1) (w.alloc (.cells #[.int .u64 0] 49)) := by kernel_rfl

theorem make0 (w : World) : Calls Ybad.prog 26 #[.slice none 0 0, .int .i64 0] w fun e w' => e = .returned (.slice none 0 0) ∧ w' = w := by
  go_enter Ybad.func26, Ybad.ntmps26
  go_wp2
  go_ret
  exact ⟨rfl, rfl⟩

theorem make1 (w : World) : Calls Ybad.prog 26 #[.slice none 0 0, .int .i64 1] w fun e w' => e = .returned (.slice (some ⟨w.heap.size, 0, none⟩) 1 1) ∧ w' = w.alloc (.cells #[.int .u64 0] 49) := by
  have h := mk1
  go_enter Ybad.func26, Ybad.ntmps26
  go_wp2
  go_ret
  exact ⟨rfl, rfl⟩

theorem setWord1 (w : World) : Calls Ybad.prog 22 #[.slice none 0 0, .int .u64 1] w fun e w' => e = .returned (.slice (some ⟨w.heap.size, 0, none⟩) 1 1) ∧ w' = w.alloc (.cells #[.int .u64 1] 49) := by
  go_enter Ybad.func22, Ybad.ntmps22
  go_wp2_with fail
  refine (make1 _).mono ?_
  rintro e w1 ⟨rfl, rfl⟩
  go_wp2
  go_ret
  exact ⟨rfl, rfl⟩

theorem size49 : (Ybad.prog.info? 49).map (·.size) = some 1 := by kernel_rfl
theorem setRow_alloc (w : World) (c c' : Array Value) (t : TypeId) : (w.alloc (.cells c t)).setRow w.heap.size c' = w.alloc (.cells c' t) := by
  show ({ w with heap := (w.heap.push (.cells c t)).modify w.heap.size _ } : World) = { w with heap := w.heap.push (.cells c' t) }
  congr 1
  apply Array.ext_getElem?
  intro i
  rw [Array.getElem?_modify, Array.getElem?_push, Array.getElem?_push]
  by_cases h : i = w.heap.size
  · subst h; simp
  · rw [if_neg (fun e => h e.symm), if_neg h, if_neg h]

theorem set0 (w : World) : Calls Ybad.prog 25 #[.slice none 0 0, .slice none 0 0] w fun e w' => e = .returned (.slice none 0 0) ∧ w' = w := by
  go_enter Ybad.func25, Ybad.ntmps25
  go_wp2_with fail
  refine (make0 _).mono ?_
  rintro e w1 ⟨rfl, rfl⟩
  go_wp2_with (refine wpList_copy_nothing rfl (.tmp 9) (.tmp 10) 26 26 rfl 49 Ybad.underlying26 size49 none none 0 0 0 0 rfl rfl rfl ?_)
  go_ret
  exact ⟨rfl, rfl⟩

theorem set1 (w : World) (g cap : Nat) (k : Int) (h : w.cell? ⟨g, 0, none⟩ = some (.int .u64 k)) : Calls Ybad.prog 25 #[.slice none 0 0, .slice (some ⟨g, 0, none⟩) 1 cap] w fun e w' => e = .returned (.slice (some ⟨w.heap.size, 0, none⟩) 1 1) ∧ w' = w.alloc (.cells #[.int .u64 k] 49) := by
  go_enter Ybad.func25, Ybad.ntmps25
  go_wp2_with fail
  refine (make1 _).mono ?_
  rintro e w1 ⟨rfl, rfl⟩
  have hc : (w.alloc (.cells #[.int .u64 0] 49)).cell? ⟨g, 0, none⟩ = some (.int .u64 k) := by
    rw [World.cell?_alloc_past _ _ _ (World.block_lt_of_cell? w _ h)]; exact h
  go_wp2_with (refine wpList_copy_own rfl (.tmp 9) (.tmp 10) 26 26 rfl 49 Ybad.underlying26 size49 w.heap.size 0 1 1 ⟨g, 0, none⟩ 1 cap rfl rfl #[.int .u64 0] 49 (heap_alloc_new w _) [.int .u64 k] rfl (fun j v hv => by match j, hv with | 0, hv => simp at hv; subst hv; simpa [Addr.add] using hc) (by simp) (by simp [Value.oneCell']) ?_)
  go_ret
  exact ⟨rfl, setRow_alloc _ _ _ _⟩

/-- A natural number of at most one word, as math/big holds it: its word lies in a block of words. -/
def NatAt (w : World) (v : Value) (k : Nat) : Prop :=
  (v = .slice none 0 0 ∧ k = 0) ∨ ∃ g cap cur, v = .slice (some ⟨g, 0, none⟩) 1 cap ∧ 0 < k ∧ w.heap[g]? = some (.cells cur 49 (0, 0)) ∧ cur[0]? = some (.int .u64 k)

theorem word_cell {w : World} {g : Nat} {cur : Array Value} {k : Nat} (h : w.heap[g]? = some (.cells cur 49 (0, 0))) (hc : cur[0]? = some (.int .u64 k)) : w.cell? ⟨g, 0, none⟩ = some (.int .u64 k) := by
  rw [cell_of_row w g 0 cur 49 (0, 0) h]; exact hc

theorem set_any (w : World) (x : Value) (k : Nat) (h : NatAt w x k) : Calls Ybad.prog 25 #[.slice none 0 0, x] w fun e w' => ∃ ao l c, e = .returned (.slice ao l c) ∧ NatAt w' (.slice ao l c) k ∧ w.grownBy w' none := by
  rcases h with ⟨rfl, rfl⟩ | ⟨g, cap, cur, rfl, hk, hg, hc⟩
  · refine (set0 w).mono ?_
    rintro e w' ⟨rfl, rfl⟩
    exact ⟨_, _, _, rfl, .inl ⟨rfl, rfl⟩, World.grownBy.refl _ _⟩
  · refine (set1 w g cap k (word_cell hg hc)).mono ?_
    rintro e w' ⟨rfl, rfl⟩
    exact ⟨_, _, _, rfl, .inr ⟨_, _, _, rfl, hk, heap_alloc_new w _, rfl⟩, World.grownBy_alloc _ _ _⟩

/-- A block of cells, none of them frozen, and no block of words. -/
def Blk (w : World) (b : Nat) : Prop := ∃ c t, w.heap[b]? = some (.cells c t (0, 0)) ∧ t ≠ 49
theorem Blk.frozen {w : World} {b : Nat} (h : Blk w b) (j : Nat) : w.frozen? ⟨b, j, none⟩ = false := by
  obtain ⟨c, t, h, _⟩ := h
  simp [World.frozen?, h]
theorem Blk.same {w w' : World} {b : Nat} (h : Blk w b) (e : w'.heap[b]? = w.heap[b]?) : Blk w' b := by
  obtain ⟨c, t, h, ht⟩ := h
  exact ⟨c, t, e.trans h, ht⟩
theorem Blk.lt {w : World} {b : Nat} (h : Blk w b) : b < w.heap.size := by
  obtain ⟨c, t, h, _⟩ := h
  exact (Array.getElem?_eq_some_iff.1 h).1
theorem Blk.setCell {w : World} {b : Nat} (h : Blk w b) (a : Addr) (v : Value) : Blk (w.setCell a v) b := by
  by_cases e : b = a.block
  · obtain ⟨c, t, h, ht⟩ := h
    refine ⟨if a.spot.isSome then c else c.setIfInBounds a.off v, t, ?_, ht⟩
    simp only [World.setCell, Array.getElem?_modify]
    rw [if_pos e.symm, h]
    rfl
  · exact h.same (Below.heap_setCell _ _ _ _ e)
theorem Blk.alloc {w : World} {b : Nat} (h : Blk w b) (o : Obj) : Blk (w.alloc o) b := h.same (Below.heap_alloc _ _ _ h.lt)
theorem Blk.grown {w w' : World} {b : Nat} {row : Option Nat} (h : Blk w b) (g : w.grownBy w' row) (hne : some b ≠ row) : Blk w' b := h.same (g.block b h.lt hne)
theorem Blk.new (w : World) (c : Array Value) (t : TypeId) (ht : t ≠ 49) : Blk (w.alloc (.cells c t)) w.heap.size := ⟨c, t, heap_alloc_new w _, ht⟩
theorem Blk.ne {w : World} {b g : Nat} {cur : Array Value} (h : Blk w b) (hg : w.heap[g]? = some (.cells cur 49 (0, 0))) : g ≠ b := by
  rintro rfl
  obtain ⟨c, t, h, ht⟩ := h
  rw [hg] at h
  simp only [Option.some.injEq, Obj.cells.injEq] at h
  exact ht h.2.1.symm
theorem NatAt.grown {w w' : World} {v : Value} {k : Nat} {row : Option Nat} (h : NatAt w v k) (g : w.grownBy w' row) (hr : ∀ b, row = some b → Blk w b) : NatAt w' v k := by
  rcases h with h | ⟨gg, cap, cur, e, h1, h2, h3⟩
  · exact .inl h
  · exact .inr ⟨gg, cap, cur, e, h1, (g.block gg (Array.getElem?_eq_some_iff.1 h2).1 (fun e => (hr gg e.symm).ne h2 rfl)).trans h2, h3⟩
theorem NatAt.setCell {w : World} {v : Value} {k b j : Nat} {u : Value} (h : NatAt w v k) (hb : Blk w b) : NatAt (w.setCell ⟨b, j, none⟩ u) v k := by
  rcases h with h | ⟨gg, cap, cur, e, h1, h2, h3⟩
  · exact .inl h
  · exact .inr ⟨gg, cap, cur, e, h1, (Below.heap_setCell _ _ _ _ (hb.ne h2)).trans h2, h3⟩
theorem NatAt.alloc {w : World} {v : Value} {k : Nat} (h : NatAt w v k) (o : Obj) : NatAt (w.alloc o) v k := h.grown (World.grownBy_alloc w o none) (fun _ e => by cases e)

theorem neq_other {tp te : TypeId} {j : TypeInfo} {a b : Addr} {w : World} (hp : Ybad.prog.underlying tp = some (.pointer te)) (hte : Ybad.prog.info? te = some j) (hsz : j.size ≠ 0) (hne : a ≠ b) (ha : Blk w a.block) (hb : Blk w b.block) :
    (binOp .neq tp (.pointer (some a)) (.pointer (some b))).run Ybad.prog w = .ok (.bool true) w := by
  obtain ⟨ca, ta, ha, _⟩ := ha
  obtain ⟨cb, tb, hb, _⟩ := hb
  have h : ∀ d : Nat, (Op.equalIn (d + 1) tp (.pointer (some a)) (.pointer (some b))).run Ybad.prog w = .ok false w := fun d => by
    simp [Op.equalIn, run_underlying hp, sizeOf, typeInfo, hte, hsz, run_sameAddr_other w hne ha hb]
  simp only [binOp]
  simp [Op.equal, Op.maxDepth, h 9999]
theorem neq_same {tp te : TypeId} {j : TypeInfo} {a : Addr} {w : World} (hp : Ybad.prog.underlying tp = some (.pointer te)) (hte : Ybad.prog.info? te = some j) :
    (binOp .neq tp (.pointer (some a)) (.pointer (some a))).run Ybad.prog w = .ok (.bool false) w := by
  have h : ∀ d : Nat, (Op.equalIn (d + 1) tp (.pointer (some a)) (.pointer (some a))).run Ybad.prog w = .ok true w := fun d => by
    simp [Op.equalIn, run_underlying hp, sizeOf, typeInfo, hte, run_sameAddr_same]
  simp only [binOp]
  simp [Op.equal, Op.maxDepth, h 9999]
theorem size28 : ∃ j, Ybad.prog.info? 28 = some j ∧ j.size ≠ 0 := by
  have h : (Ybad.prog.info? 28).map (·.size) = some 2 := by kernel_rfl
  obtain ⟨i, hi, hb⟩ := Option.map_eq_some_iff.1 h
  exact ⟨i, hi, by rw [hb]; decide⟩
theorem size30 : ∃ j, Ybad.prog.info? 30 = some j ∧ j.size ≠ 0 := by
  have h : (Ybad.prog.info? 30).map (·.size) = some 4 := by kernel_rfl
  obtain ⟨i, hi, hb⟩ := Option.map_eq_some_iff.1 h
  exact ⟨i, hi, by rw [hb]; decide⟩
theorem neq32 {a b : Addr} {w : World} (hne : a ≠ b) (ha : Blk w a.block) (hb : Blk w b.block) : (binOp .neq 32 (.pointer (some a)) (.pointer (some b))).run Ybad.prog w = .ok (.bool true) w := by
  obtain ⟨j, hj, hs⟩ := size28
  exact neq_other Ybad.underlying32 hj hs hne ha hb
theorem neq24 {a b : Addr} {w : World} (hne : a ≠ b) (ha : Blk w a.block) (hb : Blk w b.block) : (binOp .neq 24 (.pointer (some a)) (.pointer (some b))).run Ybad.prog w = .ok (.bool true) w := by
  obtain ⟨j, hj, hs⟩ := size30
  exact neq_other Ybad.underlying24 hj hs hne ha hb
theorem neq32s {a : Addr} {w : World} : (binOp .neq 32 (.pointer (some a)) (.pointer (some a))).run Ybad.prog w = .ok (.bool false) w := by
  obtain ⟨j, hj, hs⟩ := size28
  exact neq_same Ybad.underlying32 hj
theorem eql32 {a b : Addr} {w : World} (hne : a ≠ b) (ha : Blk w a.block) (hb : Blk w b.block) : (binOp .eql 32 (.pointer (some a)) (.pointer (some b))).run Ybad.prog w = .ok (.bool false) w := by
  obtain ⟨j, hj, hs⟩ := size28
  obtain ⟨ca, ta, ha, _⟩ := ha
  obtain ⟨cb, tb, hb, _⟩ := hb
  exact run_eql_ptr_other w Ybad.underlying32 hj hs hne ha hb

/-- An Int at ⟨bz, oz⟩ that has been set; the rest of its block is as it was. -/
structure SetAt (w w' : World) (bz oz : Nat) (neg : Bool) (k : Nat) : Prop where
  n : w'.cell? ⟨bz, oz, none⟩ = some (.bool neg)
  a : ∃ ao l c, w'.cell? ⟨bz, oz + 1, none⟩ = some (.slice ao l c) ∧ NatAt w' (.slice ao l c) k
  o : ∀ j, j ≠ oz → j ≠ oz + 1 → w'.cell? ⟨bz, j, none⟩ = w.cell? ⟨bz, j, none⟩
  b : Blk w' bz
  g : w.grownBy w' (some bz)

theorem cso {w : World} {b o b' o' : Nat} {v : Value} (h : b ≠ b' ∨ o ≠ o') : (w.setCell ⟨b, o, none⟩ v).cell? ⟨b', o', none⟩ = w.cell? ⟨b', o', none⟩ :=
  World.cell?_setCell_other _ _ _ _ (by rcases h with h | h <;> simp [h])
theorem css {w : World} {b o : Nat} {v u : Value} (h : w.cell? ⟨b, o, none⟩ = some u) : (w.setCell ⟨b, o, none⟩ v).cell? ⟨b, o, none⟩ = some v :=
  World.cell?_setCell_same _ _ _ h
theorem set_made {w wA : World} {bz oz : Nat} {b0 neg : Bool} {ao : Option Addr} {l c k : Nat} (hb : Blk w bz) (z0 : w.cell? ⟨bz, oz, none⟩ = some (.bool b0)) (z1 : w.cell? ⟨bz, oz + 1, none⟩ = some (.slice none 0 0))
    (hn : NatAt wA (.slice ao l c) k) (hg : w.grownBy wA none) : SetAt w ((wA.setCell ⟨bz, oz + 1, none⟩ (.slice ao l c)).setCell ⟨bz, oz, none⟩ (.bool neg)) bz oz neg k := by
  have hbA := hb.grown hg (by simp)
  have hc : ∀ j, wA.cell? ⟨bz, j, none⟩ = w.cell? ⟨bz, j, none⟩ := fun j => World.cell?_of_block (hg.block bz hb.lt (by simp))
  refine ⟨css ((cso (.inr (by omega))).trans ((hc _).trans z0)), ⟨ao, l, c, (cso (.inr (by omega))).trans (css ((hc _).trans z1)), (hn.setCell hbA).setCell (hbA.setCell _ _)⟩, fun j h1 h2 => ?_, (hbA.setCell _ _).setCell _ _, ⟨hg.os, hg.tape, hg.output, by simpa using hg.size, fun i hi hne => ?_⟩⟩
  · rw [cso (.inr (by omega)), cso (.inr (by omega))]; exact hc j
  · have hne' : i ≠ bz := fun e => hne (by rw [e])
    rw [Below.heap_setCell _ _ _ _ hne', Below.heap_setCell _ _ _ _ hne']
    exact hg.block i hi (by simp)

set_option maxHeartbeats 800000 in
theorem intSet (bz oz bx ox : Nat) (b0 neg : Bool) (ax : Option Addr) (lx cx : Nat) (k : Nat) (w : World) (hne : bz ≠ bx) (hbz : Blk w bz) (hbx : Blk w bx)
    (z0 : w.cell? ⟨bz, oz, none⟩ = some (.bool b0)) (z1 : w.cell? ⟨bz, oz + 1, none⟩ = some (.slice none 0 0))
    (x0 : w.cell? ⟨bx, ox, none⟩ = some (.bool neg)) (x1 : w.cell? ⟨bx, ox + 1, none⟩ = some (.slice ax lx cx)) (hx : NatAt w (.slice ax lx cx) k) :
    Calls Ybad.prog 21 #[.pointer (some ⟨bz, oz, none⟩), .pointer (some ⟨bx, ox, none⟩)] w fun e w' => e = .returned (.pointer (some ⟨bz, oz, none⟩)) ∧ SetAt w w' bz oz neg k := by
  have f0 := hbz.frozen oz
  have f1 := hbz.frozen (oz + 1)
  have hq := neq32 (a := ⟨bz, oz, none⟩) (b := ⟨bx, ox, none⟩) (w := w) (by intro e; exact hne (congrArg Addr.block e)) hbz hbx
  have hne2 := hne.symm
  go_enter Ybad.func21, Ybad.ntmps21
  go_wp2
  go_region_with (go_at_call 25; refine (set_any _ _ k ?_).mono ?_; exact hx; rintro e w1 ⟨a1, l1, c1, rfl, hn1, hg1⟩; have k1 : w1.cell? ⟨bz, oz + 1, none⟩ = some (.slice none 0 0) := (World.cell?_of_block (hg1.block bz hbz.lt (by simp))).trans z1; have k2 := (Blk.grown (w := w.drew) hbz hg1 (by simp)).frozen (oz + 1))
  all_goals
    have hg : w.grownBy w1 none := ⟨hg1.os, hg1.tape, hg1.output, hg1.size, hg1.block⟩
    have hx0 : (w1.setCell ⟨bz, oz + 1, none⟩ (.slice a1 l1 c1)).cell? ⟨bx, ox, none⟩ = some (.bool neg) := (cso (.inl hne)).trans ((World.cell?_of_block (hg.block bx hbx.lt (by simp))).trans x0)
    have hz0 : (w1.setCell ⟨bz, oz + 1, none⟩ (.slice a1 l1 c1)).cell? ⟨bz, oz, none⟩ = some (.bool b0) := (cso (.inr (by omega))).trans ((World.cell?_of_block (hg.block bz hbz.lt (by simp))).trans z0)
    have hf0 : (w1.setCell ⟨bz, oz + 1, none⟩ (.slice a1 l1 c1)).frozen? ⟨bz, oz, none⟩ = false := by simpa using (hbz.grown hg (by simp)).frozen oz
    have F : Hid (SetAt w ((w1.setCell ⟨bz, oz + 1, none⟩ (.slice a1 l1 c1)).setCell ⟨bz, oz, none⟩ (.bool neg)) bz oz neg k) := set_made hbz z0 z1 hn1 hg
    clear hn1 hg1 hg k1 k2 z0 z1 x0 x1 hq
    go_wp2
    go_ret
    exact ⟨rfl, F.out⟩


theorem int_made {w w1 : World} {neg : Bool} {ao : Option Addr} {l c k : Nat} {t : TypeId} (hg : w.grownBy w1 none) (hn : NatAt w1 (.slice ao l c) k) (ht : t ≠ 49) :
    (w1.alloc (.cells #[.bool neg, .slice ao l c] t)).cell? ⟨w1.heap.size, 0, none⟩ = some (.bool neg) ∧ (w1.alloc (.cells #[.bool neg, .slice ao l c] t)).cell? ⟨w1.heap.size, 1, none⟩ = some (.slice ao l c) ∧
    NatAt (w1.alloc (.cells #[.bool neg, .slice ao l c] t)) (.slice ao l c) k ∧ Blk (w1.alloc (.cells #[.bool neg, .slice ao l c] t)) w1.heap.size ∧ w.heap.size ≤ w1.heap.size ∧ w.grownBy (w1.alloc (.cells #[.bool neg, .slice ao l c] t)) none := by
  refine ⟨by rw [World.cell?_alloc_at _ _ _ _ rfl]; rfl, by rw [World.cell?_alloc_at _ _ _ _ rfl]; rfl, ?_, Blk.new _ _ _ ht, hg.size, ⟨hg.os, hg.tape, hg.output, by have := hg.size; simp; omega, fun i hi hne => by rw [Below.heap_alloc _ _ _ (by have := hg.size; omega)]; exact hg.block i hi hne⟩⟩
  exact hn.alloc _
theorem word_made (w : World) (k : Nat) (hk : 0 < k) (x : Int) (hx : x = k) : NatAt (w.alloc (.cells #[.int .u64 x] 49)) (.slice (some ⟨w.heap.size, 0, none⟩) 1 1) k :=
  .inr ⟨_, _, _, rfl, hk, heap_alloc_new w _, by rw [hx]; rfl⟩

/-- NewInt. -/
theorem newInt (n : Int) (w : World) (h1 : -9223372036854775808 ≤ n) (h2 : n ≤ 9223372036854775807) :
    Calls Ybad.prog 7 #[.int .i64 n] w fun e w' => ∃ p ao l c, e = .returned (.pointer (some ⟨p, 0, none⟩)) ∧ w'.cell? ⟨p, 0, none⟩ = some (.bool (decide (n < 0))) ∧ w'.cell? ⟨p, 1, none⟩ = some (.slice ao l c) ∧ NatAt w' (.slice ao l c) n.natAbs ∧ Blk w' p ∧ w.heap.size ≤ p ∧ w.grownBy w' none := by
  rcases (show n = 0 ∨ n < 0 ∨ 0 < n by omega) with h | h | h
  · subst h
    go_enter Ybad.func7, Ybad.ntmps7
    go_wp2
    go_ret
    exact ⟨w.heap.size, none, 0, 0, rfl, int_made (World.grownBy.refl _ _) (.inl ⟨rfl, rfl⟩) (by decide)⟩
  · have h0 : (n == 0) = false := by simp; omega
    have F := int_made (neg := true) (t := 28) (World.grownBy_alloc w _ none) (word_made w n.natAbs (by omega) (IntKind.u64.wrap (-IntKind.u64.wrap n)) (by simp only [IntKind.wrap_u64]; omega)) (by decide)
    rw [show (true : Bool) = decide (n < 0) by simp [h]] at F
    have F' : Hid _ := F
    clear F
    go_enter Ybad.func7, Ybad.ntmps7
    go_wp2
    go_ret
    exact ⟨w.heap.size + 1, some ⟨w.heap.size, 0, none⟩, 1, 1, rfl, by simpa [h] using F'.out⟩
  · have h0 : (n == 0) = false := by simp; omega
    have F := int_made (neg := false) (t := 28) (World.grownBy_alloc w _ none) (word_made w n.natAbs (by omega) n (by omega)) (by decide)
    have F' : Hid _ := F
    clear F
    go_enter Ybad.func7, Ybad.ntmps7
    go_wp2
    go_ret
    have hnn : ¬ n < 0 := by omega
    exact ⟨w.heap.size + 1, some ⟨w.heap.size, 0, none⟩, 1, 1, rfl, by simpa [hnn] using F'.out⟩
end Go.Proofs.YbulkawcgDoor
