/-
  THE WALKS of the law's own closure 'is' (4), of copiesType$1$1 (11), ContainsFunc on fields (10), copiesType$1 (9), ContainsFunc on structs (7), copiesType (5).
-/
import Derived.Test.YbulkawcuShim
import Derived.Deep.AppendLies
import Derived.Deep.RegionLaw
namespace Go.Proofs.Ybulkawcu
open Go.RowKit

/-- The law's variables: 'want' (block Q), 'log' (Q + 1), 'bad' (Q + 2). -/
structure LogSt (Q base : Nat) (wt : Int) (zs : List Int) (w : World) : Prop where
  size : base ≤ w.heap.size
  lt : Q + 3 ≤ base
  want : w.heap[Q]? = some (.cells #[.int .i64 wt] 3 (0, 0))
  log : ∃ v, w.heap[Q + 1]? = some (.cells #[v] 71 (0, 0)) ∧ w.ownsRow base 3 1 v zs.length (zs.map (Value.int .i64))
  bad : w.heap[Q + 2]? = some (.cells #[.bool false] 4 (0, 0))

/-- Below 'base' all is as it was, but for block q. -/
structure KeptL (base q : Nat) (w w' : World) : Prop where
  os : w'.os = w.os
  tape : w'.tape = w.tape
  output : w'.output = w.output
  size : w.heap.size ≤ w'.heap.size
  block : ∀ k, k < base → k ≠ q → w'.heap[k]? = w.heap[k]?

theorem KeptL.refl (base q : Nat) (w : World) : KeptL base q w w := ⟨rfl, rfl, rfl, Nat.le_refl _, fun _ _ _ => rfl⟩
theorem KeptL.trans {base q : Nat} {a b c : World} (h : KeptL base q a b) (k : KeptL base q b c) : KeptL base q a c :=
  ⟨k.os.trans h.os, k.tape.trans h.tape, k.output.trans h.output, Nat.le_trans h.size k.size, fun i hi hq => (k.block i hi hq).trans (h.block i hi hq)⟩
theorem KeptL.below {base q N : Nat} {w w' : World} (h : KeptL base q w w') (hq : N ≤ q) (hN : N ≤ base) : Below N w w' :=
  ⟨h.os, h.tape, h.output, h.size, fun k hk => h.block k (by omega) (by omega)⟩
theorem KeptL.cell {base q b o : Nat} {w w' : World} (h : KeptL base q w w') (hb : b < base) (hq : b ≠ q) : w'.cell? ⟨b, o, none⟩ = w.cell? ⟨b, o, none⟩ :=
  World.cell?_of_block (w := w) (h.block b hb hq)

theorem KeptL.drewN {base q : Nat} {w w' : World} (h : KeptL base q w w') (n : Nat) : KeptL base q w (w'.drewN n) := ⟨h.os, h.tape, h.output, h.size, h.block⟩
theorem LogSt.drewN {Q base : Nat} {wt : Int} {zs : List Int} {w : World} (h : LogSt Q base wt zs w) (n : Nat) : LogSt Q base wt zs (w.drewN n) := ⟨h.size, h.lt, h.want, h.log, h.bad⟩

theorem log_end {w w1 : World} {Q base g cap : Nat} {wt l : Int} {zs : List Int} {o : Obj} (hw : w.heap[Q]? = some (.cells #[.int .i64 wt] 3 (0, 0))) (hbad : w.heap[Q + 2]? = some (.cells #[.bool false] 4 (0, 0)))
    {v : Value} (hl : w.heap[Q + 1]? = some (.cells #[v] 71 (0, 0))) (hlt : Q + 3 ≤ base) (hsz : base ≤ w.heap.size) (hfar : ∀ k, k < base → w1.heap[k]? = w.heap[k]?) (hg : (w.drew.alloc o).grownBy w1 v.ownBlock)
    (hown : w1.ownsRow base 3 1 (.slice (some ⟨g, 0, none⟩) (zs.length + 1) cap) (zs.length + 1) (zs.map (Value.int .i64) ++ [.int .i64 l])) :
    LogSt Q base wt (zs ++ [l]) (w1.setCell ⟨Q + 1, 0, none⟩ (.slice (some ⟨g, 0, none⟩) (zs.length + 1) cap)) ∧ KeptL base (Q + 1) w (w1.setCell ⟨Q + 1, 0, none⟩ (.slice (some ⟨g, 0, none⟩) (zs.length + 1) cap)) := by
  have h1 := hg.size
  simp at h1
  refine ⟨⟨by simp; omega, hlt, (Below.heap_setCell _ _ _ _ (by simp)).trans ((hfar _ (by omega)).trans hw), ⟨.slice (some ⟨g, 0, none⟩) (zs.length + 1) cap, ?_, ?_⟩, (Below.heap_setCell _ _ _ _ (by simp)).trans ((hfar _ (by omega)).trans hbad)⟩, ⟨hg.os, hg.tape, hg.output, by simp; omega, fun k hk hq => (Below.heap_setCell _ _ _ _ hq).trans (hfar k hk)⟩⟩
  · have := (hfar (Q + 1) (by omega)).trans hl
    simp [World.setCell, Array.getElem?_modify, this]
  · have := ownsRow_setCell_below hown (a := ⟨Q + 1, 0, none⟩) (by show Q + 1 < base; omega) (.slice (some ⟨g, 0, none⟩) (zs.length + 1) cap)
    simpa using this

theorem Yba.info3 : (Yba.prog.info? 3).map (fun i => (i.zero, i.size, i.bytes)) = some (some (.int .i64 0), 1, 8) := by kernel_rfl

theorem log_far {w w1 : World} {o : Obj} {v : Value} {n base : Nat} {xs : List Value} (hown : w.ownsRow base 3 1 v n xs) (hsz : base ≤ w.heap.size) (hg : (w.drew.alloc o).grownBy w1 v.ownBlock) : ∀ k, k < base → w1.heap[k]? = w.heap[k]? :=
  fun k hk => (hg.block k (by simp; omega) (fun e => by have := (hown.lt k e.symm).1; omega)).trans (Below.heap_alloc _ _ _ (by simp; omega))

theorem log_cell {w w1 : World} {Q : Nat} {v : Value} (hl : w.heap[Q + 1]? = some (.cells #[v] 71 (0, 0))) (h : w1.heap[Q + 1]? = w.heap[Q + 1]?) : w1.cell? ⟨Q + 1, 0, none⟩ = some v ∧ w1.frozen? ⟨Q + 1, 0, none⟩ = false := by
  rw [hl] at h
  exact ⟨by simp [World.cell?, h], by simp [World.frozen?, h]⟩

set_option maxHeartbeats 1000000 in
set_option maxRecDepth 100000 in
theorem is_any {w : World} {N Q base b : Nat} {wt l : Int} {h : Option Addr} {zs : List Int} (hNQ : N ≤ Q) (ht : TyAt w N h l 0 b) (hL : LogSt Q base wt zs w) (hz : zs.length < 1048576) :
    Calls Yba.prog 4 #[ptr b, ptr (Q + 2), ptr (Q + 1), ptr Q] w fun e w' => e = .returned (.bool (l == wt)) ∧ LogSt Q base wt (zs ++ [l]) w' ∧ KeptL base (Q + 1) w w' := by
  obtain ⟨hbN, hh⟩ := ht
  obtain ⟨hsz, hlt, hw, ⟨v, hl, hown⟩, hbad⟩ := hL
  have c0 := cellAt hh 0
  have c6 := cellAt hh 6
  have cl := cellAt hl 0
  have cw := cellAt hw 0
  simp [tyCells] at c0 c6 cl cw
  obtain ⟨i0, hi0, hz0, hz1, hz2⟩ := info_parts Yba.info3
  have hmax : zs.length + 1 ≤ maxLen := by unfold maxLen; omega
  obtain ⟨ao, cp, rfl⟩ := own_form hown
  have hcl2 : (w.alloc (.cells #[.int .i64 l] 3)).cell? ⟨Q + 1, 0, none⟩ = some (.slice ao zs.length cp) := (World.cell?_of_block (w := w) (Below.heap_alloc _ _ _ (by show Q + 1 < _; omega))).trans cl
  unfold ptr
  go_enter Yba.func4, Yba.ntmps4
  go_wp2_with fail
  go_region_law ((refine step_append_lies _ (by rfl) _ _ 71 (by rfl) base 3 i0 (.int .i64 0) 1 8 Yba.underlying71 hi0 hz0 hz1 hz2 rfl (by decide) _ _ _ (by rfl) (hown.drew.alloc _) ⟨w.heap.size, 0, none⟩ 1 1 [.int .i64 l] (by rfl) rfl (cell_one_new _ _ _) (ints_oneCell .i64 [l]) (by omega) hmax (by omega) (by simp; omega) (w.heap.size + 1) (by simp) ?_; intro g cap w1 hown1 hgrow hat hlt1; have hfar := (show Hid _ from log_far hown hsz hgrow); obtain ⟨cl1, hfr1⟩ := log_cell hl (hfar.out (Q + 1) (by omega))))
  all_goals
    have hend := log_end (l := l) hw hbad hl hlt hsz hfar.out hgrow hown1
    have hk := hend.2
    have c62 := (hk.cell (o := 6) (show b < base by omega) (by omega)).trans c6
    have cw2 := (hk.cell (o := 0) (show Q < base by omega) (by omega)).trans cw
    have HE := (show Hid _ from hend)
    clear hend hk hown1 hgrow hat hlt1 hfar cl1 hfr1 hcl2 hown hl hw hbad cl cw c6 c0 hh
    generalize w1.setCell ⟨Q + 1, 0, none⟩ (Value.slice (some { block := g, off := 0 }) (zs.length + 1) cap) = w2 at *
    go_wp2_with fail
    go_quiet (fail)
    go_wp2_with fail
    exact bodyPost_ret (results_tmp rfl _ _ _) rfl ⟨rfl, HE.out.1.drewN _, HE.out.2.drewN _⟩
end Go.Proofs.Ybulkawcu
