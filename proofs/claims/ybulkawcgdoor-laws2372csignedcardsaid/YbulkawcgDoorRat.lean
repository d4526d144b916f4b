/-
  MATH/BIG ON THE ROAD: rationals whose denominator is one. The walks of Rat.SetInt (6), Rat.Set (23), Rat.Neg (14), Int.Neg (10), Rat.Num (11), Rat.Denom (13), nat.cmp (24), Int.Cmp (12).
-/
import Derived.Test.YbulkawcgDoorBig
namespace Go.Proofs.YbulkawcgDoor
open Go.RowKit

/-- An Int at ⟨b, o⟩. -/
structure IntAt (w : World) (b o : Nat) (neg : Bool) (k : Nat) : Prop where
  n : w.cell? ⟨b, o, none⟩ = some (.bool neg)
  a : ∃ ao l c, w.cell? ⟨b, o + 1, none⟩ = some (.slice ao l c) ∧ NatAt w (.slice ao l c) k
  b : Blk w b

theorem IntAt.grown {w w' : World} {b o k : Nat} {neg : Bool} {row : Option Nat} (h : IntAt w b o neg k) (g : w.grownBy w' row) (hne : some b ≠ row) (hr : ∀ b, row = some b → Blk w b) : IntAt w' b o neg k := by
  obtain ⟨ao, l, c, h1, h2⟩ := h.a
  have hc : ∀ j, w'.cell? ⟨b, j, none⟩ = w.cell? ⟨b, j, none⟩ := fun j => World.cell?_of_block (g.block b h.b.lt hne)
  exact ⟨(hc _).trans h.n, ⟨ao, l, c, (hc _).trans h1, h2.grown g hr⟩, h.b.grown g hne⟩
theorem IntAt.drew {w : World} {b o k : Nat} {neg : Bool} (h : IntAt w b o neg k) : IntAt w.drew b o neg k := ⟨h.n, h.a, h.b⟩

theorem SetAt.int {w w' : World} {b o k : Nat} {neg : Bool} (h : SetAt w w' b o neg k) : IntAt w' b o neg k := ⟨h.n, h.a, h.b⟩

theorem intSet' (bz oz bx ox : Nat) (b0 neg : Bool) (k : Nat) (w : World) (hne : bz ≠ bx) (hbz : Blk w bz) (z0 : w.cell? ⟨bz, oz, none⟩ = some (.bool b0)) (z1 : w.cell? ⟨bz, oz + 1, none⟩ = some (.slice none 0 0)) (hx : IntAt w bx ox neg k) :
    Calls Ybad.prog 21 #[.pointer (some ⟨bz, oz, none⟩), .pointer (some ⟨bx, ox, none⟩)] w fun e w' => e = .returned (.pointer (some ⟨bz, oz, none⟩)) ∧ SetAt w w' bz oz neg k := by
  obtain ⟨ao, l, c, h1, h2⟩ := hx.a
  exact intSet bz oz bx ox b0 neg ao l c k w hne hbz hx.b z0 z1 hx.n h1 h2

/-- A Rat of denominator one at ⟨b, 0⟩. -/
structure RatAt (w : World) (b : Nat) (neg : Bool) (k : Nat) : Prop where
  a : IntAt w b 0 neg k
  b : IntAt w b 2 false 1

/-- A fresh Rat. -/
structure Fresh (w : World) (b : Nat) : Prop where
  c0 : w.cell? ⟨b, 0, none⟩ = some (.bool false)
  c1 : w.cell? ⟨b, 1, none⟩ = some (.slice none 0 0)
  c2 : w.cell? ⟨b, 2, none⟩ = some (.bool false)
  c3 : w.cell? ⟨b, 3, none⟩ = some (.slice none 0 0)
  b : Blk w b

theorem grown_trans {w w1 w2 : World} {b : Nat} (h : w.grownBy w1 (some b)) (k : w1.grownBy w2 (some b)) : w.grownBy w2 (some b) :=
  ⟨k.os.trans h.os, k.tape.trans h.tape, k.output.trans h.output, Nat.le_trans h.size k.size, fun i hi hne => (k.block i (Nat.lt_of_lt_of_le hi h.size) hne).trans (h.block i hi hne)⟩

theorem IntAt.alloc {w : World} {b o k : Nat} {neg : Bool} (h : IntAt w b o neg k) (ob : Obj) : IntAt (w.alloc ob) b o neg k := h.grown (World.grownBy_alloc w ob none) (by simp) (fun _ e => by cases e)
/-- A store into another cell of the Int's own block. -/
theorem IntAt.setCell {w : World} {b o j k : Nat} {neg : Bool} (h : IntAt w b o neg k) (v : Value) (h1 : j ≠ o) (h2 : j ≠ o + 1) : IntAt (w.setCell ⟨b, j, none⟩ v) b o neg k := by
  obtain ⟨ao, l, c, a1, a2⟩ := h.a
  exact ⟨(cso (.inr h1)).trans h.n, ⟨ao, l, c, (cso (.inr h2)).trans a1, a2.setCell h.b⟩, h.b.setCell _ _⟩
theorem grown_setCell {w : World} {b j : Nat} (v : Value) : w.grownBy (w.setCell ⟨b, j, none⟩ v) (some b) :=
  ⟨rfl, rfl, rfl, by simp, fun i _ hne => Below.heap_setCell _ _ _ _ (fun e => hne (by rw [e]))⟩
theorem grown_any {w w' : World} {b : Nat} (h : w.grownBy w' none) : w.grownBy w' (some b) := ⟨h.os, h.tape, h.output, h.size, fun i hi _ => h.block i hi (by simp)⟩

theorem rat_made {w w1 : World} {b k : Nat} {neg : Bool} (hS : SetAt w w1 b 0 neg k) (k2 : w1.cell? ⟨b, 2, none⟩ = some (.bool false)) (k3 : w1.cell? ⟨b, 3, none⟩ = some (.slice none 0 0)) :
    RatAt ((w1.setCell ⟨b, 3, none⟩ (.slice (some ⟨w1.heap.size, 0, none⟩) 1 1)).alloc (.cells #[.int .u64 1] 49)) b neg k ∧ w.grownBy ((w1.setCell ⟨b, 3, none⟩ (.slice (some ⟨w1.heap.size, 0, none⟩) 1 1)).alloc (.cells #[.int .u64 1] 49)) (some b) := by
  have hb := hS.b.setCell ⟨b, 3, none⟩ (.slice (some ⟨w1.heap.size, 0, none⟩) 1 1)
  have hc : ∀ j, ((w1.setCell ⟨b, 3, none⟩ (.slice (some ⟨w1.heap.size, 0, none⟩) 1 1)).alloc (.cells #[.int .u64 1] 49)).cell? ⟨b, j, none⟩ = (w1.setCell ⟨b, 3, none⟩ (.slice (some ⟨w1.heap.size, 0, none⟩) 1 1)).cell? ⟨b, j, none⟩ := fun j => World.cell?_alloc_past _ _ _ hb.lt
  have hwd := word_made (w1.setCell ⟨b, 3, none⟩ (.slice (some ⟨w1.heap.size, 0, none⟩) 1 1)) 1 (by omega) 1 rfl
  simp only [World.size_setCell] at hwd
  refine ⟨⟨(hS.int.setCell _ (by omega) (by omega)).alloc _, ⟨(hc 2).trans ((cso (.inr (by omega))).trans k2), ⟨_, _, _, (hc 3).trans (css k3), hwd⟩, hb.alloc _⟩⟩, ?_⟩
  exact grown_trans hS.g (grown_trans (grown_setCell _) (World.grownBy_alloc _ _ _))

set_option maxHeartbeats 800000 in
theorem setInt (b p : Nat) (neg : Bool) (k : Nat) (w : World) (hne : b ≠ p) (hf : Fresh w b) (hx : IntAt w p 0 neg k) :
    Calls Ybad.prog 6 #[.pointer (some ⟨b, 0, none⟩), .pointer (some ⟨p, 0, none⟩)] w fun e w' => e = .returned (.pointer (some ⟨b, 0, none⟩)) ∧ RatAt w' b neg k ∧ w.grownBy w' (some b) := by
  go_enter Ybad.func6, Ybad.ntmps6
  go_wp2_with fail
  refine (intSet' b 0 p 0 false neg k _ hne hf.b hf.c0 hf.c1 hx).mono ?_
  rintro e w1 ⟨rfl, hS⟩
  have k3 := (hS.o 3 (by omega) (by omega)).trans hf.c3
  have k2 := (hS.o 2 (by omega) (by omega)).trans hf.c2
  have f3 := hS.b.frozen 3
  go_wp2_with fail
  refine (setWord1 _).mono ?_
  rintro e w2 ⟨rfl, rfl⟩
  have hlt := hS.b.lt
  go_wp2
  go_ret
  exact ⟨rfl, rat_made hS k2 k3⟩

set_option maxHeartbeats 800000 in
theorem ratSet (b c : Nat) (neg : Bool) (k : Nat) (w : World) (hne : b ≠ c) (hf : Fresh w b) (hx : RatAt w c neg k) :
    Calls Ybad.prog 23 #[.pointer (some ⟨b, 0, none⟩), .pointer (some ⟨c, 0, none⟩)] w fun e w' => e = .returned (.pointer (some ⟨b, 0, none⟩)) ∧ RatAt w' b neg k ∧ w.grownBy w' (some b) := by
  have hq := neq24 (a := ⟨b, 0, none⟩) (b := ⟨c, 0, none⟩) (w := w) (by intro e; exact hne (congrArg Addr.block e)) hf.b hx.a.b
  go_enter Ybad.func23, Ybad.ntmps23
  go_wp2
  go_region_with (go_at_call 21; refine (intSet' b 0 c 0 false neg k _ hne ?_ ?_ ?_ ?_).mono ?_; exact hf.b; exact hf.c0; exact hf.c1; exact hx.a.drew; rintro e w1 ⟨rfl, hS⟩)
  have hS1 : SetAt w w1 b 0 neg k := ⟨hS.n, hS.a, hS.o, hS.b, ⟨hS.g.os, hS.g.tape, hS.g.output, hS.g.size, hS.g.block⟩⟩
  have hxb := hx.b.grown hS1.g (by simp [hne.symm]) (fun b' e => by cases e; exact hf.b)
  have k3 := (hS1.o 3 (by omega) (by omega)).trans hf.c3
  have k2 := (hS1.o 2 (by omega) (by omega)).trans hf.c2
  clear hS
  go_wp2
  go_region_with (go_at_call 21; refine (intSet' b 2 c 2 false false 1 _ hne ?_ ?_ ?_ ?_).mono ?_; exact hS1.b; exact k2; exact k3; exact hxb.drew; rintro e w2 ⟨rfl, hS⟩)
  have hS2 : SetAt w1 w2 b 2 false 1 := ⟨hS.n, hS.a, hS.o, hS.b, ⟨hS.g.os, hS.g.tape, hS.g.output, hS.g.size, hS.g.block⟩⟩
  clear hS
  have hA : IntAt w2 b 0 neg k := by
    obtain ⟨ao, l, c', a1, a2⟩ := hS1.a
    exact ⟨(hS2.o 0 (by omega) (by omega)).trans hS1.n, ⟨ao, l, c', (hS2.o 1 (by omega) (by omega)).trans a1, a2.grown hS2.g (fun b' e => by cases e; exact hS1.b)⟩, hS2.b⟩
  obtain ⟨a3, l3, c3, j1, j2⟩ := hS2.a
  have F : Hid (RatAt w2 b neg k ∧ w.grownBy w2 (some b)) := ⟨⟨hA, hS2.int⟩, grown_trans hS1.g hS2.g⟩
  rcases j2 with ⟨_, h0⟩ | ⟨g, cap, cur, e3, _⟩
  · omega
  · have e4 : l3 = 1 := by simp at e3; exact e3.2.1
    subst e4
    clear hS1 hS2 hA hxb k2 k3 e3
    go_wp2
    go_ret
    exact ⟨rfl, F.out⟩

set_option maxHeartbeats 800000 in
theorem ratNeg (b c : Nat) (neg : Bool) (k : Nat) (w : World) (hne : b ≠ c) (hf : Fresh w b) (hx : RatAt w c neg k) :
    Calls Ybad.prog 14 #[.pointer (some ⟨b, 0, none⟩), .pointer (some ⟨c, 0, none⟩)] w fun e w' => e = .returned (.pointer (some ⟨b, 0, none⟩)) ∧ RatAt w' b (decide (0 < k) && !neg) k ∧ w.grownBy w' (some b) := by
  go_enter Ybad.func14, Ybad.ntmps14
  go_wp2_with fail
  refine (ratSet b c neg k w hne hf hx).mono ?_
  rintro e w1 ⟨rfl, hR, hg⟩
  obtain ⟨ao, l, c', a1, a2⟩ := hR.a.a
  have n0 := hR.a.n
  have f0 := hR.a.b.frozen 0
  have F : Hid (RatAt (w1.setCell ⟨b, 0, none⟩ (.bool (decide (0 < k) && !neg))) b (decide (0 < k) && !neg) k ∧ w.grownBy (w1.setCell ⟨b, 0, none⟩ (.bool (decide (0 < k) && !neg))) (some b)) :=
    ⟨⟨⟨css n0, ⟨ao, l, c', (cso (.inr (by omega))).trans a1, a2.setCell hR.a.b⟩, hR.a.b.setCell _ _⟩, hR.b.setCell _ (by omega) (by omega)⟩, grown_trans hg (grown_setCell _)⟩
  rcases a2 with ⟨e3, h0⟩ | ⟨g, cap, cur, e3, h0, _⟩
  · simp at e3
    obtain ⟨rfl, rfl, rfl⟩ := e3
    subst h0
    clear hR hg hf hx
    simp only [Nat.lt_irrefl, decide_false, Bool.false_and] at F
    go_wp2
    go_ret
    exact ⟨rfl, F.out⟩
  · simp at e3
    obtain ⟨rfl, rfl, rfl⟩ := e3
    clear hR hg hf hx
    simp only [h0, decide_true, Bool.true_and] at F
    go_wp2
    go_ret
    exact ⟨rfl, by simpa [h0] using F.out⟩

theorem intSet_same (b o : Nat) (w : World) : Calls Ybad.prog 21 #[.pointer (some ⟨b, o, none⟩), .pointer (some ⟨b, o, none⟩)] w fun e w' => e = .returned (.pointer (some ⟨b, o, none⟩)) ∧ w' = w := by
  have hq := neq32s (a := ⟨b, o, none⟩) (w := w)
  go_enter Ybad.func21, Ybad.ntmps21
  go_wp2
  go_ret
  exact ⟨rfl, rfl⟩

set_option maxHeartbeats 800000 in
theorem intNeg (b : Nat) (neg : Bool) (k : Nat) (w : World) (hx : IntAt w b 0 neg k) :
    Calls Ybad.prog 10 #[.pointer (some ⟨b, 0, none⟩), .pointer (some ⟨b, 0, none⟩)] w fun e w' => e = .returned (.pointer (some ⟨b, 0, none⟩)) ∧ IntAt w' b 0 (decide (0 < k) && !neg) k ∧ w.grownBy w' (some b) := by
  obtain ⟨ao, l, c', a1, a2⟩ := hx.a
  have n0 := hx.n
  have f0 := hx.b.frozen 0
  have F : Hid (IntAt (w.setCell ⟨b, 0, none⟩ (.bool (decide (0 < k) && !neg))) b 0 (decide (0 < k) && !neg) k ∧ w.grownBy (w.setCell ⟨b, 0, none⟩ (.bool (decide (0 < k) && !neg))) (some b)) :=
    ⟨⟨css n0, ⟨ao, l, c', (cso (.inr (by omega))).trans a1, a2.setCell hx.b⟩, hx.b.setCell _ _⟩, grown_setCell _⟩
  rcases a2 with ⟨e3, h0⟩ | ⟨g, cap, cur, e3, h0, _⟩
  · simp at e3
    obtain ⟨rfl, rfl, rfl⟩ := e3
    subst h0
    clear hx
    simp only [Nat.lt_irrefl, decide_false, Bool.false_and] at F
    go_enter Ybad.func10, Ybad.ntmps10
    go_wp2_with (go_at_call 21; refine (intSet_same b 0 _).mono ?_; rintro e w' ⟨rfl, rfl⟩)
    go_ret
    exact ⟨rfl, F.out⟩
  · simp at e3
    obtain ⟨rfl, rfl, rfl⟩ := e3
    clear hx
    simp only [h0, decide_true, Bool.true_and] at F
    go_enter Ybad.func10, Ybad.ntmps10
    go_wp2_with (go_at_call 21; refine (intSet_same b 0 _).mono ?_; rintro e w' ⟨rfl, rfl⟩)
    go_ret
    exact ⟨rfl, by simpa [h0] using F.out⟩

theorem ratNum (b : Nat) (w : World) : Calls Ybad.prog 11 #[.pointer (some ⟨b, 0, none⟩)] w fun e w' => e = .returned (.pointer (some ⟨b, 0, none⟩)) ∧ w' = w := by
  go_enter Ybad.func11, Ybad.ntmps11
  go_wp2
  go_ret
  exact ⟨rfl, rfl⟩

theorem ratDenom (b : Nat) (w : World) (hx : IntAt w b 2 false 1) : Calls Ybad.prog 13 #[.pointer (some ⟨b, 0, none⟩)] w fun e w' => e = .returned (.pointer (some ⟨b, 2, none⟩)) ∧ w' = w := by
  obtain ⟨ao, l, c', a1, a2⟩ := hx.a
  rcases a2 with ⟨e3, h0⟩ | ⟨g, cap, cur, e3, h0, _⟩
  · omega
  · simp at e3
    obtain ⟨rfl, rfl, rfl⟩ := e3
    go_enter Ybad.func13, Ybad.ntmps13
    go_wp2
    go_ret
    exact ⟨rfl, rfl⟩

set_option maxHeartbeats 800000 in
theorem natCmp (v1 v2 : Value) (k : Nat) (w : World) (h1 : NatAt w v1 k) (h2 : NatAt w v2 k) :
    Calls Ybad.prog 24 #[v1, v2] w fun e w' => e = .returned (.int .i64 0) ∧ ∃ n, w' = w.drewN n := by
  rcases h1 with ⟨rfl, rfl⟩ | ⟨g, cap, cur, rfl, h0, hg, hc⟩
  · rcases h2 with ⟨rfl, _⟩ | ⟨g', cap', cur', rfl, h0', _⟩
    · go_enter Ybad.func24, Ybad.ntmps24
      go_wp2
      go_ret
      exact ⟨rfl, 0, rfl⟩
    · omega
  · rcases h2 with ⟨_, rfl⟩ | ⟨g', cap', cur', rfl, h0', hg', hc'⟩
    · omega
    · have c1 := word_cell hg hc
      have c2 := word_cell hg' hc'
      clear hg hc hg' hc'
      have t1 : ¬ ((k : Int) < (k : Int)) := by omega
      go_enter Ybad.func24, Ybad.ntmps24
      go_wp2
      refine wp_loop_rounds 1 ?_
      rw [rounds_succ]
      go_wp2_with fail
      go_quiet (fail)
      go_wp2_with fail
      go_quiet (fail)
      go_wp2_with fail
      go_quiet (fail)
      go_wp2
      go_ret
      exact ⟨rfl, _, by rw [World.drewN_drewN, World.drewN_drewN]⟩

set_option maxHeartbeats 800000 in
theorem intCmp (b1 o1 b2 o2 : Nat) (neg : Bool) (k : Nat) (w : World) (hne : b1 ≠ b2) (h1 : IntAt w b1 o1 neg k) (h2 : IntAt w b2 o2 neg k) :
    Calls Ybad.prog 12 #[.pointer (some ⟨b1, o1, none⟩), .pointer (some ⟨b2, o2, none⟩)] w fun e w' => e = .returned (.int .i64 0) ∧ ∃ n, w' = w.drewN n := by
  have hq := eql32 (a := ⟨b1, o1, none⟩) (b := ⟨b2, o2, none⟩) (w := w) (by intro e; exact hne (congrArg Addr.block e)) h1.b h2.b
  obtain ⟨a1, l1, c1, p1, q1⟩ := h1.a
  obtain ⟨a2, l2, c2, p2, q2⟩ := h2.a
  have n1 := h1.n
  have n2 := h2.n
  have Q1 : Hid (NatAt w (.slice a1 l1 c1) k) := q1
  have Q2 : Hid (NatAt w (.slice a2 l2 c2) k) := q2
  clear h1 h2 q1 q2
  have hnn : (neg == neg) = true := by simp
  go_enter Ybad.func12, Ybad.ntmps12
  go_wp2_with fail
  go_quiet (fail)
  rename_i nq
  go_wp2_with fail
  have P1 : (w.drewN nq).cell? ⟨b1, o1 + 1, none⟩ = some (.slice a1 l1 c1) := p1
  have P2 : (w.drewN nq).cell? ⟨b2, o2 + 1, none⟩ = some (.slice a2 l2 c2) := p2
  have N1 : (w.drewN nq).cell? ⟨b1, o1, none⟩ = some (.bool neg) := n1
  have R1 : Hid (NatAt (w.drewN nq) (.slice a1 l1 c1) k) := Q1.out
  have R2 : Hid (NatAt (w.drewN nq) (.slice a2 l2 c2) k) := Q2.out
  clear Q1 Q2 p1 p2 n1 n2 hq
  generalize hw1 : w.drewN nq = w1 at *
  have HW : Hid (w.drewN nq = w1) := hw1
  clear hw1
  go_quiet ((go_at_call 24; exact Calls.quiet_of (natCmp (.slice a1 l1 c1) (.slice a2 l2 c2) k _ (by exact R1.out) (by exact R2.out))))
  cases neg
  all_goals
    go_wp2
    go_ret
    exact ⟨rfl, _, by rw [← HW.out, World.drewN_drewN]⟩
end Go.Proofs.YbulkawcgDoor
