/-
  SMALL LAWS for the law's own walk.
-/
import Derived.Test.YbulkavzaMem
import Derived.BigQuiet
namespace Go.Proofs.Ybulkavza
open Go.RowKit Plain
theorem Yba.info34 : (Yba.prog.info? 34).map (fun i => (i.zero, i.size, i.bytes)) = some (some (.agg #[.int .u8 0, .int .u64 0, .bool false, .bool false, .bool false, .bool false, .int .i64 0, .int .i64 0, .int .i64 0, .int .i64 0, .int .i64 0, .int .u8 0, .int .i64 0, .slice none 0 0, .int .i64 0]), 15, 112) := by kernel_rfl
theorem Yba.info3 : (Yba.prog.info? 3).map (fun i => (i.zero, i.size, i.bytes)) = some (some (.int .i64 0), 1, 8) := by kernel_rfl
theorem Yba.info39 : (Yba.prog.info? 39).map (fun i => (i.zero, i.size, i.bytes)) = some (some (.agg #[.int .i64 0, .int .i64 0, .bool false, .int .i64 0]), 4, 32) := by kernel_rfl

theorem made_there {w : World} {base e size g n N : Nat} {z : Array Value} (hN : N = n * size) (h : w.ownsRow base e size (.slice (some ⟨g, 0, none⟩) n n) n (madeCells z N).toList) :
    (∀ j, j < N → w.cell? ⟨g, j, none⟩ = some (z[j % z.size]!)) ∧ (∀ j, w.frozen? ⟨g, j, none⟩ = false) ∧ g < w.heap.size := by
  rcases h.2 with ⟨h0, _⟩ | ⟨g', cap, cur, h0, _, hh, h2, h3, h4, h5⟩
  · simp at h0
  · simp at h0
    obtain ⟨rfl, rfl⟩ := h0
    refine ⟨fun j hj => ?_, fun j => ?_, (Array.getElem?_eq_some_iff.1 hh).1⟩
    · rw [cell_of_row w g j cur e (0, 0) hh]
      have e1 : (cur.toList.take (n * size))[j]? = (madeCells z N).toList[j]? := by rw [h5]
      rw [List.getElem?_take, if_pos (by omega)] at e1
      rw [← Array.getElem?_toList, e1]
      simp [madeCells, hj]
    · simp [World.frozen?, hh]

theorem append_zero (ty : TypeId) (sa : Option Addr) (sc : Nat) (w : World) : (Builtin.append_ #[28, 28] ty #[.slice none 0 0, .slice sa 0 sc]).run Yba.prog w = .ok (.slice none 0 0) w := by
  obtain ⟨i0, hi, hz0, hz1, hz2⟩ := info_parts Yba.info5
  cases sa with
  | none => simp [Builtin.append_, run_underlying Yba.underlying28, sizeOf, typeInfo, hi, Builtin.lenOf, Builtin.firstCells]
  | some a => simp [Builtin.append_, run_underlying Yba.underlying28, sizeOf, typeInfo, hi, Builtin.lenOf, Builtin.firstCells, loadCells, loadCellsFrom]

theorem wpList_append_zero {w : World} {ops : Array Oper} {rest : List Oper} {o : Oper} {a : Act} {Q : Exit → Act → World → Prop} (hgd : o.guard = none) (s x : Operand)
    (ho : o.op = .call { callee := .builtin .append, args := #[s, x], argTypes := #[28, 28] }) (sa : Option Addr) (sc : Nat) (hs : a.eval s = .slice none 0 0) (hx : a.eval x = .slice sa 0 sc)
    (h : wpList Yba.prog ops Q rest (a.put o.dst (.slice none 0 0)) w) : wpList Yba.prog ops Q (o :: rest) a w := by
  refine wpList_plain hgd fun K hK => ?_
  have hrun := append_zero o.type sa sc w
  unfold Oper.wp
  simp [execOp, ho, resolve, invoke, builtin, hs, hx, hrun, Result.andThen]
  exact hK _ _ h

/-- 'w' is w', behind a name: the walk does not see through it. -/
def IsW (w' w : World) : Prop := w' = w

/-- A store of a whole struct: the walk stops behind it. -/
theorem wpList_store_stop {ops : Array Oper} {rest : List Oper} {op : Oper} {a : Act} {w : World} {Q : Exit → Act → World → Prop} (hgd : op.guard = none) (ty : TypeId) (x y : Operand) (ho : op.op = .store ty x y)
    (b o : Nat) (cells : Array Value) (hx : a.eval x = .pointer (some ⟨b, o, none⟩)) (hy : a.eval y = .agg cells)
    (ht : w.there b o cells.size) (hi : (Yba.prog.info? ty).map (·.size) = some cells.size) (h1 : cells.all (·.oneCell') = true)
    (h : ∀ w', IsW w' (w.setCells b o cells.toList) → wpList Yba.prog ops Q rest (a.put op.dst undef) w') : wpList Yba.prog ops Q (op :: rest) a w :=
  wpList_store_mid hgd ty x y ho b o cells hx hy ht hi h1 (h _ rfl)

theorem Yba.size34 : (Yba.prog.info? 34).map (·.size) = some 15 := by kernel_rfl

theorem grown_below {w w' : World} (h : w.grownBy w' none) : Below w.heap.size w w' := ⟨h.os, h.tape, h.output, h.size, fun k hk => h.block k hk (by simp)⟩

theorem below_setCells {B : Nat} {a : World} {b : Nat} (hb : B ≤ b) : ∀ (vs : List Value) (o : Nat) {w : World}, Below B a w → Below B a (w.setCells b o vs)
  | [], _, _, h => h
  | v :: vs, o, _, h => below_setCells hb vs (o + 1) (h.setCell (p := ⟨b, o, none⟩) hb v)

theorem there_new (w : World) (Z : Array Value) (t : TypeId) (n : Nat) (h : Z.size = n) : (w.alloc (.cells Z t)).there w.heap.size 0 n := fun j hj => by
  refine ⟨?_, World.frozen?_alloc_at _ _ _ _ rfl⟩
  rw [World.cell?_alloc_at _ _ _ _ rfl, Nat.zero_add, Array.getElem?_eq_getElem (by omega)]; rfl

theorem new_struct {w W : World} {Z : Array Value} {t : TypeId} {cs : List Value} (hW : IsW W ((w.alloc (.cells Z t)).setCells w.heap.size 0 cs)) (hz : Z.size = cs.length) :
    Below w.heap.size w W ∧ W.rangeAt w.heap.size 0 cs ∧ w.heap.size < W.heap.size := by
  have e : W = (w.alloc (.cells Z t)).setCells w.heap.size 0 cs := hW
  subst e
  have hB : Below w.heap.size (w.alloc (.cells Z t)) ((w.alloc (.cells Z t)).setCells w.heap.size 0 cs) := below_setCells (Nat.le_refl _) _ _ (Below.refl _ _)
  refine ⟨((Below.refl _ _).alloc (Nat.le_refl _) _).trans hB, World.rangeAt_setCells_same _ _ _ _ (there_new w Z t _ hz), ?_⟩
  have := hB.size
  simp at this
  omega

/-- A row of octets copied into a block of its own: none, or new. -/
structure StNew (w w' : World) (ao : Option Addr) (sl cp : Nat) : Prop where
  below : Below w.heap.size w w'
  form : (ao = none ∧ sl = 0 ∧ cp = 0) ∨ ∃ g, ao = some ⟨g, 0, none⟩ ∧ w.heap.size ≤ g ∧ g < w'.heap.size ∧ 0 < sl ∧ ∃ ys : List Int, ys.length = sl ∧ ∀ j, j < sl → w'.cell? ⟨g, j, none⟩ = some (.int .u8 (ys.getD j 0))

theorem StNew.at {w w' : World} {ao : Option Addr} {sl cp lw : Nat} (h : StNew w w' ao sl cp) (hl : lw < w.heap.size) : StAt lw w'.heap.size w' (.slice ao sl cp) sl := by
  rcases h.form with ⟨rfl, rfl, rfl⟩ | ⟨g, rfl, h1, h2, h3, h4⟩
  · exact .inl ⟨rfl, rfl⟩
  · exact .inr ⟨g, cp, rfl, by omega, h2, h3, h4⟩

theorem wpList_append_stated {w : World} {ops : Array Oper} {rest : List Oper} {o : Oper} {a : Act} {Q : Exit → Act → World → Prop} (hgd : o.guard = none) (s x : Operand)
    (ho : o.op = .call { callee := .builtin .append, args := #[s, x], argTypes := #[28, 28] }) (sa : Option Addr) (sl sc : Nat) (hs : a.eval s = .slice none 0 0) (hx : a.eval x = .slice sa sl sc) (hsl : sl ≤ 1024)
    (hst : sl = 0 ∨ ∃ sb so, sa = some ⟨sb, so, none⟩ ∧ ∃ ys : List Int, ys.length = sl ∧ ∀ j, j < sl → w.cell? ⟨sb, so + j, none⟩ = some (.int .u8 (ys.getD j 0)))
    (h : ∀ ao cp w', StNew w w' ao sl cp → wpList Yba.prog ops Q rest (a.put o.dst (.slice ao sl cp)) w') : wpList Yba.prog ops Q (o :: rest) a w := by
  by_cases h0 : sl = 0
  · subst h0
    exact wpList_append_zero hgd s x ho sa sc hs hx (h none 0 w ⟨Below.refl _ _, .inl ⟨rfl, rfl, rfl⟩⟩)
  · obtain ⟨i0, hi, hz0, hz1, hz2⟩ := info_parts Yba.info5
    obtain ⟨sb, so, rfl, ys, hy, hc⟩ := hst.resolve_left h0
    have hnews : ∀ j u, (ys.map (Value.int .u8))[j]? = some u → w.cell? ((⟨sb, so, none⟩ : Addr).add j) = some u := by
      intro j u hj
      have hlt : j < sl := by have := (List.getElem?_eq_some_iff.1 hj).1; simpa [hy] using this
      rw [Addr.add_lit, hc j hlt]
      have : (ys.map (Value.int .u8))[j]? = some (.int .u8 (ys.getD j 0)) := by simp [List.getD, show j < ys.length by omega]
      rw [this] at hj
      exact hj
    refine wpList_append_lies w hgd s x 28 ho 0 5 i0 (.int .u8 0) 1 1 Yba.underlying28 hi hz0 hz1 hz2 rfl (by decide) (.slice none 0 0) 0 [] hs (World.ownsRow_nil _ _ _ _) ⟨sb, so, none⟩ sl sc (ys.map (Value.int .u8)) hx (by simp [hy]) hnews (ints_oneCell _ _) (by omega) (by unfold maxLen; omega) (by omega) (Nat.zero_le _) w.heap.size rfl ?_
    intro g cap w' hown hgrow hat hlt
    simp only [Nat.zero_add, List.nil_append] at hown ⊢
    refine h _ _ w' ⟨grown_below hgrow, .inr ⟨g, rfl, ?_, hlt, by omega, ys, hy, fun j hj => ?_⟩⟩
    · rcases hat with h | h
      · simp [Value.ownBlock] at h
      · omega
    · have := hown.cells (g := g) rfl j (.int .u8 (ys.getD j 0)) (by simp [List.getD, show j < ys.length by omega])
      rwa [Addr.add_lit, Nat.zero_add] at this

end Go.Proofs.Ybulkavza
