/-
  WHAT THE LAW'S LOOPS KEEP: the row of structs, the fields that are laid.
-/
import Derived.Test.YbulkawcuIn
import Derived.Deep.OwnRows
import Derived.Deep.AppendLies
namespace Go.Proofs.Ybulkawcu
open Go.RowKit Go.Deep

theorem TyAt.mono {W : World} {N N' : Nat} {h : Option Addr} {l : Int} (hN : N ≤ N') : ∀ {d b : Nat}, TyAt W N h l d b → TyAt W N' h l d b
  | 0, _, ⟨h1, h2⟩ => ⟨by omega, h2⟩
  | _ + 1, _, ⟨h1, b', h2, h3⟩ => ⟨by omega, b', h2, h3.mono hN⟩

theorem FdAt.mono {W : World} {N N' : Nat} {h : Option Addr} {l : Int} {b : Nat} (hN : N ≤ N') : FdAt W N h l b → FdAt W N' h l b
  | ⟨h1, t, d, h2, h3⟩ => ⟨by omega, t, d, h2, h3.mono hN⟩

theorem RowAt.mono {W : World} {N N' n : Nat} {v : Value} {p : Nat → Nat} (hN : N ≤ N') : RowAt W N v n p → RowAt W N' v n p
  | ⟨ao, cap, h1, h2⟩ => ⟨ao, cap, h1, orRight h2 fun ⟨g, h3, h4, h5⟩ => ⟨g, h3, by omega, h5⟩⟩

/-- The blocks of types and of fields are as they were. -/
def Keep (W W' : World) : Prop := ∀ (b : Nat) (cs : Array Value) (t : TypeId), (t = 42 ∨ t = 45) → W.heap[b]? = some (.cells cs t (0, 0)) → W'.heap[b]? = some (.cells cs t (0, 0))

theorem lt_of_block {W : World} {b : Nat} {o : Obj} (h : W.heap[b]? = some o) : b < W.heap.size := by
  rcases Nat.lt_or_ge b W.heap.size with hlt | hge
  · exact hlt
  · rw [Array.getElem?_eq_none hge] at h; cases h

theorem Keep.refl (W : World) : Keep W W := fun _ _ _ _ h => h
theorem Keep.trans {a b c : World} (h : Keep a b) (k : Keep b c) : Keep a c := fun x cs t ht hx => k x cs t ht (h x cs t ht hx)
theorem Keep.below {W W' : World} (h : Below W.heap.size W W') : Keep W W' := fun b _ _ _ hb => (h.block b (lt_of_block hb)).trans hb
theorem Keep.grown {W W' : World} {base n : Nat} {v : Value} {xs : List Value} (hown : W.ownsRow base 43 1 v n xs) (hg : W.grownBy W' v.ownBlock) : Keep W W' := by
  intro b cs t ht hb
  refine (hg.block b (lt_of_block hb) ?_).trans hb
  intro e
  rcases hown.2 with ⟨rfl, _⟩ | ⟨g, cap, cur, rfl, _, hgb, _⟩
  · cases e
  · simp only [Value.ownBlock, Option.some.injEq] at e
    subst e
    rw [hgb] at hb
    cases hb
    rcases ht with h | h <;> cases h

theorem TyAt.keep {W W' : World} {N N' : Nat} {h : Option Addr} {l : Int} (hK : Keep W W') (hN : N ≤ N') : ∀ {d b : Nat}, TyAt W N h l d b → TyAt W' N' h l d b
  | 0, _, ⟨h1, h2⟩ => ⟨by omega, hK _ _ _ (.inl rfl) h2⟩
  | _ + 1, _, ⟨h1, b', h2, h3⟩ => ⟨by omega, b', hK _ _ _ (.inl rfl) h2, h3.keep hK hN⟩

theorem FdAt.keep {W W' : World} {N N' : Nat} {h : Option Addr} {l : Int} {b : Nat} (hK : Keep W W') (hN : N ≤ N') : FdAt W N h l b → FdAt W' N' h l b
  | ⟨h1, t, d, h2, h3⟩ => ⟨by omega, t, d, hK _ _ _ (.inr rfl) h2, h3.keep hK hN⟩

/-! ### Loop 2: the structs -/

/-- Behind k rounds of the second loop. -/
structure StB (w : World) (R0 n k : Nat) (inp : Nat → SIn) (wr : World) : Prop where
  lo : w.heap.size ≤ R0
  bel : Below w.heap.size w wr
  size : wr.heap.size = R0 + 1 + k
  row : wr.rowIs R0 27 n (fun i => if i < k then ptr (R0 + 1 + i) else .pointer none)
  st : ∀ i, i < k → wr.heap[R0 + 1 + i]? = some (.cells (stCells (inp i).un (.slice none 0 0)) 32 (0, 0))

theorem StB.begins {w wr : World} {n : Nat} {inp : Nat → SIn} (hB : Below w.heap.size w wr) : StB w wr.heap.size n 0 inp (wr.alloc (.cells (madeCells #[.pointer none] n) 27)) where
  lo := hB.size
  bel := hB.alloc hB.size _
  size := by simp
  row := (World.rowIs_made wr (.pointer none) n 27).congr (fun i _ => by simp)
  st i hi := by omega

theorem StB.grow {w wr : World} {R0 n k : Nat} {inp : Nat → SIn} (h : StB w R0 n k inp wr) :
    StB w R0 n (k + 1) inp ((wr.alloc (.cells (stCells (inp k).un (.slice none 0 0)) 32)).setCell ⟨R0, k, none⟩ (ptr (R0 + 1 + k))) where
  lo := h.lo
  bel := (h.bel.alloc h.bel.size _).setCell h.lo _
  size := by simp [h.size]; omega
  row := ((h.row.alloc _).set k _).congr (fun i _ => by
    by_cases h1 : i = k
    · subst h1; simp
    · by_cases h2 : i < k
      · simp [h1, h2, show i < k + 1 by omega]
      · simp [h1, h2, show ¬ i < k + 1 by omega])
  st i hi := by
    have hs := h.size
    refine (Below.heap_setCell _ _ _ _ (by show R0 + 1 + i ≠ R0; omega)).trans ?_
    by_cases h1 : i = k
    · subst h1
      exact heap_push _ _ (by omega)
    · exact (Below.heap_alloc _ _ _ (by omega)).trans (h.st i (by omega))

/-! ### Loop 3: the fields of each -/

/-- Behind k rounds of the third loop: the fields of k structs are laid. -/
structure StC (w : World) (R0 k : Nat) (S : Sp) (fb : Nat → Nat → Nat) (fv : Nat → Value) (wr : World) : Prop where
  lo : w.heap.size ≤ R0
  bel : Below w.heap.size w wr
  size : R0 + 1 + S.n ≤ wr.heap.size
  row : wr.rowIs R0 27 S.n (fun i => ptr (R0 + 1 + i))
  st : ∀ i, i < S.n → wr.heap[R0 + 1 + i]? = some (.cells (stCells (S.un i) (fv i)) 32 (0, 0))
  rows : ∀ i, i < k → RowAt wr wr.heap.size (fv i) (S.nf i) (fb i)
  far : ∀ i, i < k → ∀ g m c, fv i = .slice (some ⟨g, 0, none⟩) m c → R0 + 1 + S.n ≤ g
  fd : ∀ i, i < k → ∀ j, j < S.nf i → FdAt wr wr.heap.size ((S.hd i j).map (ad (R0 + 1))) (S.tg i j) (fb i j)

theorem StB.whole {w wr : World} {R0 n : Nat} {inp : Nat → SIn} (h : StB w R0 n n inp wr) : StC w R0 0 (spOf n inp) (fun _ _ => 0) (fun _ => .slice none 0 0) wr where
  lo := h.lo
  bel := h.bel
  size := by rw [h.size]; exact Nat.le_refl _
  row := h.row.congr (fun i hi => by simp [hi])
  st i hi := h.st i hi
  rows i hi := by omega
  far i hi := by omega
  fd i hi := by omega

theorem StC.below {w wr w' : World} {R0 k : Nat} {S : Sp} {fb : Nat → Nat → Nat} {fv : Nat → Value} (h : StC w R0 k S fb fv wr) (hB : Below wr.heap.size wr w') : StC w R0 k S fb fv w' where
  lo := h.lo
  bel := h.bel.trans (hB.mono h.bel.size)
  size := Nat.le_trans h.size hB.size
  row := h.row.of_block (hB.block _ (by have := h.size; omega))
  st i hi := (hB.block _ (by have := h.size; omega)).trans (h.st i hi)
  rows i hi := ((h.rows i hi).below hB).mono hB.size
  far := h.far
  fd i hi j hj := ((h.fd i hi j hj).below hB).mono hB.size

/-- Behind j rounds of the fourth loop: j fields of struct k are laid; base: the memory's size ahead of the row. -/
structure StD (Wc : World) (R k j : Nat) (S : Sp) (f : Nat → Nat) (v : Value) (wr : World) : Prop where
  bel : Below Wc.heap.size Wc wr
  own : wr.ownsRow Wc.heap.size 43 1 v j ((List.range j).map (fun i => ptr (f i)))
  fd : ∀ i, i < j → FdAt wr wr.heap.size ((S.hd k i).map (ad R)) (S.tg k i) (f i)

theorem StD.row {Wc wr : World} {R k j : Nat} {S : Sp} {f : Nat → Nat} {v : Value} (h : StD Wc R k j S f v wr) : RowAt wr wr.heap.size v j f := by
  have hl := h.own.lt
  have hc := fun g => @World.ownsRow.cells _ _ _ _ _ _ _ h.own g
  rcases h.own.2 with ⟨rfl, h0⟩ | ⟨g, cap, cur, rfl, _⟩
  · exact ⟨none, 0, by rw [h0], .inl h0⟩
  · refine ⟨_, _, rfl, .inr ⟨g, rfl, (hl g rfl).2, fun i hi => ?_⟩⟩
    have := hc g rfl i (ptr (f i)) (by simp [hi])
    have e : (⟨g, 0, none⟩ : Addr).add i = ⟨g, i, none⟩ := by
      simp only [Addr.add]
      split
      · simp_all
      · simp
    rw [e] at this
    exact this

theorem Yba.info43 : (Yba.prog.info? 43).map (fun i => (i.zero, i.size, i.bytes)) = some (some (.pointer none), 1, 8) := by kernel_rfl

/-- 'make' of no fields with room for c. -/
theorem make43 (c : Nat) (hc : c ≤ 1048576) (w : World) :
    (Instr.makeSlice 30 (.int .i64 0) (.int .i64 (c : Int))).run Yba.prog w = .ok (.slice (some ⟨w.heap.size, 0, none⟩) 0 c) (w.alloc (.cells (madeCells #[.pointer none] c) 43)) := by
  obtain ⟨i0, hi0, hz0, hz1, hz2⟩ := info_parts Yba.info43
  have := run_make (P := Yba.prog) w 30 43 i0 (.pointer none) Yba.underlying30 hi0 hz0 .i64 .i64 0 c (by omega) (by omega) (by rw [hz2]; omega) (by omega)
  simpa [hz1, Value.cells] using this

theorem StD.begins (Wc : World) (R k c : Nat) (S : Sp) (hc : c ≤ 1048576) : StD Wc R k 0 S (fun _ => 0) (.slice (some ⟨Wc.heap.size, 0, none⟩) 0 c) (Wc.alloc (.cells (madeCells #[.pointer none] c) 43)) where
  bel := (Below.refl _ _).alloc (Nat.le_refl _) _
  own := ⟨by simp, .inr ⟨Wc.heap.size, c, madeCells #[.pointer none] c, rfl, Nat.le_refl _, heap_push _ _ rfl, by omega, by unfold maxLen; omega, by simp [size_madeCells], by simp⟩⟩
  fd i hi := by omega

/-- A leaf is laid behind the copy of the field that came in. -/
structure Leaf (wr : World) (h : Option Addr) (l : Int) (dp : Nat) (W5 : World) : Prop where
  ty : TyAt W5 W5.heap.size h l 0 (wr.heap.size + 1)
  bel : Below wr.heap.size wr W5
  size : W5.heap.size = wr.heap.size + 2
  c0 : W5.cell? ⟨wr.heap.size, 0, none⟩ = some (.int .u8 dp)

theorem Leaf.said {wr W5 : World} {h h' : Option Addr} {l l' : Int} {dp : Nat} (hL : Leaf wr h l dp W5) (e1 : h = h') (e2 : l = l') : Leaf wr h' l' dp W5 := by subst e1 e2; exact hL

theorem leaf_laid (wr : World) (dp : Nat) (x1 x2 x3 : Value) (h : Option Addr) (l : Int) :
    Leaf wr h l dp ((wr.alloc (.cells #[.int .u8 dp, x1, x2, x3] 34)).alloc (.cells #[.int .i64 13, .pointer none, .pointer none, .pointer none, .pointer none, .pointer h, .int .i64 l, .pointer none] 42)) where
  ty := ⟨by simp, heap_push _ _ (by simp)⟩
  bel := ((Below.refl _ _).alloc (Nat.le_refl _) _).alloc (by simp) _
  size := by simp
  c0 := by
    have : ((wr.alloc (.cells #[.int .u8 dp, x1, x2, x3] 34)).alloc (.cells #[.int .i64 13, .pointer none, .pointer none, .pointer none, .pointer none, .pointer h, .int .i64 l, .pointer none] 42)).heap[wr.heap.size]? = some (.cells #[.int .u8 dp, x1, x2, x3] 34) :=
      (Below.heap_alloc _ _ _ (by simp)).trans (heap_push _ _ rfl)
    simp [cellAt this]

/-- One more array around. -/
theorem TyAt.around {wr : World} {h : Option Addr} {l : Int} {d b : Nat} (ht : TyAt wr wr.heap.size h l d b) : TyAt (wr.alloc (.cells (tyCells 12 none 2 (some ⟨b, 0, none⟩)) 42)) (wr.alloc (.cells (tyCells 12 none 2 (some ⟨b, 0, none⟩)) 42)).heap.size h l (d + 1) wr.heap.size :=
  ⟨by simp, b, heap_push _ _ rfl, ht.keep (Keep.below ((Below.refl _ _).alloc (Nat.le_refl _) _)) (by simp)⟩

theorem own_below {w w' : World} {base e n : Nat} {v : Value} {xs : List Value} (h : w.ownsRow base e 1 v n xs) (hB : Below w.heap.size w w') : w'.ownsRow base e 1 v n xs := by
  obtain ⟨h1, h2⟩ := h
  refine ⟨h1, orRight h2 ?_⟩
  rintro ⟨g, cap, cur, rfl, h3, h4, h5⟩
  exact ⟨g, cap, cur, rfl, h3, (hB.block g (lt_of_block h4)).trans h4, h5⟩

/-- The one cell that is appended, two blocks on. -/
theorem news_two (w : World) (F : Obj) (x : Value) (t : TypeId) : ∀ j u, [x][j]? = some u → ((w.alloc F).alloc (.cells #[x] t)).cell? ((⟨w.heap.size + 1, 0, none⟩ : Addr).add j) = some u :=
  World.news_of_block (cs := #[x]) (heap_push (w.alloc F) (.cells #[x] t) (by simp))

theorem one_ptr (x : Option Addr) : ∀ u ∈ [Value.pointer x], u.oneCell' = true := by
  intro u hu
  simp only [List.mem_singleton] at hu
  subst hu
  rfl

/-- One more field. -/
theorem StD.grow {Wc wD wr w1 : World} {R k j g cap d b5 : Nat} {S : Sp} {f : Nat → Nat} {v : Value} (hD : StD Wc R k j S f v wD) (hB : Below wD.heap.size wD wr)
    (hT : TyAt wr wr.heap.size ((S.hd k j).map (ad R)) (S.tg k j) d b5)
    (hg : ((wr.alloc (.cells (fdCells (some ⟨b5, 0, none⟩)) 45)).alloc (.cells #[ptr wr.heap.size] 43)).grownBy w1 v.ownBlock)
    (hown1 : w1.ownsRow Wc.heap.size 43 1 (.slice (some ⟨g, 0, none⟩) (j + 1) cap) (j + 1) ((List.range j).map (fun i => ptr (f i)) ++ [ptr wr.heap.size])) :
    StD Wc R k (j + 1) S (fun i => if i = j then wr.heap.size else f i) (.slice (some ⟨g, 0, none⟩) (j + 1) cap) w1 := by
  have hown := own_below hD.own hB
  have h0 := hD.bel.size
  have h1 := hB.size
  have hgs := hg.size
  simp only [nblk_alloc] at hgs
  have hb2 : Below wr.heap.size wr ((wr.alloc (.cells (fdCells (some ⟨b5, 0, none⟩)) 45)).alloc (.cells #[ptr wr.heap.size] 43)) := ((Below.refl _ _).alloc (Nat.le_refl _) _).alloc (by simp) _
  have hK2 : Keep ((wr.alloc (.cells (fdCells (some ⟨b5, 0, none⟩)) 45)).alloc (.cells #[ptr wr.heap.size] 43)) w1 := Keep.grown (own_below hown hb2) hg
  have hK1 : Keep wr w1 := (Keep.below hb2).trans hK2
  have hK0 : Keep wD w1 := (Keep.below hB).trans hK1
  refine ⟨?_, ?_, ?_⟩
  · refine ((hD.bel.trans (hB.mono h0)).trans (hb2.mono (by omega))).grown hg (by simp only [nblk_alloc]; omega) ?_
    intro b hb
    exact (hown.lt b hb).1
  · have e : (List.range (j + 1)).map (fun i => ptr (if i = j then wr.heap.size else f i)) = (List.range j).map (fun i => ptr (f i)) ++ [ptr wr.heap.size] := by
      rw [List.range_succ, List.map_append]
      congr 1
      · refine List.map_congr_left fun i hi => ?_
        rw [if_neg (by have := List.mem_range.1 hi; omega)]
      · simp
    rw [e]
    exact hown1
  · intro i hi
    by_cases h : i = j
    · subst h
      simp only [if_true]
      refine ⟨by omega, b5, d, ?_, hT.keep hK1 (by omega)⟩
      exact hK2 _ _ _ (.inr rfl) ((Below.heap_alloc _ _ _ (by simp)).trans (heap_push _ _ rfl))
    · simp only [h, if_false]
      exact (hD.fd i (by omega)).keep hK0 (by omega)

/-- Struct k's fields are laid, its row stored in it. -/
theorem StD.whole {w Wc wr : World} {R0 k : Nat} {S : Sp} {fb : Nat → Nat → Nat} {fv : Nat → Value} {f : Nat → Nat} {v : Value} (hk : k < S.n) (hC : StC w R0 k S fb fv Wc) (hD : StD Wc (R0 + 1) k (S.nf k) S f v wr) :
    StC w R0 (k + 1) S (fun i j => if i = k then f j else fb i j) (fun i => if i = k then v else fv i) (wr.setCell ⟨R0 + 1 + k, 9, none⟩ v) := by
  have hC' := hC.below hD.bel
  have hlo := hC.lo
  have hsz := hC.size
  have hbig := hD.bel.size
  have hfr : ∀ b, b ≠ R0 + 1 + k → (wr.setCell ⟨R0 + 1 + k, 9, none⟩ v).heap[b]? = wr.heap[b]? := fun b hb => Below.heap_setCell _ _ _ _ hb
  have hK : Keep wr (wr.setCell ⟨R0 + 1 + k, 9, none⟩ v) := by
    intro b cs t ht hb
    refine (hfr b ?_).trans hb
    rintro rfl
    have := hC'.st k hk
    rw [hb] at this
    cases this
    rcases ht with h | h <;> cases h
  have hRow : ∀ {u : Value} {m : Nat} {p : Nat → Nat}, RowAt wr wr.heap.size u m p → (∀ g c, u = .slice (some ⟨g, 0, none⟩) m c → g ≠ R0 + 1 + k) → RowAt (wr.setCell ⟨R0 + 1 + k, 9, none⟩ v) wr.heap.size u m p := by
    rintro u m p ⟨ao, cap, rfl, h⟩ hne
    refine ⟨ao, cap, rfl, orRight h ?_⟩
    rintro ⟨g, rfl, hg, hc⟩
    exact ⟨g, rfl, hg, fun j hj => (World.cell?_of_block (w := wr) (hfr g (hne g cap rfl))).trans (hc j hj)⟩
  refine ⟨hlo, hC'.bel.setCell (by show w.heap.size ≤ R0 + 1 + k; omega) _, by simp; omega, hC'.row.setOther (by show R0 ≠ R0 + 1 + k; omega) _, ?_, ?_, ?_, ?_⟩
  · intro i hi
    by_cases h1 : i = k
    · subst h1
      have := hC'.st i hi
      simp [World.setCell, Array.getElem?_modify, this, stCells]
    · simp only [h1, if_false]
      exact (hfr _ (by omega)).trans (hC'.st i hi)
  · intro i hi
    rw [nblk_setCell]
    by_cases h1 : i = k
    · subst h1
      simp only [if_true]
      refine hRow hD.row ?_
      rintro g c rfl
      have := hD.own.lt g rfl
      omega
    · simp only [h1, if_false]
      refine hRow (hC'.rows i (by omega)) ?_
      intro g c e
      have := hC.far i (by omega) g _ c e
      omega
  · intro i hi g m c e
    by_cases h1 : i = k
    · subst h1
      simp only [if_true] at e
      subst e
      have := hD.own.lt g rfl
      omega
    · simp only [h1, if_false] at e
      exact hC.far i (by omega) g m c e
  · intro i hi j hj
    rw [nblk_setCell]
    by_cases h1 : i = k
    · subst h1
      simp only [if_true]
      exact (hD.fd j hj).keep hK (Nat.le_refl _)
    · simp only [h1, if_false]
      exact (hC'.fd i (by omega) j hj).keep hK (Nat.le_refl _)
end Go.Proofs.Ybulkawcu
