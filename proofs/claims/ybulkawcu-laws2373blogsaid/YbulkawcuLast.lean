/-
  THE FILE, ITS GENERATOR AND ITS PACKAGE ARE LAID; what the law expects.
-/
import Derived.Test.YbulkawcuSt
import Derived.Test.YbulkawcuPlain
namespace Go.Proofs.Ybulkawcu
open Go.RowKit Go.Deep

def fileCells (sv : Value) : Array Value :=
  #[.string ⟨#[]⟩, .string ⟨#[]⟩, .int .i64 0, .int .i64 0, .int .i64 0, .string ⟨#[]⟩, .slice none 0 0, .slice none 0 0, .slice none 0 0, .slice none 0 0, .slice none 0 0, .slice none 0 0, sv, .slice none 0 0, .slice none 0 0, .slice none 0 0]

/-- The world at the call. -/
def WD (wr : World) (R0 n : Nat) (wt : Int) : World :=
  ((((((wr.alloc (.cells (fileCells (.slice (some ⟨R0, 0, none⟩) n n)) 55)).alloc (.cells #[.string ⟨#[]⟩, .pointer (some ⟨wr.heap.size, 0, none⟩), .pointer (some ⟨wr.heap.size + 1 + 1 + 1, 0, none⟩), .string ⟨#[]⟩, .string ⟨#[]⟩, .map none] 62)).alloc
    (.cells #[.pointer (some ⟨wr.heap.size + 1, 0, none⟩)] 56)).alloc (.cells #[.string ⟨#[]⟩, .slice (some ⟨wr.heap.size + 1 + 1, 0, none⟩) 1 1, .slice none 0 0, .map none, .map none, .map none, .map none, .map none] 70)).alloc
    (.cells #[.int .i64 wt] 3)).alloc (.cells #[.slice none 0 0] 71)).alloc (.cells #[.bool false] 4)

theorem WD_size (wr : World) (R0 n : Nat) (wt : Int) : (WD wr R0 n wt).heap.size = wr.heap.size + 7 := by simp [WD]

theorem WD_below (wr : World) (R0 n : Nat) (wt : Int) : Below wr.heap.size wr (WD wr R0 n wt) :=
  (((((((Below.refl _ _).alloc (by simp) _).alloc (by simp) _).alloc (by simp; omega) _).alloc (by simp; omega) _).alloc (by simp; omega) _).alloc (by simp; omega) _).alloc (by simp; omega) _

theorem push_at (w : World) (o : Obj) (k : Nat) : (w.alloc o).heap[k]? = if k = w.heap.size then some o else w.heap[k]? := by
  show (w.heap.push o)[k]? = _
  rw [Array.getElem?_push]

theorem WD_blocks (wr : World) (R0 n : Nat) (wt : Int) :
    (WD wr R0 n wt).heap[wr.heap.size]? = some (.cells (fileCells (.slice (some ⟨R0, 0, none⟩) n n)) 55) ∧
    (WD wr R0 n wt).heap[wr.heap.size + 1]? = some (.cells #[.string ⟨#[]⟩, .pointer (some ⟨wr.heap.size, 0, none⟩), .pointer (some ⟨wr.heap.size + 1 + 1 + 1, 0, none⟩), .string ⟨#[]⟩, .string ⟨#[]⟩, .map none] 62) ∧
    (WD wr R0 n wt).heap[wr.heap.size + 2]? = some (.cells #[.pointer (some ⟨wr.heap.size + 1, 0, none⟩)] 56) ∧
    (WD wr R0 n wt).heap[wr.heap.size + 3]? = some (.cells #[.string ⟨#[]⟩, .slice (some ⟨wr.heap.size + 1 + 1, 0, none⟩) 1 1, .slice none 0 0, .map none, .map none, .map none, .map none, .map none] 70) ∧
    (WD wr R0 n wt).heap[wr.heap.size + 4]? = some (.cells #[.int .i64 wt] 3) ∧
    (WD wr R0 n wt).heap[wr.heap.size + 4 + 1]? = some (.cells #[.slice none 0 0] 71) ∧
    (WD wr R0 n wt).heap[wr.heap.size + 4 + 2]? = some (.cells #[.bool false] 4) := by
  refine ⟨?_, ?_, ?_, ?_, ?_, ?_, ?_⟩ <;> (unfold WD; simp only [push_at, nblk_alloc]; repeat (first | rw [if_pos True.intro] | rw [if_pos (by omega)] | rw [if_neg (by omega)]))

theorem top_laid {w wr : World} {R0 : Nat} {S : Sp} {fb : Nat → Nat → Nat} {fv : Nat → Value} (hC : StC w R0 S.n S fb fv wr) (wt : Int) :
    Gr (WD wr R0 S.n wt) (wr.heap.size + 4) (R0 + 1) S fb fv ∧
    Top (WD wr R0 S.n wt) (wr.heap.size + 4) wr.heap.size (wr.heap.size + 1) (wr.heap.size + 3) (wr.heap.size + 2) (R0 + 1) S.n (.slice (some ⟨R0, 0, none⟩) S.n S.n) := by
  have hb := WD_below wr R0 S.n wt
  obtain ⟨h0, h1, h2, h3, h4, h5, h6⟩ := WD_blocks wr R0 S.n wt
  have hsz := hC.size
  refine ⟨⟨by omega, fun i hi => (hb.block _ (by omega)).trans (hC.st i hi), fun i hi => ((hC.rows i hi).below hb).mono (by omega), fun i hi j hj => ((hC.fd i hi j hj).below hb).mono (by omega)⟩, ?_⟩
  refine ⟨by omega, by omega, by omega, by omega, ?_, ?_, ?_, ?_, ?_, ?_, ?_, ?_, ?_⟩
  · rw [cellAt h0]; rfl
  · rw [cellAt h0]; rfl
  · rw [cellAt h0]; rfl
  · rw [cellAt h0]; rfl
  · rw [cellAt h1]; rfl
  · rw [cellAt h1]; rfl
  · rw [cellAt h3]; rfl
  · rw [cellAt h2]; rfl
  · refine ⟨_, _, rfl, .inr ⟨R0, rfl, by omega, fun j hj => ?_⟩⟩
    exact (hb.cell (p := ⟨R0, j, none⟩) (by show R0 < _; omega)).trans (hC.row.cell hj)

/-- The row that the law expects, so far. -/
structure StE (W6 : World) (zs : List Int) (v : Value) (wr : World) : Prop where
  bel : Below W6.heap.size W6 wr
  own : wr.ownsRow W6.heap.size 3 1 v zs.length (zs.map (Value.int .i64))

theorem StE.begins (W6 : World) : StE W6 [] (.slice none 0 0) W6 := ⟨Below.refl _ _, World.ownsRow_nil _ _ _ _⟩

theorem own_ne {w : World} {base e n b : Nat} {v : Value} {xs : List Value} {cs : Array Value} {t : TypeId} (hown : w.ownsRow base e 1 v n xs) (hb : w.heap[b]? = some (.cells cs t (0, 0))) (hte : t ≠ e) : some b ≠ v.ownBlock := by
  intro h
  rcases hown.2 with ⟨rfl, _⟩ | ⟨g, cap, cur, rfl, _, hgb, _⟩
  · cases h
  · simp only [Value.ownBlock, Option.some.injEq] at h
    subst h
    rw [hgb] at hb
    cases hb
    exact hte rfl

/-- One more number; what came in, copied, stays. -/
theorem StE.grow {W6 wr w1 : World} {zs : List Int} {v v' : Value} {l : Int} {cs : Array Value} (h : StE W6 zs v wr) (hg : ((wr.alloc (.cells cs 34)).alloc (.cells #[.int .i64 l] 3)).grownBy w1 v.ownBlock)
    (hown1 : w1.ownsRow W6.heap.size 3 1 v' (zs.length + 1) (zs.map (Value.int .i64) ++ [.int .i64 l])) : StE W6 (zs ++ [l]) v' w1 ∧ w1.heap[wr.heap.size]? = some (.cells cs 34 (0, 0)) := by
  have hs := h.bel.size
  have hb2 : Below wr.heap.size wr ((wr.alloc (.cells cs 34)).alloc (.cells #[.int .i64 l] 3)) := ((Below.refl _ _).alloc (Nat.le_refl _) _).alloc (by simp) _
  refine ⟨⟨(h.bel.trans (hb2.mono hs)).grown hg (by simp only [nblk_alloc]; omega) (fun b hb => (h.own.lt b hb).1), by simpa using hown1⟩, ?_⟩
  have hc : ((wr.alloc (.cells cs 34)).alloc (.cells #[.int .i64 l] 3)).heap[wr.heap.size]? = some (.cells cs 34 (0, 0)) := (Below.heap_alloc _ _ _ (by simp)).trans (heap_push _ _ rfl)
  exact (hg.block _ (lt_of_block hc) (own_ne (own_below h.own hb2) hc (by decide))).trans hc

/-! ### The plain side of the last two loops -/

/-- Ahead of the i-th round: the row so far, and whether the search has ended. -/
def Sp.Mid (S : Sp) (wt : Int) (i : Nat) (ys : List Int) (d : Bool) : Prop :=
  (d = false ∧ ys = S.logTo wt i ∧ ∀ m, m < i → S.hit wt m = false) ∨ (d = true ∧ S.End wt ys true)

theorem Sp.Mid.ends {S : Sp} {wt : Int} {ys : List Int} {d : Bool} (h : S.Mid wt S.n ys d) : S.End wt ys d := by
  rcases h with ⟨rfl, rfl, h⟩ | ⟨rfl, h⟩
  · exact .inr ⟨h, rfl, rfl⟩
  · exact h

theorem Sp.mid_union {S : Sp} {wt : Int} {i : Nat} (hu : S.un i = true) (h : ∀ m, m < i → S.hit wt m = false) : S.Mid wt (i + 1) (S.logTo wt i) false := by
  refine .inl ⟨rfl, ?_, fun m hm => ?_⟩
  · rw [Sp.logTo_succ]; simp [Sp.part, hu]
  · by_cases e : m = i
    · subst e; simp [Sp.hit, hu]
    · exact h m (by omega)

theorem Sp.mid_none {S : Sp} {wt : Int} {i : Nat} (hu : S.un i = false) (h : ∀ m, m < i → S.hit wt m = false) (hn : ∀ m, m < S.nf i → (S.tags i)[m]? ≠ some wt) :
    S.Mid wt (i + 1) (S.logTo wt i ++ (S.tags i).take (S.nf i)) false := by
  have hs : scan wt (S.tags i) = (S.tags i, false) := scan_no (fun m hm => hn m (by rw [S.tags_len] at hm; exact hm))
  refine .inl ⟨rfl, ?_, fun m hm => ?_⟩
  · rw [Sp.logTo_succ, List.take_of_length_le (by rw [S.tags_len]; exact Nat.le_refl _)]; simp [Sp.part, hu, hs]
  · by_cases e : m = i
    · subst e; simp [Sp.hit, hs]
    · exact h m (by omega)

theorem Sp.mid_hit {S : Sp} {wt : Int} {i j : Nat} (hi : i < S.n) (hu : S.un i = false) (h : ∀ m, m < i → S.hit wt m = false) (hj : (S.tags i)[j]? = some wt) (hn : ∀ m, m < j → (S.tags i)[m]? ≠ some wt) :
    S.Mid wt (i + 1) (S.logTo wt i ++ (S.tags i).take (j + 1)) true := by
  have hs : scan wt (S.tags i) = ((S.tags i).take (j + 1), true) := scan_hit hj hn
  refine .inr ⟨rfl, .inl ⟨i, hi, by simp [Sp.hit, hu, hs], h, ?_, rfl⟩⟩
  rw [Sp.logTo_succ]; simp [Sp.part, hu, hs]

theorem Sp.End.len {S : Sp} {wt : Int} {zs : List Int} {b : Bool} (hO : S.Ok) (h : S.End wt zs b) : zs.length ≤ 1048576 := by
  have hn := hO.n256
  rcases h with ⟨k, hk, _, _, rfl, _⟩ | ⟨_, rfl, _⟩
  · have := Sp.logTo_len hO wt (k + 1) (by omega)
    omega
  · have := Sp.logTo_len hO wt S.n (Nat.le_refl _)
    omega

theorem Sp.row_len {S : Sp} (hO : S.Ok) (wt : Int) {i j : Nat} (hi : i < S.n) (hj : j ≤ S.nf i) : (S.logTo wt i ++ (S.tags i).take j).length ≤ 524288 := by
  have h1 := Sp.logTo_len hO wt i (by omega)
  have h2 := hO.n256
  have h3 := hO.nf1024 i hi
  simp only [List.length_append, List.length_take, S.tags_len]
  omega
end Go.Proofs.Ybulkawcu
