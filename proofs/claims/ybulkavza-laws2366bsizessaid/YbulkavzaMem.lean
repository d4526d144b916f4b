/-
  THE LAW's OWN MEMORY: what it lays, and what came in.
-/
import Derived.Test.YbulkavzaDone
import Derived.Deep.MidRow
namespace Go.Proofs.Ybulkavza
open Go.RowKit Plain

/-- A node that came in. -/
structure In where
  c : Nat
  tg : Nat
  con : Bool
  raw : Bool
  ln : Nat
  f : Nat
  lo : Nat
  sa : Option Addr
  sl : Nat
  sc : Nat

structure InAt (w : World) (b o : Nat) (x : In) : Prop where
  h0 : w.cell? ⟨b, o, none⟩ = some (.int .u8 x.c)
  h1 : w.cell? ⟨b, o + 1, none⟩ = some (.int .u64 x.tg)
  h2 : w.cell? ⟨b, o + 2, none⟩ = some (.bool x.con)
  h3 : w.cell? ⟨b, o + 3, none⟩ = some (.bool x.raw)
  h4 : w.cell? ⟨b, o + 4, none⟩ = some (.int .u16 x.ln)
  h5 : w.cell? ⟨b, o + 5, none⟩ = some (.int .u8 x.f)
  h6 : w.cell? ⟨b, o + 6, none⟩ = some (.int .u8 x.lo)
  h7 : w.cell? ⟨b, o + 7, none⟩ = some (.slice x.sa x.sl x.sc)
  st : x.sl = 0 ∨ ∃ sb so, x.sa = some ⟨sb, so, none⟩ ∧ ∃ ys : List Int, ys.length = x.sl ∧ ∀ j, j < x.sl → w.cell? ⟨sb, so + j, none⟩ = some (.int .u8 (ys.getD j 0))
  tgr : x.tg < 18446744073709551616
  lnr : x.ln < 65536
  fr : x.f < 256
  lor : x.lo < 256

def In.nd (x : In) (st : Value) : Nd := ⟨(x.c : Int) % 4, x.tg, x.con, x.raw, x.f % 4, 1 + x.lo % 8, st, x.sl⟩

theorem In.ok {w : World} {b o : Nat} {x : In} (h : InAt w b o x) (hs : x.sl ≤ 1024) (st : Value) : (x.nd st).Ok := ⟨h.tgr, by simp [In.nd]; omega, hs⟩

theorem InAt.below {w w' : World} {b o B : Nat} {x : In} (h : InAt w b o x) (hB : Below B w w') (hb : w.heap.size ≤ B) : InAt w' b o x := by
  have hc : ∀ {a : Addr} {v : Value}, w.cell? a = some v → w'.cell? a = some v := fun {a v} hv => (hB.cell (p := a) (Nat.lt_of_lt_of_le (World.block_lt_of_cell? w a hv) hb)).trans hv
  refine ⟨hc h.h0, hc h.h1, hc h.h2, hc h.h3, hc h.h4, hc h.h5, hc h.h6, hc h.h7, ?_, h.tgr, h.lnr, h.fr, h.lor⟩
  rcases h.st with h0 | ⟨sb, so, e, ys, hy, hcs⟩
  · exact .inl h0
  · exact .inr ⟨sb, so, e, ys, hy, fun j hj => hc (hcs j hj)⟩

/-- A filled node's cells. -/
def nodeCells (d : Nd) (l : Int) : List Value :=
  [.int .u8 d.c, .int .u64 d.tg, .bool d.con, .bool false, .bool false, .bool d.raw, .int .i64 l, .int .i64 0, .int .i64 0, .int .i64 0, .int .i64 0, .int .u8 d.f, .int .i64 d.lo, d.st, .int .i64 0]

/-- What the law has laid: k nodes and l lengths are filled. -/
structure Mem (bn bl bs bx m k l : Nat) (d : Nat → Nd) (L : Nat → Int) (w : World) : Prop where
  zn : ∀ j, w.frozen? ⟨bn, j, none⟩ = false
  zl : ∀ j, w.frozen? ⟨bl, j, none⟩ = false
  zs : ∀ j, w.frozen? ⟨bs, j, none⟩ = false
  zx : ∀ j, w.frozen? ⟨bx, j, none⟩ = false
  there : ∀ j, j < m * 15 → (w.cell? ⟨bn, j, none⟩).isSome = true
  thereL : ∀ i, i < m → (w.cell? ⟨bl, i, none⟩).isSome = true
  S : ∀ i, i < m → w.cell? ⟨bs, i, none⟩ = some (.int .i64 0)
  X : ∀ i, i < m → w.cell? ⟨bx, i, none⟩ = some (.int .i64 0)
  node : ∀ i, i < k → w.rangeAt bn (i * 15) (nodeCells (d i) (L i)) ∧ StAt bx w.heap.size w (d i).st (d i).sl
  len : ∀ i, i < l → w.cell? ⟨bl, i, none⟩ = some (.int .i64 (L i))
  lt : bx < w.heap.size

theorem StAt.wider {lw hw hw' : Nat} {w : World} {st : Value} {sl : Nat} (h : StAt lw hw w st sl) (hh : hw ≤ hw') : StAt lw hw' w st sl := by
  rcases h with h | ⟨g, cap, e, h1, h2, h3⟩
  · exact .inl h
  · exact .inr ⟨g, cap, e, h1, by omega, h3⟩
theorem NodeAt.wider {lw hw hw' bn off : Nat} {w : World} {d : Nd} {l : Int} (h : NodeAt lw hw w bn off d l) (hh : hw ≤ hw') : NodeAt lw hw' w bn off d l :=
  ⟨h.h0, h.h1, h.h2, h.h5, h.h6, h.h11, h.h12, h.h13, h.st.wider hh⟩

section
variable {bn bl bs bx m k l : Nat} {d : Nat → Nd} {L : Nat → Int} {w w' : World}

/-- New blocks alone. -/
theorem Mem.below (h : Mem bn bl bs bx m k l d L w) (o : bn < bl ∧ bl < bs ∧ bs < bx) (hB : Below w.heap.size w w') : Mem bn bl bs bx m k l d L w' := by
  obtain ⟨o1, o2, o3⟩ := o
  have hl := h.lt
  have hc : ∀ b j, b < w.heap.size → w'.cell? ⟨b, j, none⟩ = w.cell? ⟨b, j, none⟩ := fun b j hlt => hB.cell (p := ⟨b, j, none⟩) hlt
  have hf : ∀ b j, b < w.heap.size → w'.frozen? ⟨b, j, none⟩ = w.frozen? ⟨b, j, none⟩ := fun b j hlt => hB.frozen (p := ⟨b, j, none⟩) hlt
  refine ⟨fun j => (hf _ _ (by omega)).trans (h.zn j), fun j => (hf _ _ (by omega)).trans (h.zl j), fun j => (hf _ _ (by omega)).trans (h.zs j), fun j => (hf _ _ (by omega)).trans (h.zx j),
    fun j hj => by rw [hc _ _ (by omega)]; exact h.there j hj, fun j hj => by rw [hc _ _ (by omega)]; exact h.thereL j hj, fun j hj => (hc _ _ (by omega)).trans (h.S j hj), fun j hj => (hc _ _ (by omega)).trans (h.X j hj), fun i hi => ?_, fun i hi => (hc _ _ (by omega)).trans (h.len i hi), by have := hB.size; omega⟩
  obtain ⟨a, b⟩ := h.node i hi
  exact ⟨fun j v hv => (hc _ _ (by omega)).trans (a j v hv), (b.same (fun g j _ hg => hc _ _ hg)).wider hB.size⟩
theorem sc_out {w : World} {b o b' o' : Nat} {vs : List Value} (h : b' ≠ b ∨ o' < o ∨ o + vs.length ≤ o') : (w.setCells b o vs).cell? ⟨b', o', none⟩ = w.cell? ⟨b', o', none⟩ :=
  World.cell?_setCells_out b vs o w ⟨b', o', none⟩ (fun hb _ => by simp only at hb; rcases h with h | h | h <;> first | exact absurd hb h | exact .inl h | exact .inr h)

theorem Mem.fill (h : Mem bn bl bs bx m k l d L w) (o : bn < bl ∧ bl < bs ∧ bs < bx) (hk : k < m) (hst : StAt bx w.heap.size w (d k).st (d k).sl) :
    Mem bn bl bs bx m (k + 1) l d L (w.setCells bn (k * 15) (nodeCells (d k) (L k))) := by
  obtain ⟨o1, o2, o3⟩ := o
  have hlen : (nodeCells (d k) (L k)).length = 15 := rfl
  have hin : ∀ j (hj : j < 15) v, (nodeCells (d k) (L k))[j]? = some v → (w.setCells bn (k * 15) (nodeCells (d k) (L k))).cell? ⟨bn, k * 15 + j, none⟩ = some v := by
    intro j hj v hv
    rw [World.cell?_setCells_in bn _ _ w (fun i hi => h.there _ (by rw [hlen] at hi; omega)) j (by rw [hlen]; exact hj), ← hv]
    exact (List.getElem?_eq_getElem _).symm
  have hsz : (w.setCells bn (k * 15) (nodeCells (d k) (L k))).heap.size = w.heap.size := by simp [nodeCells, World.setCells]
  refine ⟨fun j => by rw [World.frozen?_setCells]; exact h.zn j, fun j => by rw [World.frozen?_setCells]; exact h.zl j, fun j => by rw [World.frozen?_setCells]; exact h.zs j, fun j => by rw [World.frozen?_setCells]; exact h.zx j,
    fun j hj => World.isSome_setCells _ _ _ _ _ (h.there j hj), fun j hj => by rw [sc_out (.inl (by omega))]; exact h.thereL j hj,
    fun j hj => (sc_out (.inl (by omega))).trans (h.S j hj), fun j hj => (sc_out (.inl (by omega))).trans (h.X j hj), fun i hi => ?_, fun i hi => (sc_out (.inl (by omega))).trans (h.len i hi), by rw [hsz]; exact h.lt⟩
  rw [hsz]
  by_cases e : i = k
  · subst e
    exact ⟨fun j v hv => hin j (by have := (List.getElem?_eq_some_iff.1 hv).1; rw [hlen] at this; exact this) v hv, hst.same fun g j h1 _ => sc_out (.inl (by omega))⟩
  · obtain ⟨a, b⟩ := h.node i (by omega)
    exact ⟨fun j v hv => by
      have hj := (List.getElem?_eq_some_iff.1 hv).1
      have hj' : j < 15 := hj
      rw [sc_out (.inr (by rw [hlen]; omega))]; exact a j v hv, b.same fun g j h1 _ => sc_out (.inl (by omega))⟩

theorem Mem.putLen (h : Mem bn bl bs bx m k l d L w) (o : bn < bl ∧ bl < bs ∧ bs < bx) (hl : l < m) :
    Mem bn bl bs bx m k (l + 1) d L (w.setCell ⟨bl, l, none⟩ (.int .i64 (L l))) := by
  obtain ⟨o1, o2, o3⟩ := o
  obtain ⟨u, hu⟩ := Option.isSome_iff_exists.1 (h.thereL l hl)
  refine ⟨fun j => by simpa using h.zn j, fun j => by simpa using h.zl j, fun j => by simpa using h.zs j, fun j => by simpa using h.zx j,
    fun j hj => by rw [cso (.inl (by omega))]; exact h.there j hj, fun j hj => ?_, fun j hj => (cso (.inl (by omega))).trans (h.S j hj), fun j hj => (cso (.inl (by omega))).trans (h.X j hj), fun i hi => ?_, fun i hi => ?_, by simpa using h.lt⟩
  · by_cases e : j = l
    · subst e; rw [css hu]; rfl
    · rw [cso (.inr (by omega))]; exact h.thereL j hj
  · obtain ⟨a, b⟩ := h.node i hi
    simp only [World.size_setCell]
    exact ⟨fun j v hv => (cso (.inl (by omega))).trans (a j v hv), b.same fun g j h1 _ => cso (.inl (by omega))⟩
  · by_cases e : i = l
    · subst e; exact css hu
    · exact (cso (.inr (by omega))).trans (h.len i (by omega))
end


theorem NodeAt.of_range {lw hw bn off : Nat} {w : World} {d : Nd} {l : Int} (h : w.rangeAt bn off (nodeCells d l)) (hs : StAt lw hw w d.st d.sl) : NodeAt lw hw w bn off d l :=
  ⟨h 0 _ rfl, h 1 _ rfl, h 2 _ rfl, h 5 _ rfl, h 6 _ rfl, h 11 _ rfl, h 12 _ rfl, h 13 _ rfl, hs⟩

/-- The law's own model: what its three rows hold. -/
structure Mdl (bl bs bx m : Nat) (L S X : Nat → Int) (w : World) : Prop where
  zl : ∀ j, w.frozen? ⟨bl, j, none⟩ = false
  zs : ∀ j, w.frozen? ⟨bs, j, none⟩ = false
  zx : ∀ j, w.frozen? ⟨bx, j, none⟩ = false
  l : ∀ i, i < m → w.cell? ⟨bl, i, none⟩ = some (.int .i64 (L i))
  s : ∀ i, i < m → w.cell? ⟨bs, i, none⟩ = some (.int .i64 (S i))
  x : ∀ i, i < m → w.cell? ⟨bx, i, none⟩ = some (.int .i64 (X i))

/-- Of what lay below B only the blocks bl, bs, bx have turned. -/
structure Kept3 (B bl bs bx : Nat) (w w' : World) : Prop where
  os : w'.os = w.os
  tape : w'.tape = w.tape
  output : w'.output = w.output
  size : w.heap.size ≤ w'.heap.size
  block : ∀ k, k < B → k ≠ bl → k ≠ bs → k ≠ bx → w'.heap[k]? = w.heap[k]?

section
variable {B bl bs bx m : Nat} {L S X : Nat → Int} {w w' w'' : World}
theorem Kept3.refl (w : World) : Kept3 B bl bs bx w w := ⟨rfl, rfl, rfl, Nat.le_refl _, fun _ _ _ _ _ => rfl⟩
theorem Kept3.trans (h : Kept3 B bl bs bx w w') (k : Kept3 B bl bs bx w' w'') : Kept3 B bl bs bx w w'' :=
  ⟨k.os.trans h.os, k.tape.trans h.tape, k.output.trans h.output, Nat.le_trans h.size k.size, fun i hi h1 h2 h3 => (k.block i hi h1 h2 h3).trans (h.block i hi h1 h2 h3)⟩
theorem Kept3.below (h : Kept3 B bl bs bx w w') (k : Below B w' w'') : Kept3 B bl bs bx w w'' := h.trans ⟨k.os, k.tape, k.output, k.size, fun i hi _ _ _ => k.block i hi⟩
theorem Kept3.setL (h : Kept3 B bl bs bx w w') (j : Nat) (v : Value) : Kept3 B bl bs bx w (w'.setCell ⟨bl, j, none⟩ v) := h.trans ⟨rfl, rfl, rfl, by simp, fun _ _ h1 _ _ => Below.heap_setCell _ _ _ _ h1⟩
theorem Kept3.setS (h : Kept3 B bl bs bx w w') (j : Nat) (v : Value) : Kept3 B bl bs bx w (w'.setCell ⟨bs, j, none⟩ v) := h.trans ⟨rfl, rfl, rfl, by simp, fun _ _ _ h1 _ => Below.heap_setCell _ _ _ _ h1⟩
theorem Kept3.setX (h : Kept3 B bl bs bx w w') (j : Nat) (v : Value) : Kept3 B bl bs bx w (w'.setCell ⟨bx, j, none⟩ v) := h.trans ⟨rfl, rfl, rfl, by simp, fun _ _ _ _ h1 => Below.heap_setCell _ _ _ _ h1⟩
theorem Kept3.cell (h : Kept3 B bl bs bx w w') {b j : Nat} (hb : b < B) (h1 : b ≠ bl) (h2 : b ≠ bs) (h3 : b ≠ bx) : w'.cell? ⟨b, j, none⟩ = w.cell? ⟨b, j, none⟩ := World.cell?_of_block (h.block b hb h1 h2 h3)
theorem Kept3.frozen (h : Kept3 B bl bs bx w w') {b j : Nat} (hb : b < B) (h1 : b ≠ bl) (h2 : b ≠ bs) (h3 : b ≠ bx) : w'.frozen? ⟨b, j, none⟩ = w.frozen? ⟨b, j, none⟩ := World.frozen?_of_block (h.block b hb h1 h2 h3)

theorem Mdl.below (h : Mdl bl bs bx m L S X w) (o : bl < bs ∧ bs < bx ∧ bx < B) (hB : Below B w w') : Mdl bl bs bx m L S X w' := by
  obtain ⟨o1, o2, o3⟩ := o
  have hc : ∀ b j, b < B → w'.cell? ⟨b, j, none⟩ = w.cell? ⟨b, j, none⟩ := fun b j hlt => hB.cell (p := ⟨b, j, none⟩) hlt
  have hf : ∀ b j, b < B → w'.frozen? ⟨b, j, none⟩ = w.frozen? ⟨b, j, none⟩ := fun b j hlt => hB.frozen (p := ⟨b, j, none⟩) hlt
  exact ⟨fun j => (hf _ _ (by omega)).trans (h.zl j), fun j => (hf _ _ (by omega)).trans (h.zs j), fun j => (hf _ _ (by omega)).trans (h.zx j), fun i hi => (hc _ _ (by omega)).trans (h.l i hi), fun i hi => (hc _ _ (by omega)).trans (h.s i hi), fun i hi => (hc _ _ (by omega)).trans (h.x i hi)⟩
theorem row_set {b i : Nat} {F : Nat → Int} (h : ∀ i, i < m → w.cell? ⟨b, i, none⟩ = some (.int .i64 (F i))) (hi : i < m) (v : Int) : ∀ j, j < m → (w.setCell ⟨b, i, none⟩ (.int .i64 v)).cell? ⟨b, j, none⟩ = some (.int .i64 (upd F i v j)) := by
  intro j hj
  by_cases e : j = i
  · subst e; rw [upd_same]; exact css (h j hj)
  · rw [upd_other _ _ e]; exact (cso (.inr (by omega))).trans (h j hj)
theorem Mdl.setL (h : Mdl bl bs bx m L S X w) (o : bl < bs ∧ bs < bx) {i : Nat} (hi : i < m) (v : Int) : Mdl bl bs bx m (upd L i v) S X (w.setCell ⟨bl, i, none⟩ (.int .i64 v)) :=
  ⟨fun j => by simpa using h.zl j, fun j => by simpa using h.zs j, fun j => by simpa using h.zx j, row_set h.l hi v, fun j hj => (cso (.inl (by omega))).trans (h.s j hj), fun j hj => (cso (.inl (by omega))).trans (h.x j hj)⟩
theorem Mdl.setS (h : Mdl bl bs bx m L S X w) (o : bl < bs ∧ bs < bx) {i : Nat} (hi : i < m) (v : Int) : Mdl bl bs bx m L (upd S i v) X (w.setCell ⟨bs, i, none⟩ (.int .i64 v)) :=
  ⟨fun j => by simpa using h.zl j, fun j => by simpa using h.zs j, fun j => by simpa using h.zx j, fun j hj => (cso (.inl (by omega))).trans (h.l j hj), row_set h.s hi v, fun j hj => (cso (.inl (by omega))).trans (h.x j hj)⟩
theorem Mdl.setX (h : Mdl bl bs bx m L S X w) (o : bl < bs ∧ bs < bx) {i : Nat} (hi : i < m) (v : Int) : Mdl bl bs bx m L S (upd X i v) (w.setCell ⟨bx, i, none⟩ (.int .i64 v)) :=
  ⟨fun j => by simpa using h.zl j, fun j => by simpa using h.zs j, fun j => by simpa using h.zx j, fun j hj => (cso (.inl (by omega))).trans (h.l j hj), fun j hj => (cso (.inl (by omega))).trans (h.s j hj), row_set h.x hi v⟩
end

end Go.Proofs.Ybulkavza
