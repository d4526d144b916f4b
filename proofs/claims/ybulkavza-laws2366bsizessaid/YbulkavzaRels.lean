/-
  THE LAW's OWN RELATIONS: what holds at the head of each loop's rounds (function 3).
-/
import Derived.Test.YbulkavzaLaws
import Derived.Deep.DeepCutAuto
import Derived.Deep.CutBlock
import Derived.Deep.RegionHeld3
namespace Go.Proofs.Ybulkavza
open Go.RowKit Plain

theorem mem_start {w w1 w2 w3 w4 : World} {m : Nat} {z : Array Value} {d : Nat → Nd} {L : Nat → Int}
    (H1 : (∀ j, j < m * 15 → w1.cell? ⟨w.heap.size, j, none⟩ = some (z[j % z.size]!)) ∧ (∀ j, w1.frozen? ⟨w.heap.size, j, none⟩ = false) ∧ w.heap.size < w1.heap.size)
    (H2 : (∀ j, j < m → w2.cell? ⟨w1.heap.size, j, none⟩ = some ((#[.int .i64 0] : Array Value)[j % (#[.int .i64 0] : Array Value).size]!)) ∧ (∀ j, w2.frozen? ⟨w1.heap.size, j, none⟩ = false) ∧ w1.heap.size < w2.heap.size)
    (H3 : (∀ j, j < m → w3.cell? ⟨w2.heap.size, j, none⟩ = some ((#[.int .i64 0] : Array Value)[j % (#[.int .i64 0] : Array Value).size]!)) ∧ (∀ j, w3.frozen? ⟨w2.heap.size, j, none⟩ = false) ∧ w2.heap.size < w3.heap.size)
    (H4 : (∀ j, j < m → w4.cell? ⟨w3.heap.size, j, none⟩ = some ((#[.int .i64 0] : Array Value)[j % (#[.int .i64 0] : Array Value).size]!)) ∧ (∀ j, w4.frozen? ⟨w3.heap.size, j, none⟩ = false) ∧ w3.heap.size < w4.heap.size)
    (g1 : w.grownBy w1 none) (g2 : w1.grownBy w2 none) (g3 : w2.grownBy w3 none) (g4 : w3.grownBy w4 none) :
    Mem w.heap.size w1.heap.size w2.heap.size w3.heap.size m 0 0 d L w4 ∧ Below w.heap.size w w4 := by
  obtain ⟨c1, f1, l1⟩ := H1
  obtain ⟨c2, f2, l2⟩ := H2
  obtain ⟨c3, f3, l3⟩ := H3
  obtain ⟨c4, f4, l4⟩ := H4
  have b1 := grown_below g1
  have b2 := grown_below g2
  have b3 := grown_below g3
  have b4 := grown_below g4
  have b34 : Below w2.heap.size w2 w4 := b3.trans (b4.mono (by omega))
  have b24 : Below w1.heap.size w1 w4 := b2.trans (b34.mono (by omega))
  have k1 : ∀ j, w4.cell? ⟨w.heap.size, j, none⟩ = w1.cell? ⟨w.heap.size, j, none⟩ := fun j => b24.cell (p := ⟨w.heap.size, j, none⟩) l1
  have k2 : ∀ j, w4.cell? ⟨w1.heap.size, j, none⟩ = w2.cell? ⟨w1.heap.size, j, none⟩ := fun j => b34.cell (p := ⟨w1.heap.size, j, none⟩) l2
  have k3 : ∀ j, w4.cell? ⟨w2.heap.size, j, none⟩ = w3.cell? ⟨w2.heap.size, j, none⟩ := fun j => b4.cell (p := ⟨w2.heap.size, j, none⟩) l3
  exact ⟨⟨fun j => (b24.frozen (p := ⟨w.heap.size, j, none⟩) l1).trans (f1 j), fun j => (b34.frozen (p := ⟨w1.heap.size, j, none⟩) l2).trans (f2 j), fun j => (b4.frozen (p := ⟨w2.heap.size, j, none⟩) l3).trans (f3 j), f4,
    fun j hj => by rw [k1, c1 j hj]; rfl, fun j hj => by rw [k2, c2 j hj]; rfl,
    fun j hj => by rw [k3, c3 j hj]; simp [Nat.mod_one], fun j hj => by rw [c4 j hj]; simp [Nat.mod_one], fun i hi => by omega, fun i hi => by omega, l4⟩, b1.trans (b24.mono (by omega))⟩

theorem Mem.congr {bn bl bs bx m k l : Nat} {d d' : Nat → Nd} {L : Nat → Int} {w : World} (h : Mem bn bl bs bx m k l d L w) (hd : ∀ i, i < k → d i = d' i) : Mem bn bl bs bx m k l d' L w :=
  ⟨h.zn, h.zl, h.zs, h.zx, h.there, h.thereL, h.S, h.X, fun i hi => by rw [← hd i hi]; exact h.node i hi, h.len, h.lt⟩

def vput (F : Nat → Value) (k : Nat) (x : Value) : Nat → Value := fun j => if j = k then x else F j
theorem vput_same (F : Nat → Value) (k : Nat) (x : Value) : vput F k x k = x := by simp [vput]
theorem vput_other (F : Nat → Value) {k j : Nat} (x : Value) (h : j ≠ k) : vput F k x j = F j := by simp [vput, h]

/-- The frames that the law lays: k frames and l of their nodes are filled. -/
structure Fr (bf bq nf k l : Nat) (fn : Nat → Nat) (ex : Nat → Bool) (w : World) : Prop where
  zf : ∀ j, w.frozen? ⟨bf, j, none⟩ = false
  zq : ∀ j, w.frozen? ⟨bq, j, none⟩ = false
  thereF : ∀ j, j < nf * 4 → (w.cell? ⟨bf, j, none⟩).isSome = true
  thereQ : ∀ i, i < nf → (w.cell? ⟨bq, i, none⟩).isSome = true
  fr : ∀ i, i < k → w.cell? ⟨bf, i * 4, none⟩ = some (.int .i64 (fn i)) ∧ w.cell? ⟨bf, i * 4 + 1, none⟩ = some (.int .i64 0) ∧ w.cell? ⟨bf, i * 4 + 2, none⟩ = some (.bool (ex i)) ∧ w.cell? ⟨bf, i * 4 + 3, none⟩ = some (.int .i64 0)
  q : ∀ i, i < l → w.cell? ⟨bq, i, none⟩ = some (.int .i64 (fn i))

theorem fr_start {w w5 w6 : World} {nf : Nat} {z : Array Value} {fn : Nat → Nat} {ex : Nat → Bool}
    (H1 : (∀ j, j < nf * 4 → w5.cell? ⟨w.heap.size, j, none⟩ = some (z[j % z.size]!)) ∧ (∀ j, w5.frozen? ⟨w.heap.size, j, none⟩ = false) ∧ w.heap.size < w5.heap.size)
    (H2 : (∀ j, j < nf → w6.cell? ⟨w5.heap.size, j, none⟩ = some ((#[.int .i64 0] : Array Value)[j % (#[.int .i64 0] : Array Value).size]!)) ∧ (∀ j, w6.frozen? ⟨w5.heap.size, j, none⟩ = false) ∧ w5.heap.size < w6.heap.size)
    (g1 : w.grownBy w5 none) (g2 : w5.grownBy w6 none) : Fr w.heap.size w5.heap.size nf 0 0 fn ex w6 ∧ Below w.heap.size w w6 := by
  obtain ⟨c1, f1, l1⟩ := H1
  obtain ⟨c2, f2, l2⟩ := H2
  have b1 := grown_below g1
  have b2 := grown_below g2
  have k1 : ∀ j, w6.cell? ⟨w.heap.size, j, none⟩ = w5.cell? ⟨w.heap.size, j, none⟩ := fun j => b2.cell (p := ⟨w.heap.size, j, none⟩) l1
  exact ⟨⟨fun j => (b2.frozen (p := ⟨w.heap.size, j, none⟩) l1).trans (f1 j), f2, fun j hj => by rw [k1, c1 j hj]; rfl, fun j hj => by rw [c2 j hj]; rfl, fun i hi => by omega, fun i hi => by omega⟩, b1.trans (b2.mono (by omega))⟩

theorem Fr.putQ {bf bq nf k l : Nat} {fn : Nat → Nat} {ex : Nat → Bool} {w : World} (h : Fr bf bq nf k l fn ex w) (hne : bf ≠ bq) (hl : l < nf) : Fr bf bq nf k (l + 1) fn ex (w.setCell ⟨bq, l, none⟩ (.int .i64 (fn l))) := by
  obtain ⟨u, hu⟩ := Option.isSome_iff_exists.1 (h.thereQ l hl)
  refine ⟨fun j => by simpa using h.zf j, fun j => by simpa using h.zq j, fun j hj => by rw [cso (.inl hne.symm)]; exact h.thereF j hj, fun j hj => ?_, fun i hi => ?_, fun i hi => ?_⟩
  · by_cases e : j = l
    · subst e; rw [css hu]; rfl
    · rw [cso (.inr (by omega))]; exact h.thereQ j hj
  · obtain ⟨a, b, c, d⟩ := h.fr i hi
    exact ⟨(cso (.inl hne.symm)).trans a, (cso (.inl hne.symm)).trans b, (cso (.inl hne.symm)).trans c, (cso (.inl hne.symm)).trans d⟩
  · by_cases e : i = l
    · subst e; exact css hu
    · exact (cso (.inr (by omega))).trans (h.q i (by omega))

theorem Fr.putF {bf bq nf k l : Nat} {fn : Nat → Nat} {ex : Nat → Bool} {w : World} (h : Fr bf bq nf k l fn ex w) (hne : bf ≠ bq) (hl : k < nf) :
    Fr bf bq nf (k + 1) l fn ex (w.setCells bf (k * 4) [.int .i64 (fn k), .int .i64 0, .bool (ex k), .int .i64 0]) := by
  have hin : ∀ j (hj : j < 4) v, ([.int .i64 (fn k), .int .i64 0, .bool (ex k), .int .i64 0] : List Value)[j]? = some v → (w.setCells bf (k * 4) [.int .i64 (fn k), .int .i64 0, .bool (ex k), .int .i64 0]).cell? ⟨bf, k * 4 + j, none⟩ = some v := by
    intro j hj v hv
    rw [World.cell?_setCells_in bf _ _ w (fun i hi => h.thereF _ (by simp at hi; omega)) j (by simpa using hj), ← hv]
    exact (List.getElem?_eq_getElem _).symm
  refine ⟨fun j => by rw [World.frozen?_setCells]; exact h.zf j, fun j => by rw [World.frozen?_setCells]; exact h.zq j, fun j hj => World.isSome_setCells _ _ _ _ _ (h.thereF j hj), fun j hj => by rw [sc_out (.inl hne.symm)]; exact h.thereQ j hj, fun i hi => ?_, fun i hi => (sc_out (.inl hne.symm)).trans (h.q i hi)⟩
  by_cases e : i = k
  · subst e
    exact ⟨hin 0 (by omega) _ rfl, hin 1 (by omega) _ rfl, hin 2 (by omega) _ rfl, hin 3 (by omega) _ rfl⟩
  · obtain ⟨a, b, c, d⟩ := h.fr i (by omega)
    have f : ∀ j, j < 4 → (w.setCells bf (k * 4) [.int .i64 (fn k), .int .i64 0, .bool (ex k), .int .i64 0]).cell? ⟨bf, i * 4 + j, none⟩ = w.cell? ⟨bf, i * 4 + j, none⟩ := fun j hj => sc_out (.inr (by simp; omega))
    exact ⟨(f 0 (by omega)).trans a, (f 1 (by omega)).trans b, (f 2 (by omega)).trans c, (f 3 (by omega)).trans d⟩

theorem Fr.drew {bf bq nf k l : Nat} {fn : Nat → Nat} {ex : Nat → Bool} {w : World} (h : Fr bf bq nf k l fn ex w) : Fr bf bq nf k l fn ex w.drew := ⟨h.zf, h.zq, h.thereF, h.thereQ, h.fr, h.q⟩

/-- What holds at the head of a round of the second loop. -/
def Rel2 (bf bq nf : Nat) (fn : Nat → Nat) (ex : Nat → Bool) (we : World) (i : Value) (wr : World) : Prop :=
  ∃ k, k ≤ nf ∧ i = .int .i64 (k : Nat) ∧ Fr bf bq nf k k fn ex wr ∧ Below bf we wr ∧ bq < wr.heap.size

/-- What holds at the head of a round of the third loop: gk frames are still open. -/
def Rel3 (B bl bs bx m nf : Nat) (d : Nat → Nd) (fn : Nat → Nat) (ex : Nat → Bool) (wg : World) (R : Res) (gk : Nat) (v19 v20 v21 : Value) (wr : World) : Prop :=
  ∃ (cu : Nat) (L S X : Nat → Int), v19 = .int .i64 (gk : Nat) ∧ v20 = .int .i64 cu ∧ v21 = .int .i64 ((nf : Int) - gk) ∧ gk ≤ nf ∧ cu < m ∧ Mdl bl bs bx m L S X wr ∧ Kept3 B bl bs bx wg wr ∧ run m d fn ex gk cu L S X = R ∧ (∀ k, k < m → L k < 9223372036854775808) ∧ B ≤ wr.heap.size

/-- What holds behind the third loop. -/
def Out3 (B bl bs bx m nf : Nat) (wg : World) (R : Res) (v19 : Value) (wr : World) : Prop :=
  v19 = .int .i64 (R.o : Nat) ∧ R.o ≤ nf ∧ Mdl bl bs bx m R.L R.S R.X wr ∧ Kept3 B bl bs bx wg wr ∧ B ≤ wr.heap.size

theorem StAt.is {lw hw : Nat} {w : World} {st : Value} {sl : Nat} (h : StAt lw hw w st sl) : ∃ ao cp, st = .slice ao sl cp := by
  rcases h with ⟨rfl, rfl⟩ | ⟨g, cap, rfl, _⟩
  · exact ⟨_, _, rfl⟩
  · exact ⟨_, _, rfl⟩

/-- All that the comparisons read. -/
structure FinW (bn bl bs bx bf bq bp nb noff fb foff m nf : Nat) (R : Res) (tg : Nat → Nat) (rw : Nat → Bool) (fn : Nat → Nat) (ex : Nat → Bool) (w : World) : Prop where
  p1 : w.cell? ⟨bp, 1, none⟩ = some (.slice (some ⟨bn, 0, none⟩) m m)
  p3 : w.cell? ⟨bp, 3, none⟩ = some (.slice (some ⟨bf, 0, none⟩) R.o nf)
  nl : ∀ j, j < m → w.cell? ⟨bn, j * 15 + 6, none⟩ = some (.int .i64 (R.L j))
  ns : ∀ j, j < m → w.cell? ⟨bn, j * 15 + 14, none⟩ = some (.int .i64 (R.S j))
  nx : ∀ j, j < m → w.cell? ⟨bn, j * 15 + 8, none⟩ = some (.int .i64 (R.X j))
  nt : ∀ j, j < m → w.cell? ⟨bn, j * 15 + 1, none⟩ = some (.int .u64 (tg j))
  nr : ∀ j, j < m → w.cell? ⟨bn, j * 15 + 5, none⟩ = some (.bool (rw j))
  l : ∀ j, j < m → w.cell? ⟨bl, j, none⟩ = some (.int .i64 (R.L j))
  s : ∀ j, j < m → w.cell? ⟨bs, j, none⟩ = some (.int .i64 (R.S j))
  x : ∀ j, j < m → w.cell? ⟨bx, j, none⟩ = some (.int .i64 (R.X j))
  it : ∀ j, j < m → w.cell? ⟨nb, noff + j * 8 + 1, none⟩ = some (.int .u64 (tg j))
  ir : ∀ j, j < m → w.cell? ⟨nb, noff + j * 8 + 3, none⟩ = some (.bool (rw j))
  f0 : ∀ j, j < nf → w.cell? ⟨bf, j * 4, none⟩ = some (.int .i64 (fn j))
  f2 : ∀ j, j < nf → w.cell? ⟨bf, j * 4 + 2, none⟩ = some (.bool (ex j))
  q : ∀ j, j < nf → w.cell? ⟨bq, j, none⟩ = some (.int .i64 (fn j))
  fe : ∀ j, j < nf → w.cell? ⟨fb, foff + j * 2 + 1, none⟩ = some (.bool (ex j))

/-- Nothing but the tape's count has turned. -/
structure SameH (w w' : World) : Prop where
  heap : w'.heap = w.heap
  os : w'.os = w.os
  tape : w'.tape = w.tape
  output : w'.output = w.output
theorem SameH.refl (w : World) : SameH w w := ⟨rfl, rfl, rfl, rfl⟩
theorem SameH.drewN {w w' : World} (h : SameH w w') (n : Nat) : SameH w (w'.drewN n) := ⟨h.heap, h.os, h.tape, h.output⟩
theorem SameH.cell {w w' : World} (h : SameH w w') (a : Addr) : w'.cell? a = w.cell? a := World.cell?_of_block (by rw [h.heap])
theorem SameH.below {w w' : World} (h : SameH w w') (B : Nat) : Below B w w' := ⟨h.os, h.tape, h.output, by rw [h.heap]; exact Nat.le_refl _, fun _ _ => by rw [h.heap]⟩

/-- The start of 'done', out of what the law has laid. -/
theorem st_start {bn bl bs bx bf bq m nf : Nat} {d : Nat → Nd} {L : Nat → Int} {fn : Nat → Nat} {ex : Nat → Bool} {we wg wc W : World}
    (o : bn < bl ∧ bl < bs ∧ bs < bx ∧ bx < bf ∧ bf < bq ∧ bq < wg.heap.size) (zn : ∀ j, we.frozen? ⟨bn, j, none⟩ = false)
    (hN : ∀ i, i < m → we.rangeAt bn (i * 15) (nodeCells (d i) (L i)) ∧ StAt bx bf we (d i).st (d i).sl)
    (hF : Fr bf bq nf nf nf fn ex wg) (hBf : Below bf we wg) (hK : Kept3 wg.heap.size bl bs bx wg wc) (hBc : wg.heap.size ≤ wc.heap.size)
    (hW : W = wc.alloc (.cells #[.pointer none, .slice (some ⟨bn, 0, none⟩) m m, .slice none 0 0, .slice (some ⟨bf, 0, none⟩) nf nf, .pointer none, .slice none 0 0] 45)) :
    St bx bf wc.heap.size bn bf m nf nf d fn ex W L (fun _ => 0) (fun _ => 0) nf (.slice none 0 0) ∧ Sep (wc.heap.size + 1) bx bf wc.heap.size bn bf := by
  obtain ⟨o1, o2, o3, o4, o5, o6⟩ := o
  have hc : ∀ b j, b < bf → b ≠ bl → b ≠ bs → b ≠ bx → W.cell? ⟨b, j, none⟩ = we.cell? ⟨b, j, none⟩ := fun b j h0 h1 h2 h3 => by
    rw [hW, World.cell?_alloc_past _ _ _ (by omega), hK.cell (by omega) h1 h2 h3]; exact hBf.cell (p := ⟨b, j, none⟩) h0
  have hg : ∀ b j, b < wg.heap.size → b ≠ bl → b ≠ bs → b ≠ bx → W.cell? ⟨b, j, none⟩ = wg.cell? ⟨b, j, none⟩ := fun b j h0 h1 h2 h3 => by
    rw [hW, World.cell?_alloc_past _ _ _ (by omega), hK.cell (by omega) h1 h2 h3]
  have hP : ∀ j v, (#[.pointer none, .slice (some ⟨bn, 0, none⟩) m m, .slice none 0 0, .slice (some ⟨bf, 0, none⟩) nf nf, .pointer none, .slice none 0 0] : Array Value)[j]? = some v → W.cell? ⟨wc.heap.size, j, none⟩ = some v := fun j v hv => by
    rw [hW, World.cell?_alloc_at _ _ _ _ rfl]; exact hv
  have hr : ∀ i, i < m → W.rangeAt bn (i * 15) (nodeCells (d i) (L i)) := fun i hi j v hv => (hc _ _ (by omega) (by omega) (by omega) (by omega)).trans ((hN i hi).1 j v hv)
  refine ⟨⟨hP 1 _ rfl, hP 3 _ rfl, hP 5 _ rfl, fun j => by rw [hW]; exact World.frozen?_alloc_at _ _ _ _ rfl, fun j => ?_, fun i hi => NodeAt.of_range (hr i hi) ((hN i hi).2.same fun g j h1 h2 => hc _ _ (by omega) (by omega) (by omega) (by omega)), fun i hi => hr i hi 14 _ rfl, fun i hi => hr i hi 8 _ rfl, fun i hi => ?_⟩, ⟨by omega, Nat.le_refl _, by omega, by omega, by omega⟩⟩
  · rw [hW, World.frozen?_alloc_past _ _ _ (by omega), hK.frozen (by omega) (by omega) (by omega) (by omega), hBf.frozen (p := ⟨bn, j, none⟩) (by show bn < bf; omega)]; exact zn j
  · obtain ⟨a, b, c, e⟩ := hF.fr i hi
    exact ⟨(hg _ _ (by omega) (by omega) (by omega) (by omega)).trans a, (hg _ _ (by omega) (by omega) (by omega) (by omega)).trans b, (hg _ _ (by omega) (by omega) (by omega) (by omega)).trans c, (hg _ _ (by omega) (by omega) (by omega) (by omega)).trans e⟩

/-- What holds at the head of a round of the first loop. -/
def Rel1 (bn bl bs bx m : Nat) (inp : Nat → In) (w : World) (i : Value) (wr : World) : Prop :=
  ∃ (k : Nat) (st : Nat → Value), k ≤ m ∧ i = .int .i64 k ∧ Mem bn bl bs bx m k k (fun i => (inp i).nd (st i)) (fun i => ((inp i).ln : Int)) wr ∧ Below bn w wr ∧ ∀ i, i < k → (inp i).sl ≤ 1024

theorem Mem.one {bn bl bs bx m k : Nat} {inp : Nat → In} {st : Nat → Value} {w : World} (h : Mem bn bl bs bx m k k (fun i => (inp i).nd (st i)) (fun i => ((inp i).ln : Int)) w) (o : bn < bl ∧ bl < bs ∧ bs < bx) (hk : k < m)
    {stv : Value} (hst : StAt bx w.heap.size w stv (inp k).sl) :
    Mem bn bl bs bx m (k + 1) k (fun i => (inp i).nd (vput st k stv i)) (fun i => ((inp i).ln : Int)) (w.setCells bn (k * 15) (nodeCells ((inp k).nd stv) ((inp k).ln : Int))) := by
  have h1 := h.congr (d' := fun i => (inp i).nd (vput st k stv i)) (fun i hi => by simp only [vput_other st stv (show i ≠ k by omega)])
  have h2 := h1.fill o hk (by simp only [vput_same]; exact hst)
  simp only [vput_same] at h2
  exact h2

/-- What the comparisons read, behind 'done'. -/
theorem fin_start {bn bl bs bx bf bq nb noff fb foff m nf : Nat} {d : Nat → Nd} {fn : Nat → Nat} {ex : Nat → Bool} {inp : Nat → In} {fi : Nat → Nat} {R : Res} {w wg wc W w2 : World} {hv : Value}
    (o : bn < bl ∧ bl < bs ∧ bs < bx ∧ bx < bf ∧ bf < bq ∧ bq < wg.heap.size) (hbn : w.heap.size = bn)
    (hin : ∀ k, k < m → InAt w nb (noff + k * 8) (inp k)) (hdi : ∀ i, (d i).tg = (inp i).tg ∧ (d i).raw = (inp i).raw)
    (hfr : ∀ k, k < nf → w.cell? ⟨fb, foff + k * 2, none⟩ = some (.int .u8 (fi k)) ∧ w.cell? ⟨fb, foff + k * 2 + 1, none⟩ = some (.bool (ex k)))
    (hF : Fr bf bq nf nf nf fn ex wg) (hBg : Below bn w wg) (hK : Kept3 wg.heap.size bl bs bx wg wc) (hBc : wg.heap.size ≤ wc.heap.size)
    (hW : W = wc.alloc (.cells #[.pointer none, .slice (some ⟨bn, 0, none⟩) m m, .slice none 0 0, .slice (some ⟨bf, 0, none⟩) nf nf, .pointer none, .slice none 0 0] 45))
    (hMd : Mdl bl bs bx m R.L R.S R.X wc) (hSt : St bx bf wc.heap.size bn bf m nf nf d fn ex w2 R.L R.S R.X R.o hv) (hKp : Kept (wc.heap.size + 1) wc.heap.size bn W w2) :
    FinW bn bl bs bx bf bq wc.heap.size nb noff fb foff m nf R (fun i => (inp i).tg) (fun i => (inp i).raw) fn ex w2 ∧ Below bn w w2 := by
  obtain ⟨o1, o2, o3, o4, o5, o6⟩ := o
  have hc : ∀ b j, b < wc.heap.size → b ≠ bn → w2.cell? ⟨b, j, none⟩ = wc.cell? ⟨b, j, none⟩ := fun b j h0 h1 => by
    rw [World.cell?_of_block (hKp.block b (by omega) (by omega) h1), hW, World.cell?_alloc_past _ _ _ h0]
  have hg : ∀ b j, b < wg.heap.size → b ≠ bn → b ≠ bl → b ≠ bs → b ≠ bx → w2.cell? ⟨b, j, none⟩ = wg.cell? ⟨b, j, none⟩ := fun b j h0 h1 h2 h3 h4 => by
    rw [hc b j (by omega) h1, hK.cell h0 h2 h3 h4]
  have hw : ∀ {b j v}, w.cell? ⟨b, j, none⟩ = some v → w2.cell? ⟨b, j, none⟩ = some v := fun {b j v} hv => by
    have hlt := World.block_lt_of_cell? w _ hv
    simp only at hlt
    rw [hg b j (by omega) (by omega) (by omega) (by omega) (by omega), hBg.cell (p := ⟨b, j, none⟩) (by show b < bn; omega)]; exact hv
  refine ⟨⟨hSt.p1, hSt.p3, fun j hj => (hSt.node j hj).h6, hSt.size, hSt.next, fun j hj => by rw [← (hdi j).1]; exact (hSt.node j hj).h1, fun j hj => by rw [← (hdi j).2]; exact (hSt.node j hj).h5,
    fun j hj => (hc _ _ (by omega) (by omega)).trans (hMd.l j hj), fun j hj => (hc _ _ (by omega) (by omega)).trans (hMd.s j hj), fun j hj => (hc _ _ (by omega) (by omega)).trans (hMd.x j hj),
    fun j hj => hw (hin j hj).h1, fun j hj => hw (hin j hj).h3, fun j hj => (hSt.fr j hj).1, fun j hj => (hSt.fr j hj).2.2.1, fun j hj => (hg _ _ (by omega) (by omega) (by omega) (by omega) (by omega)).trans (hF.q j hj), fun j hj => hw (hfr j hj).2⟩, ?_⟩
  refine ⟨hKp.os.trans ?_, hKp.tape.trans ?_, hKp.output.trans ?_, ?_, fun b hb => ?_⟩
  · rw [hW]; exact hK.os.trans hBg.os
  · rw [hW]; exact hK.tape.trans hBg.tape
  · rw [hW]; exact hK.output.trans hBg.output
  · have h1 := hKp.size
    have h2 := hBg.size
    have h3 : W.heap.size = wc.heap.size + 1 := by rw [hW]; simp
    omega
  · rw [hKp.block b (by omega) (by omega) (by omega), hW, Below.heap_alloc _ _ _ (by omega), hK.block b (by omega) (by omega) (by omega) (by omega)]
    exact hBg.block b hb

end Go.Proofs.Ybulkavza
