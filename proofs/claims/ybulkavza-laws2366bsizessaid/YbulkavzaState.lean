/-
  THE PARSER IN MEMORY: 'St' and how each store turns it; the plain run that 'done' and the law's own model both carry out.
-/
import Derived.Test.YbulkavzaHead
namespace Go.Proofs.Ybulkavza
open Go.RowKit Plain

def upd (F : Nat → Int) (k : Nat) (x : Int) : Nat → Int := fun j => if j = k then x else F j
theorem upd_same (F : Nat → Int) (k : Nat) (x : Int) : upd F k x k = x := by simp [upd]
theorem upd_other (F : Nat → Int) {k j : Nat} (x : Int) (h : j ≠ k) : upd F k x j = F j := by simp [upd, h]

/-- The size that a node's encoding takes, its contents being of length l. -/
def sizeOf' (d : Nd) (l : Int) : Int := if d.f = 1 then wrap64 (wrap64 ((d.hdr l : Nat) + l) + 2) else wrap64 ((d.hdr l : Nat) + l)

structure Res where
  o : Nat
  L : Nat → Int
  S : Nat → Int
  X : Nat → Int

/-- What 'done' comes to: o frames are open; node cur ends. -/
def run (m : Nat) (d : Nat → Nd) (fn : Nat → Nat) (ex : Nat → Bool) : Nat → Nat → (Nat → Int) → (Nat → Int) → (Nat → Int) → Res
  | 0, cur, L, S, X => ⟨0, L, upd S cur (sizeOf' (d cur) (L cur)), upd X cur m⟩
  | o + 1, cur, L, S, X =>
    if ex o then run m d fn ex o (fn o) (upd L (fn o) (wrap64 (L (fn o) + sizeOf' (d cur) (L cur)))) (upd S cur (sizeOf' (d cur) (L cur))) (upd X cur m)
    else ⟨o + 1, upd L (fn o) (wrap64 (L (fn o) + sizeOf' (d cur) (L cur))), upd S cur (sizeOf' (d cur) (L cur)), upd X cur m⟩

theorem run_le {m : Nat} {d : Nat → Nd} {fn : Nat → Nat} {ex : Nat → Bool} : ∀ (o cur : Nat) (L S X : Nat → Int), (run m d fn ex o cur L S X).o ≤ o := by
  intro o
  induction o with
  | zero => intro cur L S X; simp [run]
  | succ o ih =>
    intro cur L S X
    simp only [run]
    split
    · exact Nat.le_succ_of_le (ih _ _ _ _)
    · exact Nat.le_refl _

theorem cso {w : World} {b o b' o' : Nat} {v : Value} (h : b ≠ b' ∨ o ≠ o') : (w.setCell ⟨b, o, none⟩ v).cell? ⟨b', o', none⟩ = w.cell? ⟨b', o', none⟩ :=
  World.cell?_setCell_other _ _ _ _ (by rcases h with h | h <;> simp [h])
theorem css {w : World} {b o : Nat} {v u : Value} (h : w.cell? ⟨b, o, none⟩ = some u) : (w.setCell ⟨b, o, none⟩ v).cell? ⟨b, o, none⟩ = some v :=
  World.cell?_setCell_same _ _ _ h

theorem StAt.same {lw hw : Nat} {w w' : World} {st : Value} {sl : Nat} (h : StAt lw hw w st sl) (hs : ∀ g j, lw < g → g < hw → w'.cell? ⟨g, j, none⟩ = w.cell? ⟨g, j, none⟩) : StAt lw hw w' st sl := by
  rcases h with h | ⟨g, cap, e, h1, h2, h3, ys, hy, hc⟩
  · exact .inl h
  · exact .inr ⟨g, cap, e, h1, h2, h3, ys, hy, fun j hj => (hs g j h1 h2).trans (hc j hj)⟩

/-- The parser, its nodes and its frames. -/
structure St (lw hw bp bn bf m nf cf : Nat) (d : Nat → Nd) (fn : Nat → Nat) (ex : Nat → Bool) (w : World) (L S X : Nat → Int) (o : Nat) (hv : Value) : Prop where
  p1 : w.cell? ⟨bp, 1, none⟩ = some (.slice (some ⟨bn, 0, none⟩) m m)
  p3 : w.cell? ⟨bp, 3, none⟩ = some (.slice (some ⟨bf, 0, none⟩) o cf)
  p5 : w.cell? ⟨bp, 5, none⟩ = some hv
  zp : ∀ j, w.frozen? ⟨bp, j, none⟩ = false
  zn : ∀ j, w.frozen? ⟨bn, j, none⟩ = false
  node : ∀ k, k < m → NodeAt lw hw w bn (k * 15) (d k) (L k)
  size : ∀ k, k < m → w.cell? ⟨bn, k * 15 + 14, none⟩ = some (.int .i64 (S k))
  next : ∀ k, k < m → w.cell? ⟨bn, k * 15 + 8, none⟩ = some (.int .i64 (X k))
  fr : ∀ k, k < nf → w.cell? ⟨bf, k * 4, none⟩ = some (.int .i64 (fn k)) ∧ w.cell? ⟨bf, k * 4 + 1, none⟩ = some (.int .i64 0) ∧ w.cell? ⟨bf, k * 4 + 2, none⟩ = some (.bool (ex k)) ∧ w.cell? ⟨bf, k * 4 + 3, none⟩ = some (.int .i64 0)

/-- Which blocks lie where. -/
structure Sep (base lw hw bp bn bf : Nat) : Prop where
  h1 : bn ≤ lw
  h2 : hw ≤ bf
  h3 : bf < bp
  h4 : bp < base
  h5 : lw < hw

section
variable {base lw hw bp bn bf m nf cf : Nat} {d : Nat → Nd} {fn : Nat → Nat} {ex : Nat → Bool} {w w' : World} {L S X : Nat → Int} {o : Nat} {hv : Value}

theorem NodeAt.same {off : Nat} {dk : Nd} {l : Int} (h : NodeAt lw hw w bn off dk l) (hs : ∀ j, w'.cell? ⟨bn, j, none⟩ = w.cell? ⟨bn, j, none⟩) (hg : ∀ g j, lw < g → g < hw → w'.cell? ⟨g, j, none⟩ = w.cell? ⟨g, j, none⟩) : NodeAt lw hw w' bn off dk l :=
  ⟨(hs _).trans h.h0, (hs _).trans h.h1, (hs _).trans h.h2, (hs _).trans h.h5, (hs _).trans h.h6, (hs _).trans h.h11, (hs _).trans h.h12, (hs _).trans h.h13, h.st.same hg⟩

/-- All old blocks as they were. -/
theorem St.below (h : St lw hw bp bn bf m nf cf d fn ex w L S X o hv) (hs : Sep base lw hw bp bn bf) (hb : Below base w w') : St lw hw bp bn bf m nf cf d fn ex w' L S X o hv := by
  obtain ⟨s1, s2, s3, s4, s5⟩ := hs
  have hc : ∀ b j, b < base → w'.cell? ⟨b, j, none⟩ = w.cell? ⟨b, j, none⟩ := fun b j hlt => hb.cell (p := ⟨b, j, none⟩) hlt
  have hf : ∀ b j, b < base → w'.frozen? ⟨b, j, none⟩ = w.frozen? ⟨b, j, none⟩ := fun b j hlt => hb.frozen (p := ⟨b, j, none⟩) hlt
  refine ⟨(hc _ _ s4).trans h.p1, (hc _ _ s4).trans h.p3, (hc _ _ s4).trans h.p5, fun j => (hf _ _ s4).trans (h.zp j), fun j => (hf _ _ (by omega)).trans (h.zn j), fun k hk => (h.node k hk).same (fun j => hc _ _ (by omega)) (fun g j _ _ => hc _ _ (by omega)),
    fun k hk => (hc _ _ (by omega)).trans (h.size k hk), fun k hk => (hc _ _ (by omega)).trans (h.next k hk), fun k hk => ?_⟩
  obtain ⟨a, b, c, e⟩ := h.fr k hk
  exact ⟨(hc _ _ (by omega)).trans a, (hc _ _ (by omega)).trans b, (hc _ _ (by omega)).trans c, (hc _ _ (by omega)).trans e⟩

/-- A store into the parser's header. -/
theorem St.setHeader (h : St lw hw bp bn bf m nf cf d fn ex w L S X o hv) (hs : Sep base lw hw bp bn bf) (v : Value) : St lw hw bp bn bf m nf cf d fn ex (w.setCell ⟨bp, 5, none⟩ v) L S X o v := by
  obtain ⟨s1, s2, s3, s4, s5⟩ := hs
  refine ⟨(cso (.inr (by omega))).trans h.p1, (cso (.inr (by omega))).trans h.p3, css h.p5, fun j => by simpa using h.zp j, fun j => by simpa using h.zn j, fun k hk => (h.node k hk).same (fun j => cso (.inl (by omega))) (fun g j _ _ => cso (.inl (by omega))),
    fun k hk => (cso (.inl (by omega))).trans (h.size k hk), fun k hk => (cso (.inl (by omega))).trans (h.next k hk), fun k hk => ?_⟩
  obtain ⟨a, b, c, e⟩ := h.fr k hk
  exact ⟨(cso (.inl (by omega))).trans a, (cso (.inl (by omega))).trans b, (cso (.inl (by omega))).trans c, (cso (.inl (by omega))).trans e⟩

/-- A store into the parser's open frames. -/
theorem St.setOpen (h : St lw hw bp bn bf m nf cf d fn ex w L S X o hv) (hs : Sep base lw hw bp bn bf) (o' : Nat) : St lw hw bp bn bf m nf cf d fn ex (w.setCell ⟨bp, 3, none⟩ (.slice (some ⟨bf, 0, none⟩) o' cf)) L S X o' hv := by
  obtain ⟨s1, s2, s3, s4, s5⟩ := hs
  refine ⟨(cso (.inr (by omega))).trans h.p1, css h.p3, (cso (.inr (by omega))).trans h.p5, fun j => by simpa using h.zp j, fun j => by simpa using h.zn j, fun k hk => (h.node k hk).same (fun j => cso (.inl (by omega))) (fun g j _ _ => cso (.inl (by omega))),
    fun k hk => (cso (.inl (by omega))).trans (h.size k hk), fun k hk => (cso (.inl (by omega))).trans (h.next k hk), fun k hk => ?_⟩
  obtain ⟨a, b, c, e⟩ := h.fr k hk
  exact ⟨(cso (.inl (by omega))).trans a, (cso (.inl (by omega))).trans b, (cso (.inl (by omega))).trans c, (cso (.inl (by omega))).trans e⟩

/-- A node behind a store into a field that is none of those told, or into another node. -/
theorem NodeAt.far {off off' : Nat} {dk : Nd} {l : Int} {v : Value} (h : NodeAt lw hw w bn off dk l) (hlw : bn ≤ lw) (hf : ∀ j, j ∈ [0, 1, 2, 5, 6, 11, 12, 13] → off + j ≠ off') : NodeAt lw hw (w.setCell ⟨bn, off', none⟩ v) bn off dk l := by
  have f := fun j hj => (hf j hj).symm
  exact ⟨(cso (.inr (by simpa using f 0 (by simp)))).trans h.h0, (cso (.inr (f 1 (by simp)))).trans h.h1, (cso (.inr (f 2 (by simp)))).trans h.h2, (cso (.inr (f 5 (by simp)))).trans h.h5, (cso (.inr (f 6 (by simp)))).trans h.h6, (cso (.inr (f 11 (by simp)))).trans h.h11, (cso (.inr (f 12 (by simp)))).trans h.h12, (cso (.inr (f 13 (by simp)))).trans h.h13,
    h.st.same fun g j h1 h2 => cso (.inl (by omega))⟩

/-- A store into a node's size. -/
theorem St.setSize (h : St lw hw bp bn bf m nf cf d fn ex w L S X o hv) (hs : Sep base lw hw bp bn bf) {i : Nat} (hi : i < m) (s : Int) : St lw hw bp bn bf m nf cf d fn ex (w.setCell ⟨bn, i * 15 + 14, none⟩ (.int .i64 s)) L (upd S i s) X o hv := by
  obtain ⟨s1, s2, s3, s4, s5⟩ := hs
  refine ⟨(cso (.inl (by omega))).trans h.p1, (cso (.inl (by omega))).trans h.p3, (cso (.inl (by omega))).trans h.p5, fun j => by simpa using h.zp j, fun j => by simpa using h.zn j, fun k hk => (h.node k hk).far s1 (fun j hj => by simp at hj; omega),
    fun k hk => ?_, fun k hk => (cso (.inr (by omega))).trans (h.next k hk), fun k hk => ?_⟩
  · by_cases e : k = i
    · subst e; rw [upd_same]; exact css (h.size k hk)
    · rw [upd_other _ _ e]; exact (cso (.inr (by omega))).trans (h.size k hk)
  obtain ⟨a, b, c, e⟩ := h.fr k hk
  exact ⟨(cso (.inl (by omega))).trans a, (cso (.inl (by omega))).trans b, (cso (.inl (by omega))).trans c, (cso (.inl (by omega))).trans e⟩

/-- A store into a node's next. -/
theorem St.setNext (h : St lw hw bp bn bf m nf cf d fn ex w L S X o hv) (hs : Sep base lw hw bp bn bf) {i : Nat} (hi : i < m) (s : Int) : St lw hw bp bn bf m nf cf d fn ex (w.setCell ⟨bn, i * 15 + 8, none⟩ (.int .i64 s)) L S (upd X i s) o hv := by
  obtain ⟨s1, s2, s3, s4, s5⟩ := hs
  refine ⟨(cso (.inl (by omega))).trans h.p1, (cso (.inl (by omega))).trans h.p3, (cso (.inl (by omega))).trans h.p5, fun j => by simpa using h.zp j, fun j => by simpa using h.zn j, fun k hk => (h.node k hk).far s1 (fun j hj => by simp at hj; omega),
    fun k hk => (cso (.inr (by omega))).trans (h.size k hk), fun k hk => ?_, fun k hk => ?_⟩
  · by_cases e : k = i
    · subst e; rw [upd_same]; exact css (h.next k hk)
    · rw [upd_other _ _ e]; exact (cso (.inr (by omega))).trans (h.next k hk)
  obtain ⟨a, b, c, e⟩ := h.fr k hk
  exact ⟨(cso (.inl (by omega))).trans a, (cso (.inl (by omega))).trans b, (cso (.inl (by omega))).trans c, (cso (.inl (by omega))).trans e⟩

/-- A store into a node's length. -/
theorem St.setLen (h : St lw hw bp bn bf m nf cf d fn ex w L S X o hv) (hs : Sep base lw hw bp bn bf) {i : Nat} (hi : i < m) (s : Int) : St lw hw bp bn bf m nf cf d fn ex (w.setCell ⟨bn, i * 15 + 6, none⟩ (.int .i64 s)) (upd L i s) S X o hv := by
  obtain ⟨s1, s2, s3, s4, s5⟩ := hs
  refine ⟨(cso (.inl (by omega))).trans h.p1, (cso (.inl (by omega))).trans h.p3, (cso (.inl (by omega))).trans h.p5, fun j => by simpa using h.zp j, fun j => by simpa using h.zn j, fun k hk => ?_,
    fun k hk => (cso (.inr (by omega))).trans (h.size k hk), fun k hk => (cso (.inr (by omega))).trans (h.next k hk), fun k hk => ?_⟩
  · by_cases e : k = i
    · subst e; rw [upd_same]
      have hn := h.node k hk
      exact ⟨(cso (.inr (by omega))).trans hn.h0, (cso (.inr (by omega))).trans hn.h1, (cso (.inr (by omega))).trans hn.h2, (cso (.inr (by omega))).trans hn.h5, css hn.h6, (cso (.inr (by omega))).trans hn.h11, (cso (.inr (by omega))).trans hn.h12, (cso (.inr (by omega))).trans hn.h13, hn.st.same fun g j h1 h2 => cso (.inl (by omega))⟩
    · rw [upd_other _ _ e]; exact (h.node k hk).far s1 (fun j hj => by simp at hj; omega)
  obtain ⟨a, b, c, e⟩ := h.fr k hk
  exact ⟨(cso (.inl (by omega))).trans a, (cso (.inl (by omega))).trans b, (cso (.inl (by omega))).trans c, (cso (.inl (by omega))).trans e⟩

end

/-- Only the blocks bp and bn, among those below base, have turned. -/
structure Kept (base bp bn : Nat) (w w' : World) : Prop where
  os : w'.os = w.os
  tape : w'.tape = w.tape
  output : w'.output = w.output
  size : w.heap.size ≤ w'.heap.size
  block : ∀ k, k < base → k ≠ bp → k ≠ bn → w'.heap[k]? = w.heap[k]?

theorem Kept.refl {base bp bn : Nat} (w : World) : Kept base bp bn w w := ⟨rfl, rfl, rfl, Nat.le_refl _, fun _ _ _ _ => rfl⟩
theorem Kept.trans {base bp bn : Nat} {a b c : World} (h : Kept base bp bn a b) (k : Kept base bp bn b c) : Kept base bp bn a c :=
  ⟨k.os.trans h.os, k.tape.trans h.tape, k.output.trans h.output, Nat.le_trans h.size k.size, fun i hi h1 h2 => (k.block i hi h1 h2).trans (h.block i hi h1 h2)⟩
theorem Kept.below {base bp bn : Nat} {a b c : World} (h : Kept base bp bn a b) (k : Below base b c) : Kept base bp bn a c :=
  h.trans ⟨k.os, k.tape, k.output, k.size, fun i hi _ _ => k.block i hi⟩
theorem Kept.setP {base bp bn : Nat} {a b : World} (h : Kept base bp bn a b) (j : Nat) (v : Value) : Kept base bp bn a (b.setCell ⟨bp, j, none⟩ v) :=
  h.trans ⟨rfl, rfl, rfl, by simp, fun i _ h1 _ => Below.heap_setCell _ _ _ _ h1⟩
theorem Kept.setN {base bp bn : Nat} {a b : World} (h : Kept base bp bn a b) (j : Nat) (v : Value) : Kept base bp bn a (b.setCell ⟨bn, j, none⟩ v) :=
  h.trans ⟨rfl, rfl, rfl, by simp, fun i _ _ h2 => Below.heap_setCell _ _ _ _ h2⟩

end Go.Proofs.Ybulkavza
