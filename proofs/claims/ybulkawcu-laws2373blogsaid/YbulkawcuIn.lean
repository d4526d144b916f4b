/-
  WHAT CAME IN, and the law's first loop's sums.
-/
import Derived.Test.YbulkawcuEqual
namespace Go.Proofs.Ybulkawcu
open Go.RowKit

/-- A field that came in. -/
structure FIn where
  dp : Nat
  tg : Nat
  hd : Nat
  hh : Bool

structure FInAt (w : World) (b o : Nat) (f : FIn) : Prop where
  h0 : w.cell? ⟨b, o, none⟩ = some (.int .u8 f.dp)
  h1 : w.cell? ⟨b, o + 1, none⟩ = some (.int .u8 f.tg)
  h2 : w.cell? ⟨b, o + 2, none⟩ = some (.int .u8 f.hd)
  h3 : w.cell? ⟨b, o + 3, none⟩ = some (.bool f.hh)
  r0 : f.dp < 256
  r1 : f.tg < 256
  r2 : f.hd < 256

/-- A struct that came in: a union or none, a slice of fields. -/
structure SIn where
  un : Bool
  sa : Option Addr
  nf : Nat
  sc : Nat
  fi : Nat → FIn

structure SInAt (w : World) (b o : Nat) (x : SIn) : Prop where
  h0 : w.cell? ⟨b, o, none⟩ = some (.bool x.un)
  h1 : w.cell? ⟨b, o + 1, none⟩ = some (.slice x.sa x.nf x.sc)
  nfr : x.nf < 4611686018427387904
  fs : x.nf = 0 ∨ ∃ fb fo, x.sa = some ⟨fb, fo, none⟩ ∧ ∀ j, j < x.nf → FInAt w fb (fo + j * 4) (x.fi j)

theorem FInAt.below {w w' : World} {b o B : Nat} {f : FIn} (h : FInAt w b o f) (hB : Below B w w') (hb : w.heap.size ≤ B) : FInAt w' b o f := by
  have hc : ∀ {a : Addr} {v : Value}, w.cell? a = some v → w'.cell? a = some v := fun {a _} hv => (hB.cell (p := a) (Nat.lt_of_lt_of_le (World.block_lt_of_cell? w a hv) hb)).trans hv
  exact ⟨hc h.h0, hc h.h1, hc h.h2, hc h.h3, h.r0, h.r1, h.r2⟩

theorem SInAt.below {w w' : World} {b o B : Nat} {x : SIn} (h : SInAt w b o x) (hB : Below B w w') (hb : w.heap.size ≤ B) : SInAt w' b o x := by
  have hc : ∀ {a : Addr} {v : Value}, w.cell? a = some v → w'.cell? a = some v := fun {a _} hv => (hB.cell (p := a) (Nat.lt_of_lt_of_le (World.block_lt_of_cell? w a hv) hb)).trans hv
  refine ⟨hc h.h0, hc h.h1, h.nfr, ?_⟩
  rcases h.fs with h0 | ⟨fb, fo, e, hf⟩
  · exact .inl h0
  · exact .inr ⟨fb, fo, e, fun j hj => (hf j hj).below hB hb⟩

/-- How many fields the first k structs have. -/
def total (inp : Nat → SIn) : Nat → Nat
  | 0 => 0
  | k + 1 => total inp k + (inp k).nf

theorem total_le {inp : Nat → SIn} {k n : Nat} (hk : k ≤ n) : total inp k ≤ total inp n := by
  induction n with
  | zero => rcases (show k = 0 by omega) with rfl; exact Nat.le_refl _
  | succ n ih =>
    rcases Nat.lt_or_ge k (n + 1) with h | h
    · have := ih (by omega); simp only [total]; omega
    · rcases (show k = n + 1 by omega) with rfl; exact Nat.le_refl _

theorem nf_le {inp : Nat → SIn} {i n : Nat} (hi : i < n) : (inp i).nf ≤ total inp n := by
  have := total_le (inp := inp) (show i + 1 ≤ n by omega)
  simp only [total] at this
  omega

/-- What came in, read as the search's plain data. -/
def spOf (n : Nat) (inp : Nat → SIn) : Sp where
  n := n
  un i := (inp i).un
  nf i := (inp i).nf
  hd i j := if ((inp i).fi j).hh && decide (0 < i) then some (((inp i).fi j).hd % i) else none
  tg i j := (((inp i).fi j).tg % 8 : Nat)

theorem spOf_ok {n : Nat} {inp : Nat → SIn} (hn : n ≤ 256) (ht : total inp n ≤ 1024) : (spOf n inp).Ok where
  n256 := hn
  nf1024 i hi := Nat.le_trans (nf_le hi) ht
  held i hi j hj k hk := by
    simp only [spOf] at hk
    split at hk
    · rename_i hc
      simp at hc
      cases hk
      exact Nat.mod_lt _ hc.2
    · cases hk

end Go.Proofs.Ybulkawcu
