/-
  WHAT CAME IN, READ: a slice of nodes, a slice of frames.
-/
import Derived.Test.YbulkavzaMem
import Derived.ProofKit
import Derived.OpenShut
import Derived.Deep.Slices
import Derived.ChangeSame
namespace Go.Proofs.Ybulkavza
open Go.RowKit Go.Deep Go.ChangeShapes Go.WideShapes

theorem Yba.cells5 : Yba.prog.cellsOf 5 = 1 := by kernel_rfl
theorem Yba.cells26 : Yba.prog.cellsOf 26 = 1 := by kernel_rfl
theorem Yba.cells4 : Yba.prog.cellsOf 4 = 1 := by kernel_rfl
theorem Yba.cells27 : Yba.prog.cellsOf 27 = 1 := by kernel_rfl
theorem Yba.cells28 : Yba.prog.cellsOf 28 = 1 := by kernel_rfl
theorem Yba.cells30 : Yba.prog.cellsOf 30 = 8 := by kernel_rfl
theorem Yba.cells37 : Yba.prog.cellsOf 37 = 2 := by kernel_rfl

section
variable {H : Type} {enc : TypeId × Value → H} {w : World}

theorem open_node {b o n : Nat} {cs : List Value} {y : DataW H × List MemPlace} (hc : w.cells? 0 ⟨b, o, none⟩ 8 = some cs) (h : DataW.trod enc Yba.prog w 0 (fun _ => true) true n 30 cs = some y) : ∃ x : In, InAt w b o x := by
  obtain ⟨_, hlen, hcell⟩ := World.cells?_some hc
  obtain ⟨xs, n', _, _, _, hxl, hf⟩ := DataW.trod_struct Yba.underlying30 h
  match cs, hlen with
  | [c0, c1, c2, c3, c4, c5, c6, c7], _ =>
    match xs, hxl with
    | [x0, x1, x2, x3, x4, x5, x6, x7], _ =>
      have h0 : DataW.trod enc Yba.prog w 0 (fun _ => true) true n' 5 [c0] = some x0 := by simpa [Yba.cells5] using hf 0 _ rfl
      have h1 : DataW.trod enc Yba.prog w 0 (fun _ => true) true n' 26 [c1] = some x1 := by simpa [Yba.cells26] using hf 1 _ rfl
      have h2 : DataW.trod enc Yba.prog w 0 (fun _ => true) true n' 4 [c2] = some x2 := by simpa [Yba.cells4] using hf 2 _ rfl
      have h3 : DataW.trod enc Yba.prog w 0 (fun _ => true) true n' 4 [c3] = some x3 := by simpa [Yba.cells4] using hf 3 _ rfl
      have h4 : DataW.trod enc Yba.prog w 0 (fun _ => true) true n' 27 [c4] = some x4 := by simpa [Yba.cells27] using hf 4 _ rfl
      have h5 : DataW.trod enc Yba.prog w 0 (fun _ => true) true n' 5 [c5] = some x5 := by simpa [Yba.cells5] using hf 5 _ rfl
      have h6 : DataW.trod enc Yba.prog w 0 (fun _ => true) true n' 5 [c6] = some x6 := by simpa [Yba.cells5] using hf 6 _ rfl
      have h7 : DataW.trod enc Yba.prog w 0 (fun _ => true) true n' 28 [c7] = some x7 := by simpa [Yba.cells28] using hf 7 _ rfl
      obtain ⟨v0, e0, _, w0⟩ := DataW.trod_int Yba.underlying5 h0
      obtain ⟨v1, e1, _, w1⟩ := DataW.trod_int Yba.underlying26 h1
      obtain ⟨v2, e2, _⟩ := DataW.trod_bool Yba.underlying4 h2
      obtain ⟨v3, e3, _⟩ := DataW.trod_bool Yba.underlying4 h3
      obtain ⟨v4, e4, _, w4⟩ := DataW.trod_int Yba.underlying27 h4
      obtain ⟨v5, e5, _, w5⟩ := DataW.trod_int Yba.underlying5 h5
      obtain ⟨v6, e6, _, w6⟩ := DataW.trod_int Yba.underlying5 h6
      have b0 := bounds_u8 w0
      have b1 := bounds_u64 w1
      have b4 := bounds_u16 w4
      have b5 := bounds_u8 w5
      have b6 := bounds_u8 w6
      simp only [List.cons.injEq, and_true] at e0 e1 e2 e3 e4 e5 e6
      subst e0 e1 e2 e3 e4 e5 e6
      have hc : ∀ i, i < 8 → w.cell? ⟨b, o + i, none⟩ = [Value.int .u8 v0, .int .u64 v1, .bool v2, .bool v3, .int .u16 v4, .int .u8 v5, .int .u8 v6, c7][i]? := fun i hi => by rw [← hcell i hi, Addr.add_lit]
      have t0 : ((v0.toNat : Nat) : Int) = v0 := Int.toNat_of_nonneg b0.1
      have t1 : ((v1.toNat : Nat) : Int) = v1 := Int.toNat_of_nonneg b1.1
      have t4 : ((v4.toNat : Nat) : Int) = v4 := Int.toNat_of_nonneg b4.1
      have t5 : ((v5.toNat : Nat) : Int) = v5 := Int.toNat_of_nonneg b5.1
      have t6 : ((v6.toNat : Nat) : Int) = v6 := Int.toNat_of_nonneg b6.1
      rcases open_ints Yba.underlying28 Yba.underlying5 Yba.cells5 h7 with ⟨hcs, _⟩ | ⟨x, l, c, zs, hcs, _, hl, hm, hz, _, hcz, _⟩
      · simp only [List.cons.injEq, and_true] at hcs
        subst hcs
        exact ⟨⟨v0.toNat, v1.toNat, v2, v3, v4.toNat, v5.toNat, v6.toNat, none, 0, 0⟩, ⟨by rw [t0]; exact hc 0 (by omega), by rw [t1]; exact hc 1 (by omega), hc 2 (by omega), hc 3 (by omega), by rw [t4]; exact hc 4 (by omega), by rw [t5]; exact hc 5 (by omega), by rw [t6]; exact hc 6 (by omega), hc 7 (by omega), .inl rfl, by simp only; omega, by simp only; omega, by simp only; omega, by simp only; omega⟩⟩
      · simp only [List.cons.injEq, and_true] at hcs
        subst hcs
        refine ⟨⟨v0.toNat, v1.toNat, v2, v3, v4.toNat, v5.toNat, v6.toNat, some x, l, c⟩, ⟨by rw [t0]; exact hc 0 (by omega), by rw [t1]; exact hc 1 (by omega), hc 2 (by omega), hc 3 (by omega), by rw [t4]; exact hc 4 (by omega), by rw [t5]; exact hc 5 (by omega), by rw [t6]; exact hc 6 (by omega), hc 7 (by omega), ?_, by simp only; omega, by simp only; omega, by simp only; omega, by simp only; omega⟩⟩
        by_cases h0' : l = 0
        · exact .inl h0'
        · simp at hz
          obtain ⟨sb, so, rfl, hcz'⟩ := ints_at hcz (by omega)
          refine .inr ⟨sb, so, rfl, zs.take l, by simp; omega, fun j hj => ?_⟩
          rw [hcz' j (by simp only at hj; omega)]
          simp only at hj
          simp [List.getD, hj]

theorem open_nodes {fuel len cap : Nat} {a0 : Option Addr} {x : DataW H × List MemPlace} (h : DataW.trod enc Yba.prog w 0 (fun _ => true) true fuel 22 [.slice a0 len cap] = some x) (h0 : 0 < len) :
    ∃ (nb noff : Nat) (inp : Nat → In), a0 = some ⟨nb, noff, none⟩ ∧ ∀ k, k < len → InAt w nb (noff + k * 8) (inp k) := by
  rcases open_slice Yba.underlying22 h with ⟨hcs, _⟩ | ⟨a, len', cap', m, n, D, Pl, hcs, _, hl, hm, hmm, _, hx⟩
  · simp at hcs; omega
  · simp only [List.cons.injEq, and_true, Value.slice.injEq] at hcs
    obtain ⟨rfl, rfl, rfl⟩ := hcs
    simp only [if_true] at hmm
    subst hmm
    rw [Yba.cells30] at hx
    obtain ⟨nb, noff, spot⟩ := a
    obtain ⟨cs0, hc0, _⟩ := hx 0 (by omega)
    have hsp : spot = none := by
      obtain ⟨_, hl0, hcell⟩ := World.cells?_some hc0
      have := hcell 0 (by omega)
      rw [List.getElem?_eq_getElem (by omega)] at this
      simpa [Addr.add] using World.cell?_spot this
    subst hsp
    haveI : Inhabited In := ⟨⟨0, 0, false, false, 0, 0, 0, none, 0, 0⟩⟩
    obtain ⟨inp, hinp⟩ := choose_lt (α := In) (p := fun i x => InAt w nb (noff + i * 8) x) (n := len) (fun i hi => by
      obtain ⟨cs', h1, h2⟩ := hx i (by omega)
      rw [Addr.add_lit] at h1
      exact open_node h1 h2)
    exact ⟨nb, noff, inp, rfl, hinp⟩

theorem open_frame {b o n : Nat} {cs : List Value} {y : DataW H × List MemPlace} (hc : w.cells? 0 ⟨b, o, none⟩ 2 = some cs) (h : DataW.trod enc Yba.prog w 0 (fun _ => true) true n 37 cs = some y) :
    ∃ x : Nat × Bool, w.cell? ⟨b, o, none⟩ = some (.int .u8 x.1) ∧ w.cell? ⟨b, o + 1, none⟩ = some (.bool x.2) ∧ x.1 < 256 := by
  obtain ⟨_, hlen, hcell⟩ := World.cells?_some hc
  obtain ⟨xs, n', _, _, _, hxl, hf⟩ := DataW.trod_struct Yba.underlying37 h
  match cs, hlen with
  | [c0, c1], _ =>
    match xs, hxl with
    | [x0, x1], _ =>
      have h0 : DataW.trod enc Yba.prog w 0 (fun _ => true) true n' 5 [c0] = some x0 := by simpa [Yba.cells5] using hf 0 _ rfl
      have h1 : DataW.trod enc Yba.prog w 0 (fun _ => true) true n' 4 [c1] = some x1 := by simpa [Yba.cells4] using hf 1 _ rfl
      obtain ⟨v0, e0, _, w0⟩ := DataW.trod_int Yba.underlying5 h0
      obtain ⟨v1, e1, _⟩ := DataW.trod_bool Yba.underlying4 h1
      have b0 := bounds_u8 w0
      simp only [List.cons.injEq, and_true] at e0 e1
      subst e0 e1
      have hc : ∀ i, i < 2 → w.cell? ⟨b, o + i, none⟩ = [Value.int .u8 v0, .bool v1][i]? := fun i hi => by rw [← hcell i hi, Addr.add_lit]
      exact ⟨(v0.toNat, v1), by rw [show ((v0.toNat : Nat) : Int) = v0 from Int.toNat_of_nonneg b0.1]; exact hc 0 (by omega), hc 1 (by omega), by simp only; omega⟩

theorem open_frames {fuel len cap : Nat} {a0 : Option Addr} {x : DataW H × List MemPlace} (h : DataW.trod enc Yba.prog w 0 (fun _ => true) true fuel 23 [.slice a0 len cap] = some x) (h0 : 0 < len) :
    ∃ (fb foff : Nat) (fr : Nat → Nat × Bool), a0 = some ⟨fb, foff, none⟩ ∧ ∀ k, k < len → w.cell? ⟨fb, foff + k * 2, none⟩ = some (.int .u8 (fr k).1) ∧ w.cell? ⟨fb, foff + k * 2 + 1, none⟩ = some (.bool (fr k).2) ∧ (fr k).1 < 256 := by
  rcases open_slice Yba.underlying23 h with ⟨hcs, _⟩ | ⟨a, len', cap', m, n, D, Pl, hcs, _, hl, hm, hmm, _, hx⟩
  · simp at hcs; omega
  · simp only [List.cons.injEq, and_true, Value.slice.injEq] at hcs
    obtain ⟨rfl, rfl, rfl⟩ := hcs
    simp only [if_true] at hmm
    subst hmm
    rw [Yba.cells37] at hx
    obtain ⟨nb, noff, spot⟩ := a
    obtain ⟨cs0, hc0, _⟩ := hx 0 (by omega)
    have hsp : spot = none := by
      obtain ⟨_, hl0, hcell⟩ := World.cells?_some hc0
      have := hcell 0 (by omega)
      rw [List.getElem?_eq_getElem (by omega)] at this
      simpa [Addr.add] using World.cell?_spot this
    subst hsp
    obtain ⟨fr, hfr⟩ := choose_lt (α := Nat × Bool) (p := fun k x => w.cell? ⟨nb, noff + k * 2, none⟩ = some (.int .u8 x.1) ∧ w.cell? ⟨nb, noff + k * 2 + 1, none⟩ = some (.bool x.2) ∧ x.1 < 256) (n := len) (fun i hi => by
      obtain ⟨cs', h1, h2⟩ := hx i (by omega)
      rw [Addr.add_lit] at h1
      exact open_frame h1 h2)
    exact ⟨nb, noff, fr, rfl, hfr⟩
end
end Go.Proofs.Ybulkavza
