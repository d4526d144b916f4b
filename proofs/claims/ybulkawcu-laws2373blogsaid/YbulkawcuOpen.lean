/-
  WHAT CAME IN, READ: a slice of structs, each of a bool and a slice of fields; no slice longer than memory.
-/
import Derived.Test.YbulkawcuIn
import Derived.ProofKit
import Derived.OpenShut
import Derived.Deep.Slices
import Derived.ChangeSame
import Derived.SizedLaws
namespace Go.Proofs.Ybulkawcu
open Go.RowKit Go.Deep Go.ChangeShapes Go.WideShapes

theorem Yba.cells4 : Yba.prog.cellsOf 4 = 1 := by kernel_rfl
theorem Yba.cells5 : Yba.prog.cellsOf 5 = 1 := by kernel_rfl
theorem Yba.cells23 : Yba.prog.cellsOf 23 = 1 := by kernel_rfl
theorem Yba.cells25 : Yba.prog.cellsOf 25 = 2 := by kernel_rfl
theorem Yba.cells34 : Yba.prog.cellsOf 34 = 4 := by kernel_rfl
theorem Yba.bytes34 : Yba.prog.bytesOf 34 = 4 := by kernel_rfl

section
variable {H : Type} {enc : TypeId × Value → H} {w : World}

set_option maxRecDepth 100000 in
theorem open_field {b o n : Nat} {cs : List Value} {y : DataW H × List MemPlace} (hc : w.cells? 0 ⟨b, o, none⟩ 4 = some cs) (h : DataW.trod enc Yba.prog w 0 (fun _ => true) true n 34 cs = some y) : ∃ x : FIn, FInAt w b o x := by
  obtain ⟨_, hlen, hcell⟩ := World.cells?_some hc
  obtain ⟨xs, n', _, _, _, hxl, hf⟩ := DataW.trod_struct Yba.underlying34 h
  match cs, hlen with
  | [c0, c1, c2, c3], _ =>
    match xs, hxl with
    | [x0, x1, x2, x3], _ =>
      have h0 : DataW.trod enc Yba.prog w 0 (fun _ => true) true n' 5 [c0] = some x0 := by simpa [Yba.cells5] using hf 0 _ rfl
      have h1 : DataW.trod enc Yba.prog w 0 (fun _ => true) true n' 5 [c1] = some x1 := by simpa [Yba.cells5] using hf 1 _ rfl
      have h2 : DataW.trod enc Yba.prog w 0 (fun _ => true) true n' 5 [c2] = some x2 := by simpa [Yba.cells5] using hf 2 _ rfl
      have h3 : DataW.trod enc Yba.prog w 0 (fun _ => true) true n' 4 [c3] = some x3 := by simpa [Yba.cells4] using hf 3 _ rfl
      obtain ⟨v0, e0, _, w0⟩ := DataW.trod_int Yba.underlying5 h0
      obtain ⟨v1, e1, _, w1⟩ := DataW.trod_int Yba.underlying5 h1
      obtain ⟨v2, e2, _, w2⟩ := DataW.trod_int Yba.underlying5 h2
      obtain ⟨v3, e3, _⟩ := DataW.trod_bool Yba.underlying4 h3
      have b0 := bounds_u8 w0
      have b1 := bounds_u8 w1
      have b2 := bounds_u8 w2
      simp only [List.cons.injEq, and_true] at e0 e1 e2 e3
      subst e0 e1 e2 e3
      have hc : ∀ i, i < 4 → w.cell? ⟨b, o + i, none⟩ = [Value.int .u8 v0, .int .u8 v1, .int .u8 v2, .bool v3][i]? := fun i hi => by rw [← hcell i hi, Addr.add_lit]
      have t0 : ((v0.toNat : Nat) : Int) = v0 := Int.toNat_of_nonneg b0.1
      have t1 : ((v1.toNat : Nat) : Int) = v1 := Int.toNat_of_nonneg b1.1
      have t2 : ((v2.toNat : Nat) : Int) = v2 := Int.toNat_of_nonneg b2.1
      exact ⟨⟨v0.toNat, v1.toNat, v2.toNat, v3⟩, ⟨by rw [t0]; exact hc 0 (by omega), by rw [t1]; exact hc 1 (by omega), by rw [t2]; exact hc 2 (by omega), hc 3 (by omega), by simp only; omega, by simp only; omega, by simp only; omega⟩⟩

/-- The fields' slice: no longer than the memory. -/
theorem open_fields {fuel : Nat} {c : Value} {x : DataW H × List MemPlace} (h : DataW.trod enc Yba.prog w 0 (fun _ => true) true fuel 23 [c] = some x) (hz : ∀ n ∈ x.1.weights Yba.prog 23, n ≤ reachBytes) :
    ∃ (sa : Option Addr) (nf sc : Nat) (fi : Nat → FIn), c = .slice sa nf sc ∧ nf < 4611686018427387904 ∧ (nf = 0 ∨ ∃ fb fo, sa = some ⟨fb, fo, none⟩ ∧ ∀ j, j < nf → FInAt w fb (fo + j * 4) (fi j)) := by
  haveI : Inhabited FIn := ⟨⟨0, 0, 0, false⟩⟩
  rcases open_slice Yba.underlying23 h with ⟨hcs, _⟩ | ⟨a, len, cap, m, n, D, Pl, hcs, _, hl, hm, hmm, hxe, hx⟩
  · simp only [List.cons.injEq, and_true] at hcs
    exact ⟨none, 0, 0, fun _ => default, hcs, by omega, .inl rfl⟩
  · simp only [List.cons.injEq, and_true] at hcs
    simp only [if_true] at hmm
    subst hmm hcs hxe
    have hw := hz _ (by simp only [DataW.weights, Yba.underlying23]; exact List.mem_cons_self)
    rw [Yba.bytes34] at hw
    simp only [List.length_map, List.length_range, reachBytes] at hw
    rw [Yba.cells34] at hx
    by_cases h0 : len = 0
    · exact ⟨some a, len, m, fun _ => default, rfl, by omega, .inl h0⟩
    obtain ⟨nb, noff, spot⟩ := a
    obtain ⟨cs0, hc0, _⟩ := hx 0 (by omega)
    have hsp : spot = none := by
      obtain ⟨_, hl0, hcell⟩ := World.cells?_some hc0
      have := hcell 0 (by omega)
      rw [List.getElem?_eq_getElem (by omega)] at this
      simpa [Addr.add] using World.cell?_spot this
    subst hsp
    obtain ⟨inp, hinp⟩ := choose_lt (α := FIn) (p := fun i x => FInAt w nb (noff + i * 4) x) (n := len) (fun i hi => by
      obtain ⟨cs', h1, h2⟩ := hx i (by omega)
      rw [Addr.add_lit] at h1
      exact open_field h1 h2)
    exact ⟨_, len, m, inp, rfl, by omega, .inr ⟨nb, noff, rfl, hinp⟩⟩

set_option maxRecDepth 100000 in
theorem open_spec {b o n : Nat} {cs : List Value} {y : DataW H × List MemPlace} (hc : w.cells? 0 ⟨b, o, none⟩ 2 = some cs) (h : DataW.trod enc Yba.prog w 0 (fun _ => true) true n 25 cs = some y) (hz : ∀ n ∈ y.1.weights Yba.prog 25, n ≤ reachBytes) :
    ∃ x : SIn, SInAt w b o x := by
  obtain ⟨_, hlen, hcell⟩ := World.cells?_some hc
  obtain ⟨xs, n', _, hy, _, hxl, hf⟩ := DataW.trod_struct Yba.underlying25 h
  match cs, hlen with
  | [c0, c1], _ =>
    match xs, hxl with
    | [x0, x1], _ =>
      have h0 : DataW.trod enc Yba.prog w 0 (fun _ => true) true n' 4 [c0] = some x0 := by simpa [Yba.cells4] using hf 0 _ rfl
      have h1 : DataW.trod enc Yba.prog w 0 (fun _ => true) true n' 23 [c1] = some x1 := by simpa [Yba.cells23] using hf 1 _ rfl
      obtain ⟨v0, e0, _⟩ := DataW.trod_bool Yba.underlying4 h0
      subst hy
      obtain ⟨sa, nf, sc, fi, rfl, hnf, hfs⟩ := open_fields h1 (fun k hk => hz k (by
        simp only [DataW.weights, Yba.underlying25]
        exact DataW.weights_mem_each (j := 1) (t := 23) (d := x1.1) rfl rfl k hk))
      simp only [List.cons.injEq, and_true] at e0
      subst e0
      have hc : ∀ i, i < 2 → w.cell? ⟨b, o + i, none⟩ = [Value.bool v0, .slice sa nf sc][i]? := fun i hi => by rw [← hcell i hi, Addr.add_lit]
      exact ⟨⟨v0, sa, nf, sc, fi⟩, ⟨hc 0 (by omega), hc 1 (by omega), hnf, hfs⟩⟩

theorem weights_all {e : TypeId} : ∀ {ds : List (DataW H)} {d : DataW H}, d ∈ ds → ∀ n ∈ d.weights Yba.prog e, n ∈ DataW.weightsAll Yba.prog e ds
  | x :: ds, d, hd, n, hn => by
    simp only [DataW.weightsAll, List.mem_append]
    rcases List.mem_cons.1 hd with rfl | hd
    · exact .inl hn
    · exact .inr (weights_all hd n hn)

theorem open_specs {fuel len cap : Nat} {a0 : Option Addr} {x : DataW H × List MemPlace} (h : DataW.trod enc Yba.prog w 0 (fun _ => true) true fuel 22 [.slice a0 len cap] = some x) (hz : ∀ n ∈ x.1.weights Yba.prog 22, n ≤ reachBytes) :
    ∃ inp : Nat → SIn, len = 0 ∨ ∃ b o, a0 = some ⟨b, o, none⟩ ∧ ∀ k, k < len → SInAt w b (o + k * 2) (inp k) := by
  haveI : Inhabited SIn := ⟨⟨false, none, 0, 0, fun _ => ⟨0, 0, 0, false⟩⟩⟩
  by_cases h0 : len = 0
  · exact ⟨fun _ => default, .inl h0⟩
  rcases open_slice Yba.underlying22 h with ⟨hcs, _⟩ | ⟨a, len', cap', m, n, D, Pl, hcs, _, hl, hm, hmm, hxe, hx⟩
  · simp at hcs; omega
  · simp only [List.cons.injEq, and_true, Value.slice.injEq] at hcs
    obtain ⟨rfl, rfl, rfl⟩ := hcs
    simp only [if_true] at hmm
    subst hmm hxe
    rw [Yba.cells25] at hx
    obtain ⟨nb, noff, spot⟩ := a
    obtain ⟨cs0, hc0, _⟩ := hx 0 (by omega)
    have hsp : spot = none := by
      obtain ⟨_, hl0, hcell⟩ := World.cells?_some hc0
      have := hcell 0 (by omega)
      rw [List.getElem?_eq_getElem (by omega)] at this
      simpa [Addr.add] using World.cell?_spot this
    subst hsp
    obtain ⟨inp, hinp⟩ := choose_lt (α := SIn) (p := fun i x => SInAt w nb (noff + i * 2) x) (n := len) (fun i hi => by
      obtain ⟨cs', h1, h2⟩ := hx i (by omega)
      rw [Addr.add_lit] at h1
      refine open_spec h1 h2 (fun k hk => hz k ?_)
      simp only [DataW.weights, Yba.underlying22]
      exact List.mem_cons_of_mem _ (List.mem_append_left _ (weights_all (List.mem_map.2 ⟨i, List.mem_range.2 hi, rfl⟩) k hk)))
    exact ⟨inp, .inr ⟨nb, noff, rfl, hinp⟩⟩
end
end Go.Proofs.Ybulkawcu
