/-
  THE WALKS of the two closures that call themselves: structs$1 (function 21), shimStructs$1 (function 13); and shimStructs$2 (function 18).
-/
import Derived.Test.YbulkawcuMem
import Derived.BigQuiet
namespace Go.Proofs.Ybulkawcu
open Go.RowKit

def ptr (b : Nat) : Value := .pointer (some ⟨b, 0, none⟩)
def ptrsTo (R k : Nat) : List Value := (adsTo R k).map (fun a => Value.pointer (some a))

theorem own_form {w : World} {base e n : Nat} {v : Value} {xs : List Value} (h : w.ownsRow base e 1 v n xs) : ∃ ao cp, v = .slice ao n cp := by
  rcases h.2 with ⟨rfl, rfl⟩ | ⟨g, cap, cur, rfl, _⟩
  · exact ⟨_, _, rfl⟩
  · exact ⟨_, _, rfl⟩

/-- The closure 'add' and what it captures: the list's variable (block B), the map (B + 1), its variable (B + 2), the closure's own (B + 3). -/
structure AddSt (B R k : Nat) (w : World) : Prop where
  size : B + 4 ≤ w.heap.size
  l : ∃ v, w.heap[B]? = some (.cells #[v] 26 (0, 0)) ∧ w.ownsRow (B + 4) 27 1 v k (ptrsTo R k)
  m : SetAt w (B + 1) (adsTo R k)
  s : w.heap[B + 2]? = some (.cells #[.map (some (B + 1))] 67 (0, 0))
  a : w.heap[B + 3]? = some (.cells #[.func (.func 21) #[] #[ptr (B + 2), ptr (B + 3), ptr B]] 82 (0, 0))

theorem add_seen {w : World} {N R B i : Nat} {S : Sp} {ads : List Addr} {fb : Nat → Nat → Nat} {fv : Nat → Value} (hG : Gr w N R S fb fv) (hi : i < S.n)
    (hs : w.heap[B + 2]? = some (.cells #[.map (some (B + 1))] 67 (0, 0))) (hm : SetAt w (B + 1) ads) (hc : ∀ a ∈ ads, IsCells w a) (hin : ad R i ∈ ads) (x y : Value) :
    Calls Yba.prog 21 #[.pointer (some (ad R i)), ptr (B + 2), x, y] w fun e w' => e = .returned (.tuple #[]) ∧ w' = w := by
  have c0 := cellAt hs 0
  have hl := lookup_ptr hm hc (hG.cells hi)
  simp only [hin] at hl
  simp at c0 hl
  unfold ptr
  generalize ad R i = a at *
  go_enter Yba.func21, Yba.ntmps21
  go_wp2
  exact bodyPost_ret (results_none rfl _ _ _) rfl ⟨rfl, rfl⟩

theorem Yba.info27 : (Yba.prog.info? 27).map (fun i => (i.zero, i.size, i.bytes)) = some (some (.pointer none), 1, 8) := by kernel_rfl

set_option maxHeartbeats 1000000 in
set_option maxRecDepth 100000 in
theorem add_new {w : World} {N R B k : Nat} {S : Sp} {fb : Nat → Nat → Nat} {fv : Nat → Value} (hO : S.Ok) (hG : Gr w N R S fb fv) (hN : N ≤ B) (hk : k < S.n) (hA : AddSt B R k w) :
    Calls Yba.prog 21 #[.pointer (some (ad R k)), ptr (B + 2), ptr (B + 3), ptr B] w fun e w' => e = .returned (.tuple #[]) ∧ AddSt B R (k + 1) w' ∧ Below B w w' := by
  obtain ⟨hsz, ⟨v, hl, hown⟩, hm, hs, ha⟩ := hA
  have c0 := cellAt hs 0
  have hlk := lookup_ptr hm (hG.cellsTo (Nat.le_of_lt hk)) (hG.cells hk)
  have hnot : ad R k ∉ adsTo R k := fun h => absurd (mem_adsTo.1 h) (by omega)
  obtain ⟨w1, hu, hm1, hgr, hsz1⟩ := update_ptr hm (hG.cellsTo (Nat.le_of_lt hk)) (hG.cells hk) hnot
  simp only [hnot] at hlk
  simp at c0 hlk
  have hN' : R + S.n ≤ B := Nat.le_trans hG.lo hN
  have hB1 : Below (B + 1) w w1 := (Below.refl _ _).grown hgr (by omega) (fun k hk => by cases hk; exact Nat.le_refl _)
  have hG1 := hG.below (hB1.mono (by omega : N ≤ B + 1))
  have hs1 : w1.heap[B + 2]? = some (.cells #[.map (some (B + 1))] 67 (0, 0)) := (hgr.block _ (by omega) (by simp)).trans hs
  have ha1 : w1.heap[B + 3]? = some (.cells #[.func (.func 21) #[] #[ptr (B + 2), ptr (B + 3), ptr B]] 82 (0, 0)) := (hgr.block _ (by omega) (by simp)).trans ha
  have hl1 : w1.heap[B]? = some (.cells #[v] 26 (0, 0)) := (hgr.block _ (by omega) (by simp)).trans hl
  have hown1 : w1.ownsRow (B + 4) 27 1 v k (ptrsTo R k) := hown.kept hgr (by
    rcases hv : v.ownBlock with _ | g
    · exact .inl rfl
    · right; intro h; cases h; have := (hown.lt _ hv).1; omega)
  have c5 := cellAt (hG1.st k hk) 9
  have ca1 := cellAt ha1 0
  have cl1 := cellAt hl1 0
  obtain ⟨ao, cap, hfv, hrow⟩ := hG1.row k hk
  rw [hfv] at c5
  simp [stCells] at c5 ca1 cl1
  have hnf := hO.nf1024 k hk
  have hheld := hO.held k hk
  have hfd := hG1.fd k hk
  have hcells := hG1.cellsTo (Nat.succ_le_of_lt hk)
  have hm1' : SetAt w1 (B + 1) (adsTo R (k + 1)) := by rw [adsTo_succ]; exact hm1
  have hkR : (ad R k) = ⟨R + k, 0, none⟩ := rfl
  rw [hkR] at hlk hu
  rw [hkR]
  generalize S.nf k = nf at *
  have hbelow : Hid (Below (B + 1) w w1) := hB1
  have Hsz1 : Hid (w1.heap.size = w.heap.size) := hsz1
  obtain ⟨i0, hi0, hz0, hz1, hz2⟩ := info_parts Yba.info27
  clear hsz1
  clear hl hown hm hs ha hnot hgr hB1 hG
  unfold ptr at *
  go_enter Yba.func21, Yba.ntmps21
  go_wp2_with fail
  go_loopg [18] nf (fun g v wr => wr = w1 ∧ ∃ j, j ≤ nf ∧ v = .int .i64 j ∧ g = nf - j)
  case atStart => exact ⟨rfl, 0, by omega, rfl, by omega⟩
  case round =>
    obtain ⟨rfl, j, hj, rfl, hg⟩ := hrel
    by_cases hlt : j < nf
    · rcases hrow with h0 | ⟨g, rfl, hgN, hcs⟩
      · omega
      · have hc := hcs j hlt
        obtain ⟨hbN, t, d, hf, ht⟩ := hfd j hlt
        have cf := cellAt hf 8
        simp [fdCells] at cf
        have hltI : (j : Int) < nf := by omega
        go_wp2_with fail
        refine (held_any (Below.refl N wr) ht).mono ?_
        rintro e w2 ⟨rfl, rfl⟩
        rcases hh : S.hd k j with _ | q
        · simp only [Option.map_none]
          go_wp2_with fail
          go_roundg (nf - (j + 1))
          case measure => omega
          case rel => exact ⟨rfl, j + 1, by omega, by simp, rfl⟩
        · simp only [Option.map_some]
          have hq := hheld j hlt q hh
          have hkR2 : (ad R q) = ⟨R + q, 0, none⟩ := rfl
          rw [hkR2]
          go_wp2_with fail
          refine (add_seen hG1 (by omega : q < S.n) hs1 hm1' hcells (mem_adsTo.2 (by omega)) _ _).mono ?_
          rintro e w3 ⟨rfl, rfl⟩
          go_wp2_with fail
          go_roundg (nf - (j + 1))
          case measure => omega
          case rel => exact ⟨rfl, j + 1, by omega, by simp, rfl⟩
    · rcases (show j = nf by omega) with rfl
      have hge : ¬ ((j : Int) < j) := by omega
      go_wp2_with (at_builtin; refine wpList_append_own_at _ rfl _ _ 26 rfl (B + 4) 27 i0 (.pointer none) 1 8 Yba.underlying26 hi0 hz0 hz1 hz2 rfl (by decide) _ _ _ rfl (hown1.alloc _) ⟨wr.heap.size, 0, none⟩ 1 1 [.pointer (some ⟨R + k, 0, none⟩)] rfl rfl (cell_one_new _ _ _) ?_ ?_ ?_ ?_ ?_)
      · rfl
      · have := hO.n256; unfold maxLen; omega
      · have := hO.n256; omega
      · have := Hsz1.out; omega
      · intro v' w' hown2 hgr2 _ _
        have hv : ∀ g, v.ownBlock = some g → B + 4 ≤ g := fun g hg => (hown1.lt _ hg).1
        have hsz2 : B + 4 ≤ wr.heap.size := by have := Hsz1.out; omega
        have hblk : ∀ b, b < B + 4 → w'.heap[b]? = wr.heap[b]? := fun b hb => (hgr2.block b (by simp; omega) (fun e => by have := hv b e.symm; omega)).trans (Below.heap_alloc _ _ _ (by omega))
        have hB2 : Below B wr w' := ((Below.refl B wr).alloc (by omega) _).grown hgr2 (by simp; omega) (fun g hg => by have := hv g hg; omega)
        have hlw : w'.heap[B]? = some (.cells #[v] 26 (0, 0)) := (hblk B (by omega)).trans hl1
        have clw := cellAt hlw 0
        have hfr : w'.frozen? ⟨B, 0, none⟩ = false := by simp [World.frozen?, hlw]
        have hm2 : SetAt w' (B + 1) (adsTo R (k + 1)) := hm1'.block (hblk _ (by omega))
        have hs2 := (hblk (B + 2) (by omega)).trans hs1
        have ha2 := (hblk (B + 3) (by omega)).trans ha1
        have hszw := hB2.size
        have hB3 := hbelow.out.mono (Nat.le_succ B)
        have hend : AddSt B R (k + 1) (w'.setCell ⟨B, 0, none⟩ v') ∧ Below B w (w'.setCell ⟨B, 0, none⟩ v') := by
          refine ⟨⟨by simp; omega, ⟨v', ?_, ?_⟩, hm2.block (Below.heap_setCell _ _ _ _ (by simp)), (Below.heap_setCell _ _ _ _ (by simp)).trans hs2, (Below.heap_setCell _ _ _ _ (by simp)).trans ha2⟩, (hB3.trans hB2).setCell (Nat.le_refl _) _⟩
          · simp [World.setCell, Array.getElem?_modify, hlw]
          · refine ownsRow_setCell_below ?_ (by show B < B + 4; omega) _
            simpa [ptrsTo, adsTo_succ, ad] using hown2
        obtain ⟨ao', cp', rfl⟩ := own_form hown2
        have hend := (show Hid _ from hend)
        clear hown2 hgr2 hB2 hm2 hs2 ha2 hB3 hlw hblk hm1 hm1' hG1 hfd hcells hs1 ha1 hl1 hown1
        simp at clw
        go_wp2_with fail
        exact bodyPost_end (results_none rfl _ _ _) rfl ⟨rfl, hend.out⟩

theorem below_drewN (B : Nat) (w : World) (n : Nat) : Below B w (w.drewN n) := ⟨rfl, rfl, rfl, Nat.le_refl _, fun _ _ => rfl⟩

/-- The closure 'name' and what it captures: the map (block B), its variable (B + 1), the closure's own (B + 2). -/
structure NameSt (B R k : Nat) (w : World) : Prop where
  size : B + 3 ≤ w.heap.size
  m : SetAt w B (adsTo R k)
  s : w.heap[B + 1]? = some (.cells #[.map (some B)] 67 (0, 0))
  a : w.heap[B + 2]? = some (.cells #[.func (.func 13) #[] #[ptr (B + 1), ptr (B + 2)]] 82 (0, 0))

theorem NameSt.below {B R k : Nat} {w w' : World} (h : NameSt B R k w) (hB : Below (B + 3) w w') : NameSt B R k w' :=
  ⟨Nat.le_trans h.size hB.size, h.m.block (hB.block _ (by omega)), (hB.block _ (by omega)).trans h.s, (hB.block _ (by omega)).trans h.a⟩

theorem name_nil {w : World} {x y : Value} : Calls Yba.prog 13 #[.pointer none, x, y] w fun e w' => e = .returned (.tuple #[]) ∧ w' = w := by
  go_enter Yba.func13, Yba.ntmps13
  go_wp2
  exact bodyPost_ret (results_none rfl _ _ _) rfl ⟨rfl, rfl⟩

theorem name_seen {w : World} {N R B i : Nat} {S : Sp} {ads : List Addr} {fb : Nat → Nat → Nat} {fv : Nat → Value} (hG : Gr w N R S fb fv) (hi : i < S.n)
    (hs : w.heap[B + 1]? = some (.cells #[.map (some B)] 67 (0, 0))) (hm : SetAt w B ads) (hc : ∀ a ∈ ads, IsCells w a) (hin : ad R i ∈ ads) (x : Value) :
    Calls Yba.prog 13 #[.pointer (some (ad R i)), ptr (B + 1), x] w fun e w' => e = .returned (.tuple #[]) ∧ w' = w := by
  have c0 := cellAt hs 0
  have hl := lookup_ptr hm hc (hG.cells hi)
  simp only [hin] at hl
  simp at c0 hl
  unfold ptr
  generalize ad R i = a at *
  go_enter Yba.func13, Yba.ntmps13
  go_wp2
  exact bodyPost_ret (results_none rfl _ _ _) rfl ⟨rfl, rfl⟩

/-- One word for both: whatever a field holds. -/
theorem name_held {w : World} {N R B k : Nat} {S : Sp} {h : Option Nat} {fb : Nat → Nat → Nat} {fv : Nat → Value} (hG : Gr w N R S fb fv) (hk : k ≤ S.n) (hh : ∀ i, h = some i → i < k)
    (hs : w.heap[B + 1]? = some (.cells #[.map (some B)] 67 (0, 0))) (hm : SetAt w B (adsTo R k)) (x : Value) :
    Calls Yba.prog 13 #[.pointer (h.map (ad R)), ptr (B + 1), x] w fun e w' => e = .returned (.tuple #[]) ∧ w' = w := by
  rcases h with _ | i
  · exact name_nil
  · have hi := hh i rfl
    exact name_seen hG (by omega) hs hm (hG.cellsTo hk) (mem_adsTo.2 hi) x

set_option maxHeartbeats 1000000 in
set_option maxRecDepth 100000 in
theorem name_new {w : World} {N R B k : Nat} {S : Sp} {fb : Nat → Nat → Nat} {fv : Nat → Value} (hO : S.Ok) (hG : Gr w N R S fb fv) (hN : N ≤ B) (hk : k < S.n) (hA : NameSt B R k w) :
    Calls Yba.prog 13 #[.pointer (some (ad R k)), ptr (B + 1), ptr (B + 2)] w fun e w' => e = .returned (.tuple #[]) ∧ NameSt B R (k + 1) w' ∧ Below B w w' := by
  obtain ⟨hsz, hm, hs, ha⟩ := hA
  have c0 := cellAt hs 0
  have hlk := lookup_ptr hm (hG.cellsTo (Nat.le_of_lt hk)) (hG.cells hk)
  have hnot : ad R k ∉ adsTo R k := fun h => absurd (mem_adsTo.1 h) (by omega)
  obtain ⟨w1, hu, hm1, hgr, hsz1⟩ := update_ptr hm (hG.cellsTo (Nat.le_of_lt hk)) (hG.cells hk) hnot
  simp only [hnot] at hlk
  simp at c0 hlk
  have hN' : R + S.n ≤ B := Nat.le_trans hG.lo hN
  have hB1 : Below B w w1 := (Below.refl _ _).grown hgr (by omega) (fun k hk => by cases hk; exact Nat.le_refl _)
  have hG1 := hG.below (hB1.mono hN)
  have hs1 : w1.heap[B + 1]? = some (.cells #[.map (some B)] 67 (0, 0)) := (hgr.block _ (by omega) (by simp)).trans hs
  have ha1 : w1.heap[B + 2]? = some (.cells #[.func (.func 13) #[] #[ptr (B + 1), ptr (B + 2)]] 82 (0, 0)) := (hgr.block _ (by omega) (by simp)).trans ha
  have c5 := cellAt (hG1.st k hk) 9
  have ca1 := cellAt ha1 0
  obtain ⟨ao, cap, hfv, hrow⟩ := hG1.row k hk
  rw [hfv] at c5
  simp [stCells] at c5 ca1
  have hnf := hO.nf1024 k hk
  have hheld := hO.held k hk
  have hfd := hG1.fd k hk
  have hm1' : SetAt w1 B (adsTo R (k + 1)) := by rw [adsTo_succ]; exact hm1
  have hkR : (ad R k) = ⟨R + k, 0, none⟩ := rfl
  rw [hkR] at hlk hu
  rw [hkR]
  have hend : Hid (NameSt B R (k + 1) w1 ∧ Below B w w1) := ⟨⟨by omega, hm1', hs1, ha1⟩, hB1⟩
  generalize S.nf k = nf at *
  clear hm hs ha hnot hgr hB1 hG
  unfold ptr at *
  go_enter Yba.func13, Yba.ntmps13
  go_wp2_with fail
  go_loopg [20] nf (fun g v wr => Below (B + 3) w1 wr ∧ ∃ j, j ≤ nf ∧ v = .int .i64 j ∧ g = nf - j)
  case atStart => exact ⟨Below.refl _ _, 0, by omega, rfl, by omega⟩
  case round =>
    obtain ⟨hBr, j, hj, rfl, hg⟩ := hrel
    by_cases hlt : j < nf
    · rcases hrow with h0 | ⟨g, rfl, hgN, hcs⟩
      · omega
      · have hc := (hBr.cell (p := ⟨g, j, none⟩) (by show g < B + 3; omega)).trans (hcs j hlt)
        obtain ⟨hbN, t, d, hf, ht⟩ := hfd j hlt
        have cf := (hBr.cell (p := ⟨fb k j, 8, none⟩) (by show fb k j < B + 3; omega)).trans (cellAt hf 8)
        have ca2 := (hBr.cell (p := ⟨B + 2, 0, none⟩) (by show B + 2 < B + 3; omega)).trans ca1
        simp [fdCells] at cf
        have hltI : (j : Int) < nf := by omega
        have hq14 : ∀ n, Calls Yba.prog 14 #[.pointer (some ⟨t, 0, none⟩)] (wr.drewN n) fun e w' => e = .returned (.pointer ((S.hd k j).map (ad R))) ∧ w' = wr.drewN n :=
          fun n => held_any ((hBr.mono (by omega : N ≤ B + 3)).trans (below_drewN N wr n)) ht
        have hq13 : ∀ n, Calls Yba.prog 13 #[.pointer ((S.hd k j).map (ad R)), .pointer (some ⟨B + 1, 0, none⟩), .pointer (some ⟨B + 2, 0, none⟩)] (wr.drewN n) fun e w' => e = .returned (.tuple #[]) ∧ w' = wr.drewN n :=
          fun n => name_held (hG1.below ((hBr.mono (by omega : N ≤ B + 3)).trans (below_drewN N wr n))) (Nat.succ_le_of_lt hk) (fun i hi => Nat.lt_succ_of_lt (hheld j hlt i hi)) ((hBr.block _ (by omega)).trans hs1) (hm1'.block (hBr.block _ (by omega))) _
        have HB := (show Hid _ from hBr)
        clear hm1 hm1' hs1 ha1 hG1 hfd hcs hf ht ca1 hBr hheld c5
        generalize (S.hd k j).map (ad R) = hx at *
        go_wp2_with fail
        go_quiet (first | (go_at_call 14; exact Calls.quiet_of_same (hq14 _)) | (go_at_call 13; exact Calls.quiet_of_same (hq13 _)))
        go_wp2_with fail
        go_roundg (nf - (j + 1))
        case measure => omega
        case rel => exact ⟨HB.out.trans (below_drewN _ _ _), j + 1, by omega, by simp, rfl⟩
    · rcases (show j = nf by omega) with rfl
      have hge : ¬ ((j : Int) < j) := by omega
      have hfin := (show Hid _ from (⟨hend.out.1.below hBr, hend.out.2.trans (hBr.mono (by omega : B ≤ B + 3))⟩ : NameSt B R (k + 1) wr ∧ Below B w wr))
      clear hBr hm1 hm1' hs1 ha1 hG1 hfd hend
      go_wp2_with fail
      exact bodyPost_end (results_none rfl _ _ _) rfl ⟨rfl, hfin.out⟩

theorem not_named {w : World} {N R B i : Nat} {S : Sp} {ads : List Addr} {fb : Nat → Nat → Nat} {fv : Nat → Value} (hG : Gr w N R S fb fv) (hi : i < S.n)
    (hs : w.heap[B + 1]? = some (.cells #[.map (some B)] 67 (0, 0))) (hm : SetAt w B ads) (hc : ∀ a ∈ ads, IsCells w a) (hin : ad R i ∈ ads) :
    Calls Yba.prog 18 #[.pointer (some (ad R i)), ptr (B + 1)] w fun e w' => e = .returned (.bool false) ∧ w' = w := by
  have c0 := cellAt hs 0
  have hl := lookup_ptr hm hc (hG.cells hi)
  simp only [hin] at hl
  simp at c0 hl
  unfold ptr
  generalize ad R i = a at *
  go_enter Yba.func18, Yba.ntmps18
  go_wp2
  exact bodyPost_ret (results_tmp rfl _ _ _) rfl ⟨rfl, rfl⟩

end Go.Proofs.Ybulkawcu
