/-
  THE WALKS of copiesType$1$1 (11), ContainsFunc on fields (10), copiesType$1 (9), ContainsFunc on structs (7), copiesType (5).
-/
import Derived.Test.YbulkawcuIs
import Derived.Test.YbulkawcuPlain
namespace Go.Proofs.Ybulkawcu
open Go.RowKit

/-- The variable that holds 'is' lies in block bi. -/
def IsAt (w : World) (Q bi : Nat) : Prop := w.heap[bi]? = some (.cells #[.func (.func 4) #[] #[ptr (Q + 2), ptr (Q + 1), ptr Q]] 72 (0, 0))

set_option maxHeartbeats 1000000 in
set_option maxRecDepth 100000 in
theorem field_any {w : World} {N Q base f bi : Nat} {wt l : Int} {h : Option Addr} {zs : List Int} (hNQ : N ≤ Q) (hf : FdAt w N h l f) (hi : IsAt w Q bi) (hL : LogSt Q base wt zs w) (hz : zs.length < 1048576) :
    Calls Yba.prog 11 #[ptr f, ptr bi] w fun e w' => e = .returned (.bool (l == wt)) ∧ LogSt Q base wt (zs ++ [l]) w' ∧ KeptL base (Q + 1) w w' := by
  obtain ⟨hfN, t, d, hh, ht⟩ := hf
  have c8 := cellAt hh 8
  have ci := cellAt hi 0
  simp [fdCells] at c8
  simp [ptr] at ci
  have HL := (show Hid _ from hL)
  clear hL hi hh
  unfold ptr
  go_enter Yba.func11, Yba.ntmps11
  go_wp2
  go_loopg [4] d (fun k v wr => wr = w ∧ ∃ b, v = .pointer (some ⟨b, 0, none⟩) ∧ TyAt w N h l k b)
  case atStart => exact ⟨rfl, t, rfl, ht⟩
  case round =>
    obtain ⟨rfl, b1, rfl, h1⟩ := hrel
    clear ht
    rcases gk with _ | k
    · have hres := (show Hid _ from is_any hNQ h1 HL.out hz)
      obtain ⟨hlt, hh⟩ := h1
      have c0 := cellAt hh 0
      simp [tyCells] at c0
      clear hh HL
      go_wp2_with fail
      refine Calls.mono hres.out ?_
      rintro e w2 ⟨rfl, h2, h3⟩
      have H2 := (show Hid _ from h2)
      have H3 := (show Hid _ from h3)
      clear h2 h3 hres
      go_wp2_with fail
      exact bodyPost_ret (results_tmp rfl _ _ _) rfl ⟨rfl, H2.out, H3.out⟩
    · obtain ⟨hlt, b', hh, hn⟩ := h1
      have c0 := cellAt hh 0
      have c7 := cellAt hh 7
      simp [tyCells] at c0 c7
      go_wp2
      go_roundg k
      case measure => omega
      case rel => exact ⟨rfl, b', rfl, hn⟩

set_option maxHeartbeats 1000000 in
set_option maxRecDepth 100000 in
theorem fields_any {w : World} {N R Q base i bi : Nat} {wt : Int} {zs : List Int} {S : Sp} {fb : Nat → Nat → Nat} {fv : Nat → Value} (hO : S.Ok) (hG : Gr w N R S fb fv) (hNQ : N ≤ Q) (hin : i < S.n) (hi : IsAt w Q bi)
    (hbi : bi < base) (hbq : bi ≠ Q + 1) (hL : LogSt Q base wt zs w) (hz : zs.length ≤ 512 * 1024) :
    Calls Yba.prog 10 #[fv i, .func (.func 11) #[] #[ptr bi]] w fun e w' => e = .returned (.bool (scan wt (S.tags i)).2) ∧ LogSt Q base wt (zs ++ (scan wt (S.tags i)).1) w' ∧ KeptL base (Q + 1) w w' := by
  obtain ⟨ao, cap, hfv, hrow⟩ := hG.row i hin
  have hnf := hO.nf1024 i hin
  have hNb : N ≤ base := by have := hL.lt; omega
  have hidx := index19 (cap := cap) (ao := ao) (x := ptr bi) (p := fb i) (goes_of Yba.func11 (by kernel_rfl) rfl) hnf (fun k => S.tg i k == wt)
    (fun k wr => LogSt Q base wt (zs ++ (S.tags i).take k) wr ∧ KeptL base (Q + 1) w wr) ⟨by simpa using hL, KeptL.refl _ _ _⟩
    (fun k wr hk hI => by
      rcases hrow with h0 | ⟨g, rfl, hgN, hcs⟩
      · omega
      · exact ⟨g, rfl, (hI.2.cell (by omega) (by omega)).trans (hcs k hk)⟩)
    (fun k wr hk hI => by
      have hB := hI.2.below (show N ≤ Q + 1 by omega) hNb
      refine (field_any hNQ ((hG.fd i hin k hk).below hB) ((hI.2.block bi hbi hbq).trans hi) hI.1 ?_).mono ?_
      · rw [List.length_append, List.length_take, S.tags_len]; omega
      · rintro e w2 ⟨h1, h2, h3⟩
        refine ⟨h1, ?_, hI.2.trans h3⟩
        rw [S.tags_take i hk, ← List.append_assoc]
        exact h2)
  rw [hfv]
  have HI := (show Hid _ from hidx)
  clear hidx hrow hG hL hi
  go_enter Yba.func10, Yba.ntmps10
  go_wp2_with fail
  refine Calls.mono HI.out ?_
  rintro e w2 (⟨k, hk, rfl, h1, h2, h3, h4⟩ | ⟨rfl, h2, h3, h4⟩)
  · have hs := scan_hit (wt := wt) (l := S.tags i) (k := k) (by rw [S.tags_get i hk]; simpa using h1) (fun j hj => by rw [S.tags_get i (by omega)]; have := h2 j hj; simpa using this)
    have hge : (0 : Int) ≤ k := by omega
    have H := (show Hid _ from (⟨h3, h4⟩ : _ ∧ _))
    clear h1 h2 h3 h4 HI
    have Hs := (show Hid _ from hs)
    clear hs
    go_wp2_with fail
    refine bodyPost_ret (results_tmp rfl _ _ _) rfl ?_
    rw [Hs.out]
    exact ⟨rfl, H.out.1, H.out.2⟩
  · have hs := scan_no (wt := wt) (l := S.tags i) (fun j hj => by rw [S.tags_len] at hj; rw [S.tags_get i hj]; have := h2 j hj; simpa using this)
    rw [List.take_of_length_le (by rw [S.tags_len]; exact Nat.le_refl _)] at h3
    have H := (show Hid _ from (⟨h3, h4⟩ : _ ∧ _))
    clear h2 h3 h4 HI
    have Hs := (show Hid _ from hs)
    clear hs
    go_wp2_with fail
    refine bodyPost_ret (results_tmp rfl _ _ _) rfl ?_
    rw [Hs.out]
    exact ⟨rfl, H.out.1, H.out.2⟩

set_option maxHeartbeats 1000000 in
set_option maxRecDepth 100000 in
theorem struct_any {w : World} {N R Q base i bi : Nat} {wt : Int} {zs : List Int} {S : Sp} {fb : Nat → Nat → Nat} {fv : Nat → Value} (hO : S.Ok) (hG : Gr w N R S fb fv) (hNQ : N ≤ Q) (hin : i < S.n) (hi : IsAt w Q bi)
    (hbi : bi < base) (hbq : bi ≠ Q + 1) (hL : LogSt Q base wt zs w) (hz : zs.length ≤ 512 * 1024) :
    Calls Yba.prog 9 #[ptr (R + i), ptr bi] w fun e w' => e = .returned (.bool (S.hit wt i)) ∧ LogSt Q base wt (zs ++ S.part wt i) w' ∧ KeptL base (Q + 1) w w' := by
  have hmf : ∀ (fn : Fn) (first cap : Array Value) (w : World), (Instr.makeFunc fn first cap).run Yba.prog w = .ok (.func fn first cap) w := fun _ _ _ _ => rfl
  have c4 := cellAt (hG.st i hin) 7
  have c9 := cellAt (hG.st i hin) 9
  simp [stCells] at c4 c9
  have HF := (show Hid _ from fields_any hO hG hNQ hin hi hbi hbq hL hz)
  obtain ⟨ao, cap, hfv, _⟩ := hG.row i hin
  rw [hfv] at c9
  rw [hfv] at HF
  have HL := (show Hid _ from hL)
  clear hG hi hL hfv
  unfold ptr at *
  rcases hu : S.un i with _ | _
  · rw [hu] at c4
    go_enter Yba.func9, Yba.ntmps9
    go_wp2_with fail
    refine Calls.mono HF.out ?_
    rintro e w2 ⟨rfl, h2, h3⟩
    have H := (show Hid _ from (⟨h2, h3⟩ : _ ∧ _))
    clear h2 h3 HF HL
    have Hu := (show Hid _ from hu)
    clear hu
    go_wp2_with fail
    refine bodyPost_ret (results_tmp rfl _ _ _) rfl ?_
    simp only [Sp.hit, Sp.part, Hu.out]
    exact ⟨by simp, H.out.1, H.out.2⟩
  · rw [hu] at c4
    have Hu := (show Hid _ from hu)
    clear hu
    go_enter Yba.func9, Yba.ntmps9
    go_wp2_with fail
    refine bodyPost_ret (results_tmp rfl _ _ _) rfl ?_
    simp only [Sp.hit, Sp.part, Hu.out]
    exact ⟨by simp, by simpa using HL.out, KeptL.refl _ _ _⟩

set_option maxHeartbeats 1000000 in
set_option maxRecDepth 100000 in
theorem contain_any {w : World} {N R Q bi n0 : Nat} {wt : Int} {v : Value} {S : Sp} {fb : Nat → Nat → Nat} {fv : Nat → Value} (hO : S.Ok) (hG : Gr w N R S fb fv) (hNQ : N ≤ Q) (hi : IsAt w Q bi)
    (hbi : bi < w.heap.size) (hbq : bi ≠ Q + 1) (hL : LogSt Q w.heap.size wt [] w) (hv : w.ownsRow n0 27 1 v S.n (ptrsTo R S.n)) (hn0 : Q + 2 < n0) :
    Calls Yba.prog 7 #[v, .func (.func 9) #[] #[ptr bi]] w fun e w' => ∃ b zs, e = .returned (.bool b) ∧ S.End wt zs b ∧ LogSt Q w.heap.size wt zs w' ∧ KeptL w.heap.size (Q + 1) w w' := by
  obtain ⟨ao, cap, rfl, hrow⟩ := own_row hv
  have h256 := hO.n256
  have hlt := hL.lt
  have hidx := index12 (cap := cap) (ao := ao) (x := ptr bi) (p := fun i => R + i) (goes_of Yba.func9 (by kernel_rfl) rfl) (show S.n ≤ 1024 by omega) (S.hit wt)
    (fun k wr => LogSt Q w.heap.size wt (S.logTo wt k) wr ∧ KeptL w.heap.size (Q + 1) w wr) ⟨by simpa [Sp.logTo] using hL, KeptL.refl _ _ _⟩
    (fun k wr hk hI => by
      obtain ⟨g, h1, h2, h3, h4⟩ := hrow k hk
      exact ⟨g, h1, (hI.2.cell h3 (by omega)).trans h4⟩)
    (fun k wr hk hI => by
      have hB := hI.2.below (show N ≤ Q + 1 by omega) (show N ≤ w.heap.size by omega)
      have hlen := Sp.logTo_len hO wt k (Nat.le_of_lt hk)
      refine (struct_any hO (hG.below hB) hNQ hk ((hI.2.block bi hbi hbq).trans hi) hbi hbq hI.1 (by omega)).mono ?_
      rintro e w2 ⟨h1, h2, h3⟩
      refine ⟨h1, ?_, hI.2.trans h3⟩
      rw [S.logTo_succ]
      exact h2)
  have HI := (show Hid _ from hidx)
  clear hidx hrow hG hL hi hv
  go_enter Yba.func7, Yba.ntmps7
  go_wp2_with fail
  refine Calls.mono HI.out ?_
  rintro e w2 (⟨k, hk, rfl, h1, h2, h3, h4⟩ | ⟨rfl, h2, h3, h4⟩)
  · have hge : (0 : Int) ≤ k := by omega
    have H := (show Hid _ from (⟨.inl ⟨k, hk, h1, h2, rfl, rfl⟩, h3, h4⟩ : S.End wt (S.logTo wt (k + 1)) true ∧ _ ∧ _))
    clear h1 h2 h3 h4 HI
    go_wp2_with fail
    exact bodyPost_ret (results_tmp rfl _ _ _) rfl ⟨true, _, rfl, H.out.1, H.out.2⟩
  · have H := (show Hid _ from (⟨.inr ⟨h2, rfl, rfl⟩, h3, h4⟩ : S.End wt (S.logTo wt S.n) false ∧ _ ∧ _))
    clear h2 h3 h4 HI
    go_wp2_with fail
    exact bodyPost_ret (results_tmp rfl _ _ _) rfl ⟨false, _, rfl, H.out.1, H.out.2⟩

set_option maxHeartbeats 1000000 in
set_option maxRecDepth 100000 in
theorem copies_any {w : World} {N R Q bf bg bp bs : Nat} {wt : Int} {S : Sp} {fb : Nat → Nat → Nat} {fv : Nat → Value} {sv : Value} (hO : S.Ok) (hG : Gr w N R S fb fv) (hT : Top w N bf bg bp bs R S.n sv) (hNQ : N ≤ Q)
    (hQ : w.heap.size = Q + 3) (hw : w.heap[Q]? = some (.cells #[.int .i64 wt] 3 (0, 0))) (hl : w.heap[Q + 1]? = some (.cells #[.slice none 0 0] 71 (0, 0))) (hbad : w.heap[Q + 2]? = some (.cells #[.bool false] 4 (0, 0))) :
    Calls Yba.prog 5 #[ptr bg, .func (.func 4) #[] #[ptr (Q + 2), ptr (Q + 1), ptr Q]] w fun e w' => ∃ b zs base, e = .returned (.bool b) ∧ S.End wt zs b ∧ LogSt Q base wt zs w' ∧ Below Q w w' := by
  have hmf : ∀ (fn : Fn) (first cap : Array Value) (w : World), (Instr.makeFunc fn first cap).run Yba.prog w = .ok (.func fn first cap) w := fun _ _ _ _ => rfl
  have HG := (show Hid _ from hG)
  have HT := (show Hid _ from hT)
  have HS := (show Hid _ from (⟨hQ, hw, hl, hbad⟩ : _ ∧ _ ∧ _ ∧ _))
  clear hG hT hQ hw hl hbad
  unfold ptr
  go_enter Yba.func5, Yba.ntmps5
  go_wp2_with fail
  obtain ⟨hQ, hw, hl, hbad⟩ := HS.out
  have hB0 : Below w.heap.size w (w.alloc (Obj.cells #[Value.func (Fn.func 4) #[] #[Value.pointer (some { block := Q + 2, off := 0 }), Value.pointer (some { block := Q + 1, off := 0 }), Value.pointer (some { block := Q, off := 0 })]] 72)) := (Below.refl _ _).alloc (Nat.le_refl _) _
  have hI0 : IsAt (w.alloc (Obj.cells #[Value.func (Fn.func 4) #[] #[Value.pointer (some { block := Q + 2, off := 0 }), Value.pointer (some { block := Q + 1, off := 0 }), Value.pointer (some { block := Q, off := 0 })]] 72)) Q w.heap.size := heap_push _ _ rfl
  have hs0 : (w.alloc (Obj.cells #[Value.func (Fn.func 4) #[] #[Value.pointer (some { block := Q + 2, off := 0 }), Value.pointer (some { block := Q + 1, off := 0 }), Value.pointer (some { block := Q, off := 0 })]] 72)).heap.size = w.heap.size + 1 := by simp
  generalize w.alloc (Obj.cells #[Value.func (Fn.func 4) #[] #[Value.pointer (some { block := Q + 2, off := 0 }), Value.pointer (some { block := Q + 1, off := 0 }), Value.pointer (some { block := Q, off := 0 })]] 72) = w0 at *
  have hN : N ≤ w.heap.size := by omega
  refine (shim_any hO (HG.out.below (hB0.mono hN)) (by omega : N ≤ w0.heap.size) (HT.out.below (hB0.mono hN))).mono ?_
  rintro e w1 ⟨v, rfl, hown, hB1⟩
  have hB01 : Below w.heap.size w w1 := hB0.trans (hB1.mono (by omega))
  have hsz1 := hB1.size
  have hI1 : IsAt w1 Q w.heap.size := (hB1.block _ (by omega)).trans hI0
  have hL1 : LogSt Q w1.heap.size wt [] w1 := ⟨Nat.le_refl _, by omega, (hB01.block _ (by omega)).trans hw, ⟨_, (hB01.block _ (by omega)).trans hl, World.ownsRow_nil _ _ _ _⟩, (hB01.block _ (by omega)).trans hbad⟩
  have hc := contain_any hO (HG.out.below (hB01.mono hN)) hNQ hI1 (by omega) (by omega) hL1 hown (by omega)
  have HC := (show Hid _ from hc)
  have HB := (show Hid _ from hB01)
  have HZ := (show Hid _ from (⟨hQ, hs0, hsz1⟩ : _ ∧ _ ∧ _))
  clear hc hL1 hI1 hB01 hown hB1 hB0 hI0 hw hl hbad HS HG HT hQ hs0 hsz1
  go_wp2_with fail
  refine Calls.mono HC.out ?_
  rintro e w2 ⟨b, zs, rfl, h1, h2, h3⟩
  obtain ⟨hQ, hs0, hsz1⟩ := HZ.out
  have H := (show Hid _ from (⟨h1, h2, (HB.out.mono (by omega : Q ≤ w.heap.size)).trans (h3.below (by omega) (by omega))⟩ : S.End wt zs b ∧ LogSt Q w1.heap.size wt zs w2 ∧ Below Q w w2))
  clear h1 h2 h3 HC HB hQ hs0 hsz1 HZ
  go_wp2_with fail
  exact bodyPost_ret (results_tmp rfl _ _ _) rfl ⟨b, zs, _, rfl, H.out⟩

end Go.Proofs.Ybulkawcu
