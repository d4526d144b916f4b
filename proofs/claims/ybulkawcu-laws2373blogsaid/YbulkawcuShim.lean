/-
  THE WALKS of DeleteFunc where nothing is deleted (16) and of shimStructs (8).
-/
import Derived.Test.YbulkawcuIndex
namespace Go.Proofs.Ybulkawcu
open Go.RowKit

theorem own_row {w : World} {base R n : Nat} {v : Value} (h : w.ownsRow base 27 1 v n (ptrsTo R n)) :
    ∃ ao cap, v = .slice ao n cap ∧ ∀ k, k < n → ∃ g, ao = some ⟨g, 0, none⟩ ∧ base ≤ g ∧ g < w.heap.size ∧ w.cell? ⟨g, k, none⟩ = some (ptr (R + k)) := by
  have hl := h.lt
  have hc := fun g => @World.ownsRow.cells _ _ _ _ _ _ _ h g
  rcases h.2 with ⟨rfl, rfl⟩ | ⟨g, cap, cur, rfl, _⟩
  · exact ⟨_, _, rfl, fun k hk => by omega⟩
  · refine ⟨_, _, rfl, fun k hk => ⟨g, rfl, (hl g rfl).1, (hl g rfl).2, ?_⟩⟩
    have := hc g rfl k (ptr (R + k)) (by simp [ptrsTo, adsTo, hk, ad, ptr])
    have e : (⟨g, 0, none⟩ : Addr).add k = ⟨g, k, none⟩ := by
      simp only [Addr.add]
      split
      · simp_all
      · simp
    rw [e] at this
    exact this

set_option maxHeartbeats 1000000 in
set_option maxRecDepth 100000 in
theorem delete_none {w : World} {n c cap : Nat} {ao : Option Addr} {x : Value} {p : Nat → Nat} (hgo : Goes c) (hn : n ≤ 1024)
    (hrow : ∀ k, k < n → ∃ g, ao = some ⟨g, 0, none⟩ ∧ w.cell? ⟨g, k, none⟩ = some (ptr (p k)))
    (hstep : ∀ k, k < n → Calls Yba.prog c #[ptr (p k), x] w fun e w' => e = .returned (.bool false) ∧ w' = w) :
    Calls Yba.prog 16 #[.slice ao n cap, .func (.func c) #[] #[x]] w fun e w' => e = .returned (.slice ao n cap) ∧ w' = w := by
  have hidx := index12 (cap := cap) hgo hn (fun _ => false) (fun _ wr => wr = w) rfl (fun k wr hk h => by subst h; exact hrow k hk) (fun k wr hk h => by subst h; exact hstep k hk)
  have HI := (show Hid _ from hidx)
  clear hidx hrow hstep hgo
  go_enter Yba.func16, Yba.ntmps16
  go_wp2_with fail
  refine Calls.mono HI.out ?_
  rintro e w2 (⟨k, _, _, h, _⟩ | ⟨rfl, _, rfl⟩)
  · cases h
  · clear HI
    go_wp2_with fail
    exact bodyPost_ret (results_tmp rfl _ _ _) rfl ⟨rfl, rfl⟩

/-- The world behind shimStructs' three blocks. -/
def W8 (w : World) : World :=
  ((w.alloc (Obj.map #[] 0)).alloc (Obj.cells #[Value.map (some w.heap.size)] 67)).alloc
    (Obj.cells #[Value.func (Fn.func 13) #[] #[Value.pointer (some { block := w.heap.size + 1, off := 0 }), Value.pointer (some { block := w.heap.size + 1 + 1, off := 0 })]] 82)

theorem W8_below (w : World) : Below w.heap.size w (W8 w) :=
  (((Below.refl _ _).alloc (Nat.le_refl _) _).alloc (by simp) _).alloc (by simp; omega) _

theorem W8_start (w : World) (R : Nat) : NameSt w.heap.size R 0 (W8 w) := by
  refine ⟨by simp [W8], ⟨#[], 0, ?_, rfl⟩, ?_, ?_⟩
  · exact ((Below.heap_alloc _ _ _ (by simp; try omega)).trans (Below.heap_alloc _ _ _ (by simp; try omega))).trans (heap_push _ _ (by simp))
  · exact (Below.heap_alloc _ _ _ (by simp; try omega)).trans (heap_push _ _ (by simp))
  · exact heap_push _ _ (by simp)

set_option maxHeartbeats 1000000 in
set_option maxRecDepth 100000 in
theorem shim_any {w : World} {N R bf bg bp bs : Nat} {S : Sp} {fb : Nat → Nat → Nat} {fv : Nat → Value} {sv : Value} (hO : S.Ok) (hG : Gr w N R S fb fv) (hN : N ≤ w.heap.size) (hT : Top w N bf bg bp bs R S.n sv) :
    Calls Yba.prog 8 #[ptr bg] w fun e w' => ∃ v, e = .returned v ∧ w'.ownsRow w.heap.size 27 1 v S.n (ptrsTo R S.n) ∧ Below w.heap.size w w' := by
  have hmm := @run_makeMap Yba.prog
  have hmf : ∀ (fn : Fn) (first cap : Array Value) (w : World), (Instr.makeFunc fn first cap).run Yba.prog w = .ok (.func fn first cap) w := fun _ _ _ _ => rfl
  have hsf : ∀ (a : Addr) (fn : Fn) (first cap : Array Value) (m : Mode) (w : World), (store a (.func fn first cap) m).run Yba.prog w = stored Yba.prog w a (.func fn first cap) m := fun a fn first cap m w => run_store Yba.prog w a _ m rfl
  have hB0 := W8_below w
  have hT0 := hT.below (hB0.mono hN)
  have c1 := hT0.g1
  have c2 := hT0.f12
  obtain ⟨ao, cap, rfl, _⟩ := hT.row
  unfold W8 at c1 c2
  unfold ptr at c1
  have h256 := hO.n256
  have HT := (show Hid _ from hT)
  have HG := (show Hid _ from hG)
  have HB0 := (show Hid _ from hB0)
  clear hT hG hB0 hT0
  unfold ptr
  go_enter Yba.func8, Yba.ntmps8
  go_wp2_with fail
  go_loopg [21] S.n (fun g v wr => ∃ k : Nat, k ≤ S.n ∧ v = .int .i64 k ∧ g = S.n - k ∧ NameSt w.heap.size R k wr ∧ Below w.heap.size w wr)
  case atStart => exact ⟨0, by omega, rfl, rfl, W8_start w R, HB0.out⟩
  case round =>
    clear c1 c2
    obtain ⟨k, hk, rfl, hg1, hA, hB⟩ := hrel
    have hT := HT.out.below (hB.mono hN)
    have hG := HG.out.below (hB.mono hN)
    by_cases hkl : k < S.n
    · obtain ⟨ao1, cap1, heq, hrow⟩ := hT.row
      cases heq
      rcases hrow with h0 | ⟨g, rfl, hgN, hcs⟩
      · omega
      · have hc := hcs k hkl
        have ca := cellAt hA.a 0
        simp [ptr] at ca
        have hltI : (k : Int) < S.n := by omega
        have HA := (show Hid _ from hA)
        have HB := (show Hid _ from hB)
        have HG1 := (show Hid _ from hG)
        clear hA hB hG hT hcs
        go_wp2_with fail
        refine (name_new hO HG1.out hN hkl HA.out).mono ?_
        rintro e w2 ⟨rfl, hA2, hB2⟩
        have HA2 := (show Hid _ from hA2)
        have HB2 := (show Hid _ from HB.out.trans hB2)
        clear hA2 hB2 HA HB HG1 ca
        go_wp2_with fail
        go_roundg (S.n - (k + 1))
        case measure => omega
        case rel => exact ⟨k + 1, by omega, by simp, rfl, HA2.out, HB2.out⟩
    · rcases (show k = S.n by omega) with rfl
      have hge : ¬ ((S.n : Int) < S.n) := by omega
      have HA := (show Hid _ from hA)
      have HB := (show Hid _ from hB)
      clear hA hB hT hG
      go_wp2_with fail
      refine (funcs_any (Nat.le_trans hN HB.out.size) (HT.out.below (HB.out.mono hN))).mono ?_
      rintro e w2 ⟨rfl, hB2⟩
      have hA2 := HA.out.below (hB2.mono HA.out.size)
      have hB2' := HB.out.trans (hB2.mono HB.out.size)
      have HA2 := (show Hid _ from hA2)
      have HB2 := (show Hid _ from hB2')
      clear hA2 hB2 hB2' HA HB
      go_wp2_with fail
      go_loopg [32] 0 (fun g v wr => g = 0 ∧ v = .int .i64 0 ∧ wr = w2)
      case atStart => exact ⟨rfl, rfl, rfl⟩
      case round =>
        obtain ⟨_, rfl, rfl⟩ := hrel
        have hT2 := HT.out.below (HB2.out.mono hN)
        have c1 := hT2.g2
        unfold ptr at c1
        clear hT2
        go_wp2_with fail
        have hTr := HT.out.below (HB2.out.mono hN)
        have hGr := HG.out.below (HB2.out.mono hN)
        refine (structs_any hO hGr (Nat.le_trans hN HB2.out.size) hTr).mono ?_
        rintro e w3 ⟨v, rfl, hown, hB3⟩
        clear c1 hTr hGr
        have hB3' := HB2.out.trans (hB3.mono HB2.out.size)
        have hG3 := HG.out.below (hB3'.mono hN)
        have hA3 := HA2.out.below (hB3.mono HA2.out.size)
        obtain ⟨ao3, cap3, rfl, hrow3⟩ := own_row hown
        have hdel := delete_none (cap := cap3) (c := 18) (x := ptr (w.heap.size + 1)) (p := fun i => R + i) (goes_of Yba.func18 (by kernel_rfl) rfl) (by omega : S.n ≤ 1024) (fun k hk => by
            obtain ⟨g, h1, _, _, h2⟩ := hrow3 k hk
            exact ⟨g, h1, h2⟩)
          (fun k hk => not_named hG3 hk hA3.s hA3.m (hG3.cellsTo (Nat.le_refl _)) (mem_adsTo.2 hk))
        have HD := (show Hid _ from hdel)
        have HO := (show Hid _ from own_mono hown HB2.out.size)
        have HB3 := (show Hid _ from hB3')
        clear hdel hown hB3 hB3' hG3 hA3 hrow3 HA2 HB2
        go_wp2_with fail
        refine Calls.mono HD.out ?_
        rintro e w4 ⟨rfl, rfl⟩
        clear HD
        go_wp2_with fail
        exact bodyPost_ret (results_tmp rfl _ _ _) rfl ⟨.slice ao3 S.n cap3, rfl, HO.out, HB3.out⟩
end Go.Proofs.Ybulkawcu
