/-
  THE WALKS of goPackage.structs (17), classParts (20), funcs (15), IndexFunc and DeleteFunc on structs (12, 16), shimStructs (8).
-/
import Derived.Test.YbulkawcuAdd
import Derived.Laws.AppendOwnNone
namespace Go.Proofs.Ybulkawcu
open Go.RowKit

/-- The file, its generator, its package, and the slice of the one generator. -/
structure Top (W : World) (N bf bg bp bs R n : Nat) (sv : Value) : Prop where
  bf_lt : bf < N
  bg_lt : bg < N
  bp_lt : bp < N
  bs_lt : bs < N
  f8 : W.cell? ⟨bf, 8, none⟩ = some (.slice none 0 0)
  f9 : W.cell? ⟨bf, 9, none⟩ = some (.slice none 0 0)
  f10 : W.cell? ⟨bf, 10, none⟩ = some (.slice none 0 0)
  f12 : W.cell? ⟨bf, 12, none⟩ = some sv
  g1 : W.cell? ⟨bg, 1, none⟩ = some (ptr bf)
  g2 : W.cell? ⟨bg, 2, none⟩ = some (ptr bp)
  p1 : W.cell? ⟨bp, 1, none⟩ = some (.slice (some ⟨bs, 0, none⟩) 1 1)
  s0 : W.cell? ⟨bs, 0, none⟩ = some (ptr bg)
  row : RowAt W N sv n (fun i => R + i)

theorem Top.below {W W' : World} {N bf bg bp bs R n : Nat} {sv : Value} (h : Top W N bf bg bp bs R n sv) (hB : Below N W W') : Top W' N bf bg bp bs R n sv :=
  have c : ∀ {b o : Nat} {v : Value}, b < N → W.cell? ⟨b, o, none⟩ = some v → W'.cell? ⟨b, o, none⟩ = some v := fun {b o _} hb hc => (hB.cell (p := ⟨b, o, none⟩) hb).trans hc
  ⟨h.bf_lt, h.bg_lt, h.bp_lt, h.bs_lt, c h.bf_lt h.f8, c h.bf_lt h.f9, c h.bf_lt h.f10, c h.bf_lt h.f12, c h.bg_lt h.g1, c h.bg_lt h.g2, c h.bp_lt h.p1, c h.bs_lt h.s0, h.row.below hB⟩

theorem own_mono {w : World} {base base' e n : Nat} {v : Value} {xs : List Value} (h : w.ownsRow base e 1 v n xs) (hb : base' ≤ base) : w.ownsRow base' e 1 v n xs := by
  obtain ⟨h1, h2⟩ := h
  refine ⟨h1, orRight h2 ?_⟩
  rintro ⟨g, cap, cur, rfl, h3, h4⟩
  exact ⟨g, cap, cur, rfl, by omega, h4⟩

/-- The world behind structs' four variables. -/
def W17 (w : World) : World :=
  (((w.alloc (Obj.cells #[Value.slice none 0 0] 26)).alloc (Obj.map #[] 0)).alloc (Obj.cells #[Value.map (some (w.heap.size + 1))] 67)).alloc
    (Obj.cells #[Value.func (Fn.func 21) #[] #[Value.pointer (some { block := w.heap.size + 1 + 1, off := 0 }), Value.pointer (some { block := w.heap.size + 1 + 1 + 1, off := 0 }), Value.pointer (some { block := w.heap.size, off := 0 })]] 82)

theorem W17_below (w : World) : Below w.heap.size w (W17 w) :=
  ((((Below.refl _ _).alloc (Nat.le_refl _) _).alloc (by simp) _).alloc (by simp; omega) _).alloc (by simp; omega) _

theorem heap_push (w : World) (o : Obj) {k : Nat} (h : k = w.heap.size) : (w.alloc o).heap[k]? = some o := by
  subst h
  show (w.heap.push o)[w.heap.size]? = _
  simp

theorem W17_start (w : World) (R : Nat) : AddSt w.heap.size R 0 (W17 w) := by
  refine ⟨by simp [W17], ⟨.slice none 0 0, ?_, World.ownsRow_nil _ _ _ _⟩, ⟨#[], 0, ?_, rfl⟩, ?_, ?_⟩
  · exact ((Below.heap_alloc _ _ _ (by simp; try omega)).trans ((Below.heap_alloc _ _ _ (by simp; try omega)).trans (Below.heap_alloc _ _ _ (by simp; try omega)))).trans (heap_push _ _ rfl)
  · exact ((Below.heap_alloc _ _ _ (by simp; try omega)).trans (Below.heap_alloc _ _ _ (by simp; try omega))).trans (heap_push _ _ (by simp))
  · exact (Below.heap_alloc _ _ _ (by simp; try omega)).trans (heap_push _ _ (by simp))
  · exact heap_push _ _ (by simp)

set_option maxHeartbeats 1000000 in
set_option maxRecDepth 100000 in
theorem structs_any {w : World} {N R bf bg bp bs : Nat} {S : Sp} {fb : Nat → Nat → Nat} {fv : Nat → Value} {sv : Value} (hO : S.Ok) (hG : Gr w N R S fb fv) (hN : N ≤ w.heap.size) (hT : Top w N bf bg bp bs R S.n sv) :
    Calls Yba.prog 17 #[ptr bp] w fun e w' => ∃ v, e = .returned v ∧ w'.ownsRow w.heap.size 27 1 v S.n (ptrsTo R S.n) ∧ Below w.heap.size w w' := by
  have hmm := @run_makeMap Yba.prog
  have hmf : ∀ (fn : Fn) (first cap : Array Value) (w : World), (Instr.makeFunc fn first cap).run Yba.prog w = .ok (.func fn first cap) w := fun _ _ _ _ => rfl
  have hsf : ∀ (a : Addr) (fn : Fn) (first cap : Array Value) (m : Mode) (w : World), (store a (.func fn first cap) m).run Yba.prog w = stored Yba.prog w a (.func fn first cap) m := fun a fn first cap m w => run_store Yba.prog w a _ m rfl
  have hB0 := W17_below w
  have hp1 := (hT.below (hB0.mono hN)).p1
  unfold W17 at hp1
  have h256 := hO.n256
  have HT := (show Hid _ from hT)
  have HG := (show Hid _ from hG)
  have HB0 := (show Hid _ from hB0)
  clear hT hG hB0
  unfold ptr
  go_enter Yba.func17, Yba.ntmps17
  go_wp2_with fail
  go_loopg [17] 1 (fun g v wr => ∃ j : Nat, j ≤ 1 ∧ v = .int .i64 j ∧ g = 1 - j ∧ AddSt w.heap.size R (if j = 0 then 0 else S.n) wr ∧ Below w.heap.size w wr)
  case atStart => exact ⟨0, by omega, rfl, rfl, W17_start w R, HB0.out⟩
  case round =>
    obtain ⟨j, hj, rfl, hg, hA, hB⟩ := hrel
    clear hp1
    by_cases hlt : j < 1
    · rcases (show j = 0 by omega) with rfl
      simp only [if_true] at hA
      have hT := HT.out.below (hB.mono hN)
      have c1 := hT.s0
      have c2 := hT.g1
      have c3 := hT.f12
      obtain ⟨ao, cap, rfl, hrow⟩ := hT.row
      unfold ptr at c1 c2
      have HA := (show Hid _ from hA)
      have HB := (show Hid _ from hB)
      have HR := (show Hid _ from hrow)
      clear hA hB hT hrow
      go_wp2_with fail
      go_loopg [29] S.n (fun g v wr => ∃ k : Nat, k ≤ S.n ∧ v = .int .i64 k ∧ g = S.n - k ∧ AddSt w.heap.size R k wr ∧ Below w.heap.size w wr)
      case atStart => exact ⟨0, by omega, rfl, rfl, HA.out, HB.out⟩
      case round =>
        rename_i gk1 wr1 _ _ _ _ _ _ _ _ _ _ _ _
        clear c1 c2 c3 HA HB
        obtain ⟨k, hk, rfl, hg1, hA, hB⟩ := hrel
        by_cases hkl : k < S.n
        · have hT := HT.out.below (hB.mono hN)
          obtain ⟨ao1, cap1, heq, hrow⟩ := hT.row
          cases heq
          rcases hrow with h0 | ⟨g, rfl, hgN, hcs⟩
          · omega
          · have hc := hcs k hkl
            have hG := HG.out.below (hB.mono hN)
            have ca := cellAt hA.a 0
            simp [ptr] at ca
            have hltI : (k : Int) < S.n := by omega
            have HA := (show Hid _ from hA)
            have HB := (show Hid _ from hB)
            have HG1 := (show Hid _ from hG)
            clear hA hB hG hT hcs HR
            go_wp2_with fail
            refine (add_new hO HG1.out hN hkl HA.out).mono ?_
            rintro e w2 ⟨rfl, hA2, hB2⟩
            have HA2 := (show Hid _ from hA2)
            have HB2 := (show Hid _ from HB.out.trans hB2)
            clear hA2 hB2 HA HB HG1 ca
            go_wp2_with fail
            go_roundg (S.n - (k + 1))
            case measure => omega
            case rel => exact ⟨k + 1, by omega, by simp, rfl, HA2.out, HB2.out⟩
        · rcases (show k = S.n by omega) with rfl
          have HA := (show Hid _ from hA)
          have HB := (show Hid _ from hB)
          clear hA hB
          have hge : ¬ ((S.n : Int) < S.n) := by omega
          go_wp2_with fail
          go_roundg 0
          case measure => omega
          case rel => exact ⟨1, by omega, by simp, rfl, HA.out, HB.out⟩
    · rcases (show j = 1 by omega) with rfl
      simp only [Nat.one_ne_zero, if_false] at hA
      obtain ⟨v, hl, hown⟩ := hA.l
      have cl := cellAt hl 0
      simp at cl
      have hfin := (show Hid _ from own_mono hown (Nat.le_add_right w.heap.size 4))
      have HB := (show Hid _ from hB)
      clear hA hB hl hown
      go_wp2_with fail
      exact bodyPost_ret (results_tmp rfl _ _ _) rfl ⟨v, rfl, hfin.out, HB.out⟩
end Go.Proofs.Ybulkawcu
