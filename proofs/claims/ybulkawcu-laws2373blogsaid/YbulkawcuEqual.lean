/-
  THE WALK of slices.Equal (6) on two rows of the same numbers.
-/
import Derived.Test.YbulkawcuCopies
namespace Go.Proofs.Ybulkawcu
open Go.RowKit

/-- v is a slice of the numbers zs. -/
def IntRow (w : World) (v : Value) (zs : List Int) : Prop :=
  ∃ ao cap, v = .slice ao zs.length cap ∧ ∀ k, k < zs.length → ∃ g, ao = some ⟨g, 0, none⟩ ∧ g < w.heap.size ∧ w.cell? ⟨g, k, none⟩ = some (.int .i64 (zs.getD k 0))

theorem own_ints {w : World} {base : Nat} {v : Value} {zs : List Int} (h : w.ownsRow base 3 1 v zs.length (zs.map (Value.int .i64))) : IntRow w v zs := by
  have hl := h.lt
  have hc := fun g => @World.ownsRow.cells _ _ _ _ _ _ _ h g
  rcases h.2 with ⟨rfl, h0⟩ | ⟨g, cap, cur, rfl, _⟩
  · exact ⟨none, 0, by rw [h0], fun k hk => by omega⟩
  · refine ⟨_, _, rfl, fun k hk => ⟨g, rfl, (hl g rfl).2, ?_⟩⟩
    have := hc g rfl k (.int .i64 (zs.getD k 0)) (by simp [List.getD, hk])
    have e : (⟨g, 0, none⟩ : Addr).add k = ⟨g, k, none⟩ := by
      simp only [Addr.add]
      split
      · simp_all
      · simp
    rw [e] at this
    exact this

set_option maxHeartbeats 1000000 in
set_option maxRecDepth 100000 in
theorem equal_any {w : World} {v v' : Value} {zs : List Int} (h1 : IntRow w v zs) (h2 : IntRow w v' zs) (hz : zs.length ≤ 1048576) :
    Calls Yba.prog 6 #[v, v'] w fun e w' => e = .returned (.bool true) ∧ Below w.heap.size w w' := by
  obtain ⟨ao, cap, rfl, hr1⟩ := h1
  obtain ⟨ao', cap', rfl, hr2⟩ := h2
  generalize hn : zs.length = n at *
  have H1 := (show Hid _ from hr1)
  have H2 := (show Hid _ from hr2)
  clear hr1 hr2 hn
  go_enter Yba.func6, Yba.ntmps6
  go_wp2_with fail
  go_loopg [13] n (fun g v wr => ∃ k : Nat, k ≤ n ∧ v = .int .i64 k ∧ g = n - k ∧ Below w.heap.size w wr)
  case atStart => exact ⟨0, by omega, rfl, rfl, Below.refl _ _⟩
  case round =>
    obtain ⟨k, hk, rfl, hg, hB⟩ := hrel
    by_cases hlt : k < n
    · obtain ⟨g, rfl, hg1, hc1⟩ := H1.out k hlt
      obtain ⟨g', rfl, hg2, hc2⟩ := H2.out k hlt
      have c1 := (hB.cell (p := ⟨g, k, none⟩) hg1).trans hc1
      have c2 := (hB.cell (p := ⟨g', k, none⟩) hg2).trans hc2
      have hltI : (k : Int) < n := by omega
      have HB := (show Hid _ from hB)
      clear hB hc1 hc2 H1 H2
      generalize zs.getD k 0 = z at *
      go_wp2_with fail
      go_quiet (fail)
      go_wp2_with fail
      go_roundg (n - (k + 1))
      case measure => omega
      case rel => exact ⟨k + 1, by omega, by simp, rfl, HB.out.trans (below_drewN _ _ _)⟩
    · rcases (show k = n by omega) with rfl
      have hge : ¬ ((k : Int) < k) := by omega
      have HB := (show Hid _ from hB)
      clear hB
      go_wp2_with fail
      exact bodyPost_ret (results_tmp rfl _ _ _) rfl ⟨rfl, HB.out⟩

end Go.Proofs.Ybulkawcu
