/-
  THE LAW's EARLY RETURNS: too few or too many.
-/
import Derived.Test.YbulkavzaHdr
namespace Go.Proofs.Ybulkavza
open Go.RowKit

set_option maxRecDepth 100000 in
set_option maxHeartbeats 1000000 in
theorem law_early (a0 a1 : Option Addr) (m mc nf fc : Nat) (sel : Int) (w : World) (h : m = 0 ∨ 1024 < m ∨ 1024 < nf) :
    Calls Yba.prog 3 #[.slice a0 m mc, .slice a1 nf fc, .int .u8 sel] w fun e w' => e = .returned (.bool true) ∧ Below w.heap.size w w' := by
  by_cases h0 : m = 0
  · subst h0
    go_enter Yba.func3, Yba.ntmps3
    go_wp2
    go_ret
    exact ⟨rfl, Below.refl _ _⟩
  · have t0 : ((m : Int) == 0) = false := by simp; omega
    by_cases h1 : 1024 < m
    · have t1 : (1024 : Int) < m := by omega
      go_enter Yba.func3, Yba.ntmps3
      go_wp2
      go_ret
      exact ⟨rfl, Below.refl _ _⟩
    · have t1 : ¬ (1024 : Int) < m := by omega
      have t2 : (1024 : Int) < nf := by omega
      go_enter Yba.func3, Yba.ntmps3
      go_wp2
      go_ret
      exact ⟨rfl, Below.refl _ _⟩

end Go.Proofs.Ybulkavza
