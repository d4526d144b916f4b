/-
  THE WALKS of IndexFunc on structs and on fields (12, 19), for whatever closure of one captured variable.
-/
import Derived.Test.YbulkawcuFuncs
namespace Go.Proofs.Ybulkawcu
open Go.RowKit

/-- A call of function f by its value goes into its body. -/
def Goes (f : FuncId) : Prop := ∀ (args : Array Value) (w : World), (callFunc f args).run Yba.prog w = .ok (.enter f args) w

theorem goes_of {f : FuncId} {fn : Func} {c : Code} (hf : Yba.prog.funcs[f]? = some fn) (hname : (fn.name == "runtime.NumGoroutine") = false) (hb : fn.body = some c) : Goes f := by
  intro args w
  have h1 : fn.name ≠ "runtime.NumGoroutine" := by simpa using hname
  simp [callFunc, hf, h1, hb]

/-- How IndexFunc ends. -/
def Found (n : Nat) (hit : Nat → Bool) (I : Nat → World → Prop) (e : Ending) (w' : World) : Prop :=
  (∃ k : Nat, k < n ∧ e = .returned (.int .i64 k) ∧ hit k = true ∧ (∀ i, i < k → hit i = false) ∧ I (k + 1) w') ∨ (e = .returned (.int .i64 (-1)) ∧ (∀ i, i < n → hit i = false) ∧ I n w')

set_option maxHeartbeats 1000000 in
set_option maxRecDepth 100000 in
theorem index12 {w : World} {n c cap : Nat} {ao : Option Addr} {x : Value} {p : Nat → Nat} (hgo : Goes c) (hn : n ≤ 1024) (hit : Nat → Bool) (I : Nat → World → Prop) (h0 : I 0 w)
    (hrow : ∀ k wr, k < n → I k wr → ∃ g, ao = some ⟨g, 0, none⟩ ∧ wr.cell? ⟨g, k, none⟩ = some (ptr (p k)))
    (hstep : ∀ k wr, k < n → I k wr → Calls Yba.prog c #[ptr (p k), x] wr fun e w' => e = .returned (.bool (hit k)) ∧ I (k + 1) w') :
    Calls Yba.prog 12 #[.slice ao n cap, .func (.func c) #[] #[x]] w (Found n hit I) := by
  unfold ptr Goes at *
  go_enter Yba.func12, Yba.ntmps12
  go_wp2_with fail
  go_loopg [8] n (fun g v wr => ∃ k : Nat, k ≤ n ∧ v = .int .i64 k ∧ g = n - k ∧ I k wr ∧ ∀ i, i < k → hit i = false)
  case atStart => exact ⟨0, by omega, rfl, rfl, h0, fun i hi => by omega⟩
  case round =>
    obtain ⟨k, hk, rfl, hg, hI, hno⟩ := hrel
    by_cases hlt : k < n
    · obtain ⟨g, rfl, hc⟩ := hrow k wr hlt hI
      have hs := hstep k wr hlt hI
      have hltI : (k : Int) < n := by omega
      have HI := (show Hid _ from hI)
      have HN := (show Hid _ from hno)
      have HS := (show Hid _ from hs)
      clear hI hno hs hrow hstep h0
      go_wp2_with fail
      refine Calls.mono HS.out ?_
      rintro e w2 ⟨rfl, hI2⟩
      have HI2 := (show Hid _ from hI2)
      clear hI2 HS HI hc
      rcases hh : hit k with _ | _
      · go_wp2_with fail
        go_roundg (n - (k + 1))
        case measure => omega
        case rel => exact ⟨k + 1, by omega, by simp, rfl, HI2.out, fun i hi => by
          rcases Nat.lt_or_ge i k with h | h
          · exact HN.out i h
          · rcases (show i = k by omega) with rfl
            exact hh⟩
      · go_wp2_with fail
        exact bodyPost_ret (results_tmp rfl _ _ _) rfl (.inl ⟨k, hlt, rfl, hh, HN.out, HI2.out⟩)
    · rcases (show k = n by omega) with rfl
      have hge : ¬ ((k : Int) < k) := by omega
      have HI := (show Hid _ from hI)
      have HN := (show Hid _ from hno)
      clear hI hno hrow hstep h0
      go_wp2_with fail
      exact bodyPost_ret (results_tmp rfl _ _ _) rfl (.inr ⟨rfl, HN.out, HI.out⟩)

set_option maxHeartbeats 1000000 in
set_option maxRecDepth 100000 in
theorem index19 {w : World} {n c cap : Nat} {ao : Option Addr} {x : Value} {p : Nat → Nat} (hgo : Goes c) (hn : n ≤ 1024) (hit : Nat → Bool) (I : Nat → World → Prop) (h0 : I 0 w)
    (hrow : ∀ k wr, k < n → I k wr → ∃ g, ao = some ⟨g, 0, none⟩ ∧ wr.cell? ⟨g, k, none⟩ = some (ptr (p k)))
    (hstep : ∀ k wr, k < n → I k wr → Calls Yba.prog c #[ptr (p k), x] wr fun e w' => e = .returned (.bool (hit k)) ∧ I (k + 1) w') :
    Calls Yba.prog 19 #[.slice ao n cap, .func (.func c) #[] #[x]] w (Found n hit I) := by
  unfold ptr Goes at *
  go_enter Yba.func19, Yba.ntmps19
  go_wp2_with fail
  go_loopg [8] n (fun g v wr => ∃ k : Nat, k ≤ n ∧ v = .int .i64 k ∧ g = n - k ∧ I k wr ∧ ∀ i, i < k → hit i = false)
  case atStart => exact ⟨0, by omega, rfl, rfl, h0, fun i hi => by omega⟩
  case round =>
    obtain ⟨k, hk, rfl, hg, hI, hno⟩ := hrel
    by_cases hlt : k < n
    · obtain ⟨g, rfl, hc⟩ := hrow k wr hlt hI
      have hs := hstep k wr hlt hI
      have hltI : (k : Int) < n := by omega
      have HI := (show Hid _ from hI)
      have HN := (show Hid _ from hno)
      have HS := (show Hid _ from hs)
      clear hI hno hs hrow hstep h0
      go_wp2_with fail
      refine Calls.mono HS.out ?_
      rintro e w2 ⟨rfl, hI2⟩
      have HI2 := (show Hid _ from hI2)
      clear hI2 HS HI hc
      rcases hh : hit k with _ | _
      · go_wp2_with fail
        go_roundg (n - (k + 1))
        case measure => omega
        case rel => exact ⟨k + 1, by omega, by simp, rfl, HI2.out, fun i hi => by
          rcases Nat.lt_or_ge i k with h | h
          · exact HN.out i h
          · rcases (show i = k by omega) with rfl
            exact hh⟩
      · go_wp2_with fail
        exact bodyPost_ret (results_tmp rfl _ _ _) rfl (.inl ⟨k, hlt, rfl, hh, HN.out, HI2.out⟩)
    · rcases (show k = n by omega) with rfl
      have hge : ¬ ((k : Int) < k) := by omega
      have HI := (show Hid _ from hI)
      have HN := (show Hid _ from hno)
      clear hI hno hrow hstep h0
      go_wp2_with fail
      exact bodyPost_ret (results_tmp rfl _ _ _) rfl (.inr ⟨rfl, HN.out, HI.out⟩)

end Go.Proofs.Ybulkawcu
