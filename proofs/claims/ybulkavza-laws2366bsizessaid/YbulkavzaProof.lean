/-
  'Rows.LawS2366BSizesSaid': THE ROW, out of the walks.
-/
import Derived.Test.YbulkavzaLaw
import Derived.Test.YbulkavzaOpen
import Derived.Test.YbulkavzaEarly
import Derived.WalkKit
import Derived.ProofKit
import Derived.OpenShut
import Derived.ShutString
import Derived.ChangeOld
import Derived.Below
namespace Go.Proofs.Ybulkavza.lawS2366BSizes
open Go.ChangeShapes Go.WideShapes Go.ChangeAt Go.RowKit
open Go.ChangeMaps (open_string shut_string)

theorem own : ownKnob Yba.prog.godebug = none := by kernel_rfl
theorem laidOut : laidOutB Yba.prog = true := by kernel_rfl

theorem walk {H : Type} {enc : TypeId × Value → H} (a0 a1 : Option Addr) (len0 cap0 len1 cap1 : Nat) (a2 : Int) (w : World) {f0 f1 : Nat} {x0 x1 : DataW H × List MemPlace}
    (h0 : DataW.trod enc Yba.prog w 0 (fun _ => true) true f0 22 [.slice a0 len0 cap0] = some x0) (h1 : DataW.trod enc Yba.prog w 0 (fun _ => true) true f1 23 [.slice a1 len1 cap1] = some x1) (w2 : (Lit.int .u8 a2).wf = true) :
    Calls Yba.prog 3 #[.slice a0 len0 cap0, .slice a1 len1 cap1, .int .u8 a2] w fun e w' => e = .returned (.bool true) ∧ Below w.heap.size w w' := by
  by_cases he : len0 = 0 ∨ 1024 < len0 ∨ 1024 < len1
  · exact law_early a0 a1 len0 cap0 len1 cap1 a2 w he
  · obtain ⟨nb, noff, inp, rfl, hin⟩ := open_nodes h0 (by omega)
    have b2 := bounds_u8 w2
    obtain ⟨s, rfl⟩ : ∃ s : Nat, a2 = s := ⟨a2.toNat, (Int.toNat_of_nonneg b2.1).symm⟩
    by_cases hn : 0 < len1
    · obtain ⟨fb, foff, fr, rfl, hfr⟩ := open_frames h1 hn
      exact law_any nb noff len0 cap0 len1 cap1 fb foff (some ⟨fb, foff, none⟩) s w (by omega) (by omega) (by omega) inp hin (fun k => (fr k).1) (fun k => (fr k).2) (fun _ => rfl) (fun k hk => ⟨(hfr k hk).1, (hfr k hk).2.1⟩) (fun k hk => (hfr k hk).2.2) (by omega)
    · exact law_any nb noff len0 cap0 len1 cap1 0 0 a1 s w (by omega) (by omega) (by omega) inp hin (fun _ => 0) (fun _ => false) (fun h => absurd h hn) (fun k hk => by omega) (fun k hk => by omega) (by omega)

set_option maxRecDepth 100000 in
theorem lifted (os : Os) (started : os.Started) (H : Type) (enc : TypeId × Value → H) :
    ReturnsInHanded {} Yba.checked os 3 .any (Rows.lawS2366BSizesSpec.pre6 enc Yba.prog Yba.f3 Rows.lawS2366BSizesRow.domain false) (Rows.lawS2366BSizesSpec.post enc Yba.prog Yba.f3 false true false false) := by
  refine returnsInHanded_of_change (C := Yba.checked) own started (by kernel_rfl) Yba.func3
    (ChangeSpec.witness6 (enc := enc) (C := Yba.checked) false ⟨#[], #[.slice none 0 0, .slice none 0 0, .int .u8 0], []⟩ 8 (by kernel_rfl) (by kernel_rfl) (by kernel_rfl) (by kernel_rfl)) ?_
  intro W base args ds gs before hval0 hW hcnd _
  have hval : ∀ (j : Nat) t v, Yba.f3.params[j]? = some t → args[j]? = some v → Value.okWide Yba.prog W .any base t v := hval0
  have hW' := hW
  obtain ⟨p, q, hA0, hV, rfl, hfz, hnd⟩ := hW
  have hA : DataW.TrodAll enc Yba.prog W 0 (fun _ => true) true Yba.f3.params.toList args.toList ds p := hA0
  rw [Yba.params3] at hA hval
  obtain ⟨v0, vs0, d0, ds0, p0, q0, hargs, rfl, rfl, h0, r0⟩ := trodAll_cons hA
  obtain ⟨v1, vs1, d1, ds1, p1, q1, rfl, rfl, rfl, h1, r1⟩ := trodAll_cons r0
  obtain ⟨v2, vs2, d2, ds2, p2, q2, rfl, rfl, rfl, h2, r2⟩ := trodAll_cons r1
  obtain ⟨rfl, rfl, rfl⟩ := trodAll_nil r2
  obtain rfl : args = #[v0, v1, v2] := by cases args; simp_all
  obtain ⟨rfl, rfl⟩ := trodVars_none hV
  obtain ⟨a0, len0, cap0, rfl⟩ := okWide_slice Yba.underlying22 (hval 0 22 v0 rfl rfl)
  obtain ⟨a1, len1, cap1, rfl⟩ := okWide_slice Yba.underlying23 (hval 1 23 v1 rfl rfl)
  have k0 := h0
  have k1 := h1
  have lt0 : ∀ x ∈ p0, x.block < W.heap.size := by obtain ⟨m, hm⟩ := k0; exact DataW.trod_lt m _ _ _ hm
  have lt1 : ∀ x ∈ p1, x.block < W.heap.size := by obtain ⟨m, hm⟩ := k1; exact DataW.trod_lt m _ _ _ hm
  obtain ⟨a2, rfl, rfl, rfl, w2⟩ := open_int Yba.underlying5 (hval 2 5 v2 rfl rfl) h2
  obtain ⟨f0, g0⟩ := h0
  obtain ⟨f1, g1⟩ := h1
  clear hA0 hval0
  refine (walk a0 a1 len0 cap0 len1 cap1 a2 W g0 g1 w2).mono fun e W' ⟨he, bel⟩ => ?_
  subst he
  exact ⟨_, rfl, _, _, _, [], _, [], hW', trodAll_mk1 (shut_bool Yba.underlying4 _), (trodAll_cons_mk (Below.trod laidOut (by kernel_rfl) (of_decide_eq_true (by kernel_rfl)) k0 bel lt0) (trodAll_cons_mk (Below.trod laidOut (by kernel_rfl) (of_decide_eq_true (by kernel_rfl)) k1 bel lt1) (trodAll_cons_mk (shut_int Yba.underlying5 w2) trodAll_mk0))), rfl, bel.frame _, fun h => by cases h⟩

theorem over : Rows.lawS2366BSizesRow.holds Yba.pinned (OpenSpec.ofChange Rows.lawS2366BSizesSpec) :=
  OpenClaim.holds_of_wide 3 Yba.f3 rfl rfl rfl rfl rfl rfl rfl ⟨rfl, rfl, rfl, rfl, rfl⟩ rfl rfl rfl rfl rfl (by kernel_rfl) Yba.func3 (by kernel_rfl)
    (of_decide_eq_true (by kernel_rfl)) (by unfold Func.isWrapper; first | (rw [if_pos (by decide +kernel)]; kernel_rfl) | (rw [if_neg (by decide +kernel)]; exact ⟨rfl, rfl⟩))
    (fun os started H enc _ => lifted os started H enc)

/-- THE STATEMENT -/
theorem proved : Rows.LawS2366BSizesSaid :=
  over
#print axioms proved
end Go.Proofs.Ybulkavza.lawS2366BSizes
