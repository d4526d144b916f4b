/-
  THE LAW's OWN WALK (function 3).
-/
import Derived.Test.YbulkawcgDoorNet
namespace Go.Proofs.YbulkawcgDoor
open Go.RowKit

theorem Looks.same {w w' : World} {bm : Nat} (h : Looks w bm) (e : w'.heap[bm]? = w.heap[bm]?) : Looks w' bm := fun k hk w'' e' => h k hk w'' (e'.trans e)

theorem IntAt.drewN {w : World} {b o k : Nat} {neg : Bool} (h : IntAt w b o neg k) (m : Nat) : IntAt (w.drewN m) b o neg k := ⟨h.n, h.a, h.b⟩
theorem RatAt.drewN {w : World} {b k : Nat} {neg : Bool} (h : RatAt w b neg k) (m : Nat) : RatAt (w.drewN m) b neg k := ⟨h.a.drewN m, h.b.drewN m⟩
theorem below_drewN' {B : Nat} {a w : World} (h : Below B a w) (m : Nat) : Below B a (w.drewN m) := ⟨h.os, h.tape, h.output, h.size, h.block⟩

theorem newInt' (n : Int) (w : World) (h1 : -9223372036854775808 ≤ n) (h2 : n ≤ 9223372036854775807) :
    Calls Ybad.prog 7 #[.int .i64 n] w fun e w' => ∃ p, e = .returned (.pointer (some ⟨p, 0, none⟩)) ∧ IntAt w' p 0 (decide (n < 0)) n.natAbs ∧ w.heap.size ≤ p ∧ w.grownBy w' none := by
  refine (newInt n w h1 h2).mono ?_
  rintro e w' ⟨p, ao, l, c, rfl, a, b, c', d, e, f⟩
  exact ⟨p, rfl, ⟨a, ⟨ao, l, c, b, c'⟩, d⟩, e, f⟩

set_option maxHeartbeats 2000000 in
theorem law_any (bm : Nat) (sel : Nat) (s : ByteArray) (n : Int) (w : World) (hg : w.cell? ⟨0, 0, none⟩ = some (.map (some bm))) (hbm : bm < w.heap.size) (hL : Looks w bm) (hsel : sel < 256) (hs : s.size ≤ maxLen)
    (h1 : -9223372036854775808 ≤ n) (h2 : n ≤ 9223372036854775807) :
    Calls Ybad.prog 3 #[.int .u8 sel, .string s, .int .i64 n] w fun e w' => e = .returned (.bool true) ∧ Below w.heap.size w w' := by
  have h0 : 0 < w.heap.size := World.block_lt_of_cell? w _ hg
  have hf0 := fresh_new w
  go_enter Ybad.func3, Ybad.ntmps3
  go_wp2_with fail
  refine (kind_any sel s w hsel hs).mono ?_
  rintro e w' ⟨k, rfl, hk, rfl⟩
  go_wp2_with fail
  refine (newInt' n _ h1 h2).mono ?_
  rintro e w2 ⟨p, rfl, hI, hp, hg2⟩
  have hltp : w'.heap.size < w2.heap.size := by have := hg2.size; simp at this; omega
  have hB2 : Below w'.heap.size w' w2 := ⟨hg2.os, hg2.tape, hg2.output, by have := hg2.size; simp at this; omega, fun i hi => by rw [hg2.block i (by simp; omega) (by simp)]; exact Below.heap_alloc _ _ _ hi⟩
  have hpne : w'.heap.size ≠ p := by simp at hp; omega
  have hf2 : Fresh w2 w'.heap.size := by
    have hc : ∀ j, w2.cell? ⟨w'.heap.size, j, none⟩ = _ := fun j => World.cell?_of_block (hg2.block w'.heap.size (by simp) (by simp))
    exact ⟨(hc _).trans hf0.c0, (hc _).trans hf0.c1, (hc _).trans hf0.c2, (hc _).trans hf0.c3, hf0.b.grown hg2 (by simp)⟩
  clear hf0 hg2
  go_wp2_with fail
  refine (setInt w'.heap.size p (decide (n < 0)) n.natAbs w2 hpne hf2 hI).mono ?_
  rintro e w3 ⟨rfl, hA, hg3⟩
  have hB3 : Below w'.heap.size w' w3 := hB2.trans ⟨hg3.os, hg3.tape, hg3.output, hg3.size, fun i hi => hg3.block i (by omega) (by simp; omega)⟩
  have hlt3 : w'.heap.size < w3.heap.size := hA.a.b.lt
  clear hI hf2 hB2 hg3 hpne hp hltp
  generalize hAm : w'.heap.size = am at *
  go_wp2_with fail
  have hB4 : Below am w' (w3.alloc (.cells #[.string ⟨#[120]⟩, .string k, .pointer (some ⟨am, 0, none⟩), .int .u64 0, .int .i64 0, .pointer none, .int .i64 0, .string ⟨#[]⟩, .bool false, .int .i64 0, .string ⟨#[]⟩] 39)) := hB3.alloc (by omega) _
  have hA4 := hA.alloc (.cells #[.string ⟨#[120]⟩, .string k, .pointer (some ⟨am, 0, none⟩), .int .u64 0, .int .i64 0, .pointer none, .int .i64 0, .string ⟨#[]⟩, .bool false, .int .i64 0, .string ⟨#[]⟩] 39)
  have hlt4 : am < (w3.alloc (.cells #[.string ⟨#[120]⟩, .string k, .pointer (some ⟨am, 0, none⟩), .int .u64 0, .int .i64 0, .pointer none, .int .i64 0, .string ⟨#[]⟩, .bool false, .int .i64 0, .string ⟨#[]⟩] 39)).heap.size := hA4.a.b.lt
  clear hA hB3 hlt3
  generalize w3.alloc (.cells #[.string ⟨#[120]⟩, .string k, .pointer (some ⟨am, 0, none⟩), .int .u64 0, .int .i64 0, .pointer none, .int .i64 0, .string ⟨#[]⟩, .bool false, .int .i64 0, .string ⟨#[]⟩] 39) = w4 at *
  refine (net_any bm am ⟨#[120]⟩ k (decide (n < 0)) n.natAbs w4 (by rw [hB4.cell (p := ⟨0, 0, none⟩) h0]; exact hg) (by omega) (hL.same (hB4.block bm hbm)) hk hA4).mono ?_
  rintro e w5 ⟨r, rfl, hR5, hr, hg5⟩
  have hA5 := hA4.grown hg5 (by simp) (fun _ e => by cases e)
  have hB5 : Below am w' w5 := hB4.trans ⟨hg5.os, hg5.tape, hg5.output, hg5.size, fun i hi => hg5.block i (by omega) (by simp)⟩
  have hra : am < r := by omega
  clear hA4 hB4 hg5 hL hg
  go_wp2_with fail
  refine (newInt' n w5 h1 h2).mono ?_
  rintro e w6 ⟨q, rfl, hQ, hq, hg6⟩
  have hr5 := hR5.a.b.lt
  have hA6 := hA5.grown hg6 (by simp) (fun _ e => by cases e)
  have hR6 := hR5.grown hg6 (by simp) (fun _ e => by cases e)
  have hB6 : Below am w' w6 := hB5.trans ⟨hg6.os, hg6.tape, hg6.output, hg6.size, fun i hi => hg6.block i (by omega) (by simp)⟩
  have hqr : r < q := by omega
  clear hA5 hR5 hB5 hg6 hr hq
  go_wp2_with fail
  refine (liab_any k w6).mono ?_
  rintro e w7 ⟨rfl, hw7⟩
  subst hw7
  -- the two ways meet: want is r's numerator
  generalize hlb : liab k = lb at *
  generalize hsg : (if lb = true then decide (0 < n.natAbs) && !decide (n < 0) else decide (n < 0)) = sg at *
  cases lb
  · simp only [Bool.false_eq_true, if_false] at hsg
    rw [hsg] at hQ
    go_wp2_with fail
    refine (newInt' 1 _ (by omega) (by omega)).mono ?_
    rintro e wa ⟨u, rfl, hU, hu, hga⟩
    simp only [show decide ((1 : Int) < 0) = false from rfl, show Int.natAbs 1 = 1 from rfl] at hU
    have hqx := hQ.b.lt
    have hAa := hA6.grown hga (by simp) (fun _ e => by cases e)
    have hRa := hR6.grown hga (by simp) (fun _ e => by cases e)
    have hQa := hQ.grown hga (by simp) (fun _ e => by cases e)
    have hBa : Below am w' wa := hB6.trans ⟨hga.os, hga.tape, hga.output, hga.size, fun i hi => hga.block i (by have := hA6.a.b.lt; omega) (by simp)⟩
    have hqu : q < u := by omega
    clear hA6 hR6 hQ hB6 hga hu hqx
    go_wp2_with fail
    refine (ratNum r wa).mono ?_
    rintro e wa' ⟨rfl, hwa⟩
    subst hwa
    go_wp2_with fail
    refine (intCmp r 0 q 0 sg n.natAbs _ (by omega) hRa.a hQa).mono ?_
    rintro e wb ⟨rfl, m1, hwb⟩
    have hAb : RatAt wb am (decide (n < 0)) n.natAbs := by rw [hwb]; exact hAa.drewN m1
    have hRb : RatAt wb r sg n.natAbs := by rw [hwb]; exact hRa.drewN m1
    have hUb : IntAt wb u 0 false 1 := by rw [hwb]; exact hU.drewN m1
    have hBb : Below am w' wb := by rw [hwb]; exact below_drewN' hBa m1
    clear hwb hAa hRa hU hBa hQa
    go_wp2_with fail
    refine (ratDenom r wb hRb.b).mono ?_
    rintro e wb' ⟨rfl, hwb⟩
    subst hwb
    go_wp2_with fail
    refine (intCmp r 2 u 0 false 1 _ (by omega) hRb.b hUb).mono ?_
    rintro e wc ⟨rfl, m2, hwc⟩
    have hAc : RatAt wc am (decide (n < 0)) n.natAbs := by rw [hwc]; exact hAb.drewN m2
    have hUc : IntAt wc u 0 false 1 := by rw [hwc]; exact hUb.drewN m2
    have hBc : Below am w' wc := by rw [hwc]; exact below_drewN' hBb m2
    clear hwc hAb hRb hUb hBb
    go_wp2_with fail
    refine (ratNum am wc).mono ?_
    rintro e wc' ⟨rfl, hwc⟩
    subst hwc
    go_wp2_with fail
    refine (newInt' n _ h1 h2).mono ?_
    rintro e wd ⟨v, rfl, hV, hv, hgd⟩
    have hAd := hAc.grown hgd (by simp) (fun _ e => by cases e)
    have hUd := hUc.grown hgd (by simp) (fun _ e => by cases e)
    have hal := hAc.a.b.lt
    have hBd : Below am w' wd := hBc.trans ⟨hgd.os, hgd.tape, hgd.output, hgd.size, fun i hi => hgd.block i (by omega) (by simp)⟩
    have hav : am ≠ v := by omega
    clear hAc hUc hBc hgd hv hal
    go_wp2_with fail
    refine (intCmp am 0 v 0 (decide (n < 0)) n.natAbs wd hav hAd.a hV).mono ?_
    rintro e we ⟨rfl, m3, hwe⟩
    have hAe : RatAt we am (decide (n < 0)) n.natAbs := by rw [hwe]; exact hAd.drewN m3
    have hUe : IntAt we u 0 false 1 := by rw [hwe]; exact hUd.drewN m3
    have hBe : Below am w' we := by rw [hwe]; exact below_drewN' hBd m3
    clear hwe hAd hUd hBd hV
    go_wp2_with fail
    refine (ratDenom am we hAe.b).mono ?_
    rintro e we' ⟨rfl, hwe⟩
    subst hwe
    go_wp2_with fail
    refine (intCmp am 2 u 0 false 1 _ (by omega) hAe.b hUe).mono ?_
    rintro e wf ⟨rfl, m4, hwf⟩
    have hBf : Below am w' wf := by rw [hwf]; exact below_drewN' hBe m4
    clear hwf hAe hUe hBe
    go_wp2
    go_ret
    exact ⟨rfl, by rw [hAm]; exact hBf⟩
  · simp only [if_true] at hsg
    go_wp2_with fail
    refine (intNeg q (decide (n < 0)) n.natAbs _ hQ).mono ?_
    rintro e w8 ⟨rfl, hQ8, hg8⟩
    rw [hsg] at hQ8
    have hA8 := hA6.grown hg8 (by simp; omega) (fun b e => by cases e; exact hQ.b)
    have hR8 := hR6.grown hg8 (by simp; omega) (fun b e => by cases e; exact hQ.b)
    have hB8 : Below am w' w8 := hB6.trans ⟨hg8.os, hg8.tape, hg8.output, hg8.size, fun i hi => hg8.block i (by have := hA6.a.b.lt; omega) (by simp; omega)⟩
    clear hQ hA6 hR6 hB6 hg8
    go_wp2_with fail
    refine (newInt' 1 _ (by omega) (by omega)).mono ?_
    rintro e wa ⟨u, rfl, hU, hu, hga⟩
    simp only [show decide ((1 : Int) < 0) = false from rfl, show Int.natAbs 1 = 1 from rfl] at hU
    have hqx := hQ8.b.lt
    have hAa := hA8.grown hga (by simp) (fun _ e => by cases e)
    have hRa := hR8.grown hga (by simp) (fun _ e => by cases e)
    have hQa := hQ8.grown hga (by simp) (fun _ e => by cases e)
    have hBa : Below am w' wa := hB8.trans ⟨hga.os, hga.tape, hga.output, hga.size, fun i hi => hga.block i (by have := hA8.a.b.lt; omega) (by simp)⟩
    have hqu : q < u := by omega
    clear hA8 hR8 hQ8 hB8 hga hu hqx
    go_wp2_with fail
    refine (ratNum r wa).mono ?_
    rintro e wa' ⟨rfl, hwa⟩
    subst hwa
    go_wp2_with fail
    refine (intCmp r 0 q 0 sg n.natAbs _ (by omega) hRa.a hQa).mono ?_
    rintro e wb ⟨rfl, m1, hwb⟩
    have hAb : RatAt wb am (decide (n < 0)) n.natAbs := by rw [hwb]; exact hAa.drewN m1
    have hRb : RatAt wb r sg n.natAbs := by rw [hwb]; exact hRa.drewN m1
    have hUb : IntAt wb u 0 false 1 := by rw [hwb]; exact hU.drewN m1
    have hBb : Below am w' wb := by rw [hwb]; exact below_drewN' hBa m1
    clear hwb hAa hRa hU hBa hQa
    go_wp2_with fail
    refine (ratDenom r wb hRb.b).mono ?_
    rintro e wb' ⟨rfl, hwb⟩
    subst hwb
    go_wp2_with fail
    refine (intCmp r 2 u 0 false 1 _ (by omega) hRb.b hUb).mono ?_
    rintro e wc ⟨rfl, m2, hwc⟩
    have hAc : RatAt wc am (decide (n < 0)) n.natAbs := by rw [hwc]; exact hAb.drewN m2
    have hUc : IntAt wc u 0 false 1 := by rw [hwc]; exact hUb.drewN m2
    have hBc : Below am w' wc := by rw [hwc]; exact below_drewN' hBb m2
    clear hwc hAb hRb hUb hBb
    go_wp2_with fail
    refine (ratNum am wc).mono ?_
    rintro e wc' ⟨rfl, hwc⟩
    subst hwc
    go_wp2_with fail
    refine (newInt' n _ h1 h2).mono ?_
    rintro e wd ⟨v, rfl, hV, hv, hgd⟩
    have hAd := hAc.grown hgd (by simp) (fun _ e => by cases e)
    have hUd := hUc.grown hgd (by simp) (fun _ e => by cases e)
    have hal := hAc.a.b.lt
    have hBd : Below am w' wd := hBc.trans ⟨hgd.os, hgd.tape, hgd.output, hgd.size, fun i hi => hgd.block i (by omega) (by simp)⟩
    have hav : am ≠ v := by omega
    clear hAc hUc hBc hgd hv hal
    go_wp2_with fail
    refine (intCmp am 0 v 0 (decide (n < 0)) n.natAbs wd hav hAd.a hV).mono ?_
    rintro e we ⟨rfl, m3, hwe⟩
    have hAe : RatAt we am (decide (n < 0)) n.natAbs := by rw [hwe]; exact hAd.drewN m3
    have hUe : IntAt we u 0 false 1 := by rw [hwe]; exact hUd.drewN m3
    have hBe : Below am w' we := by rw [hwe]; exact below_drewN' hBd m3
    clear hwe hAd hUd hBd hV
    go_wp2_with fail
    refine (ratDenom am we hAe.b).mono ?_
    rintro e we' ⟨rfl, hwe⟩
    subst hwe
    go_wp2_with fail
    refine (intCmp am 2 u 0 false 1 _ (by omega) hAe.b hUe).mono ?_
    rintro e wf ⟨rfl, m4, hwf⟩
    have hBf : Below am w' wf := by rw [hwf]; exact below_drewN' hBe m4
    clear hwf hAe hUe hBe
    go_wp2
    go_ret
    exact ⟨rfl, by rw [hAm]; exact hBf⟩
end Go.Proofs.YbulkawcgDoor
