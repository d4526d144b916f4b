/-
  THE WALK of '(*parser).done' (function 5).
-/
import Derived.Test.YbulkavzaState
import Derived.Deep.LoopGhost
namespace Go.Proofs.Ybulkavza
open Go.RowKit Plain

theorem wrap64_lt (x : Int) : wrap64 x < 9223372036854775808 := by unfold wrap64; omega

theorem own_cut {w : World} {base n : Nat} {v : Value} {xs : List Value} (h : w.ownsRow base 5 1 v n xs) :
    (v = .slice none 0 0) ∨ ∃ g cap, v = .slice (some ⟨g, 0, none⟩) n cap ∧ w.ownsRow base 5 1 (.slice (some ⟨g, 0, none⟩) 0 cap) 0 [] := by
  obtain ⟨hl, hr⟩ := h
  rcases hr with ⟨rfl, _⟩ | ⟨g, cap, cur, rfl, h1, h2, h3, h4, h5, h6⟩
  · exact .inl rfl
  · exact .inr ⟨g, cap, rfl, by simp, .inr ⟨g, cap, cur, rfl, h1, h2, Nat.zero_le _, h4, h5, by simp⟩⟩

theorem own_form {w : World} {base n : Nat} {v : Value} {xs : List Value} (h : w.ownsRow base 5 1 v n xs) : ∃ ao cp, v = .slice ao n cp := by
  rcases h.2 with ⟨rfl, rfl⟩ | ⟨g, cap, cur, rfl, _⟩
  · exact ⟨_, _, rfl⟩
  · exact ⟨_, _, rfl⟩

theorem head_form (base lw hw bn off : Nat) (v : Value) (xs : List Value) (d : Nd) (L : Int) (w : World) (hown : w.ownsRow base 5 1 v 0 xs) (hb : base ≤ w.heap.size) (hbn : bn < base)
    (hd : d.Ok) (hL : L < 9223372036854775808) (hhw : hw ≤ base) (hN : NodeAt lw hw w bn off d L) :
    Calls Yba.prog 6 #[v, .pointer (some ⟨bn, off, none⟩)] w fun e w' => ∃ ao cp, e = .returned (.slice ao (d.hdr L) cp) ∧ Rowed base w w' v (.slice ao (d.hdr L) cp) (d.hdr L) := by
  refine (head_any base lw hw bn off v 0 xs d L w hown hb hbn (by omega) hd hL hhw hN).mono ?_
  rintro e w1 ⟨v1, rfl, R⟩
  rw [Nat.zero_add] at R
  obtain ⟨ys, hy⟩ := R.own
  obtain ⟨ao, cp, rfl⟩ := own_form hy
  exact ⟨ao, cp, rfl, R⟩

theorem upd_upd (F : Nat → Int) (k : Nat) (a b : Int) : upd (upd F k a) k b = upd F k b := by
  funext j; simp only [upd]; split <;> rfl
theorem size_1 {d : Nd} {l sz : Int} (hf : d.f = 1) (h : wrap64 ((d.hdr l : Nat) + l) = sz) : sizeOf' d l = wrap64 (sz + 2) := by simp [sizeOf', hf, h]
theorem size_n {d : Nd} {l sz : Int} (hf : d.f ≠ 1) (h : wrap64 ((d.hdr l : Nat) + l) = sz) : sizeOf' d l = sz := by simp [sizeOf', hf, h]
theorem run_0 {m : Nat} {d : Nat → Nd} {fn : Nat → Nat} {ex : Nat → Bool} {cu : Nat} {L S X : Nat → Int} {R : Res} {s2 : Int} (h : run m d fn ex 0 cu L S X = R) (hs : sizeOf' (d cu) (L cu) = s2) :
    R.L = L ∧ R.S = upd S cu s2 ∧ R.X = upd X cu m ∧ R.o = 0 := by
  subst h; subst hs; exact ⟨rfl, rfl, rfl, rfl⟩
theorem run_s {m : Nat} {d : Nat → Nd} {fn : Nat → Nat} {ex : Nat → Bool} {cu o : Nat} {L S X : Nat → Int} {R : Res} {s2 : Int} (h : run m d fn ex (o + 1) cu L S X = R) (hs : sizeOf' (d cu) (L cu) = s2) (he : ex o = false) :
    R.L = upd L (fn o) (wrap64 (L (fn o) + s2)) ∧ R.S = upd S cu s2 ∧ R.X = upd X cu m ∧ R.o = o + 1 := by
  subst h; subst hs; simp [run, he]
theorem run_e {m : Nat} {d : Nat → Nd} {fn : Nat → Nat} {ex : Nat → Bool} {cu o : Nat} {L S X : Nat → Int} {R : Res} {s2 : Int} (h : run m d fn ex (o + 1) cu L S X = R) (hs : sizeOf' (d cu) (L cu) = s2) (he : ex o = true) :
    run m d fn ex o (fn o) (upd L (fn o) (wrap64 (L (fn o) + s2))) (upd S cu s2) (upd X cu m) = R := by
  subst h; subst hs; simp [run, he]

theorem hL_upd {m i : Nat} {L : Nat → Int} {x : Int} (h : ∀ k, k < m → L k < 9223372036854775808) : ∀ k, k < m → upd L i (wrap64 x) k < 9223372036854775808 := by
  intro k hk
  by_cases e : k = i
  · subst e; rw [upd_same]; exact wrap64_lt x
  · rw [upd_other _ _ e]; exact h k hk

/-- What holds at the head of a round: gk frames are still open. -/
def DoneRel (base lw hw bp bn bf m nf cf : Nat) (d : Nat → Nd) (fn : Nat → Nat) (ex : Nat → Bool) (w : World) (R : Res) (gk : Nat) (i : Value) (wr : World) : Prop :=
  ∃ (cu : Nat) (L S X : Nat → Int) (v : Value) (n : Nat) (xs : List Value), i = .int .i64 cu ∧ cu < m ∧ gk ≤ nf ∧ (∀ k, k < m → L k < 9223372036854775808) ∧ base ≤ wr.heap.size ∧
    St lw hw bp bn bf m nf cf d fn ex wr L S X gk v ∧ wr.ownsRow base 5 1 v n xs ∧ Kept base bp bn w wr ∧ run m d fn ex gk cu L S X = R

set_option maxHeartbeats 1000000 in
set_option maxRecDepth 100000 in
theorem done_any {base lw hw bp bn bf m nf cf : Nat} {d : Nat → Nd} {fn : Nat → Nat} {ex : Nat → Bool} {w : World} {L S X : Nat → Int} {o n cur : Nat} {hv : Value} {xs : List Value}
    (hs : Sep base lw hw bp bn bf) (hb : base ≤ w.heap.size) (hst : St lw hw bp bn bf m nf cf d fn ex w L S X o hv) (hown : w.ownsRow base 5 1 hv n xs)
    (hcur : cur < m) (_hm : m ≤ 1024) (hfn : ∀ k, k < nf → fn k < m) (ho : o ≤ nf) (hnf : nf ≤ 1024) (hcf : nf ≤ cf) (hd : ∀ k, k < m → (d k).Ok) (hL : ∀ k, k < m → L k < 9223372036854775808) :
    Calls Yba.prog 5 #[.pointer (some ⟨bp, 0, none⟩), .int .i64 cur] w fun e w' => e = .returned (.tuple #[]) ∧
      ∃ hv', St lw hw bp bn bf m nf cf d fn ex w' (run m d fn ex o cur L S X).L (run m d fn ex o cur L S X).S (run m d fn ex o cur L S X).X (run m d fn ex o cur L S X).o hv' ∧ Kept base bp bn w w' := by
  generalize hR : run m d fn ex o cur L S X = R
  go_enter Yba.func5, Yba.ntmps5
  go_wp2
  go_loopg [1] o (fun k i wr => DoneRel base lw hw bp bn bf m nf cf d fn ex w R k i wr)
  case atStart => exact ⟨cur, L, S, X, hv, n, xs, rfl, hcur, ho, hL, hb, hst, hown, Kept.refl _, hR⟩
  case round =>
    clear hst hown hL hR hcur ho
    obtain ⟨cu, L, S, X, v, n, xs, rfl, hcu, hgk, hL, hbr, hst, hown, hk, hR⟩ := hrel
    have HR : Hid (run m d fn ex gk cu L S X = R) := hR
    clear hR
    have hc1 := hst.p1
    have hc5 := hst.p5
    have hz5 := hst.zp 5
    have hcuI : (cu : Int) < m := by omega
    have hs' := hs
    obtain ⟨s1, s2, s3, s4, s5⟩ := hs
    rcases own_cut hown with rfl | ⟨g, cap, rfl, hown0⟩
    · have hown0 := World.ownsRow_nil wr base 5 1
      go_wp2_with fail
      refine (head_form base lw hw bn (cu * 15) _ [] (d cu) (L cu) wr hown0 hbr (by omega) (hd cu hcu) (hL cu hcu) (by omega) (hst.node cu hcu)).mono ?_
      rintro e w1 ⟨ao, cp, rfl, R1⟩
      have hB := R1.below hown0 hbr
      have hst1 := hst.below hs' hB
      have hk1 := hk.below hB
      have hsz := hB.size
      obtain ⟨ys, hown1⟩ := R1.own
      clear hst hk hown hown0 R1 hB hc1 hc5 hz5
      have hc5 := hst1.p5
      have hz5 := hst1.zp 5
      go_wp2
      have hst2 := hst1.setHeader hs' (.slice ao ((d cu).hdr (L cu)) cp)
      have hk2 := hk1.setP 5 (.slice ao ((d cu).hdr (L cu)) cp)
      have hown2 := ownsRow_setCell_below hown1 (a := ⟨bp, 5, none⟩) (by exact s4) (.slice ao ((d cu).hdr (L cu)) cp)
      have hb2 : base ≤ (w1.setCell ⟨bp, 5, none⟩ (.slice ao ((d cu).hdr (L cu)) cp)).heap.size := by simp; omega
      clear hst1 hk1 hown1 hc5 hz5 hsz
      generalize w1.setCell ⟨bp, 5, none⟩ (.slice ao ((d cu).hdr (L cu)) cp) = W2 at *
      have hc5 := hst2.p5
      have hl6 := (hst2.node cu hcu).h6
      have hs14 := hst2.size cu hcu
      have hzz := hst2.zn (cu * 15 + 14)
      go_region_held3 (fun w' => w'.cell? ⟨bp, 5, none⟩ = some (.slice ao ((d cu).hdr (L cu)) cp) ∧ w'.cell? ⟨bn, cu * 15 + 6, none⟩ = some (.int .i64 (L cu)) ∧ (w'.cell? ⟨bn, cu * 15 + 14, none⟩).isSome = true ∧ w'.frozen? ⟨bn, cu * 15 + 14, none⟩ = false) (first | (go_keep; done) | (simp only [World.cell?_drew, World.frozen?_drew, World.frozen?_setCell]; exact ⟨(cso (.inl (by omega))).trans hc5, (cso (.inr (by omega))).trans hl6, by rw [css hs14]; rfl, hzz⟩)) (fail)
      have hst3 := (hst2.setSize hs' hcu (IntKind.i64.wrap (((d cu).hdr (L cu) : Nat) + L cu))).below hs' (Below.refl base _).drew
      have hk3 := (hk2.setN (cu * 15 + 14) (.int .i64 (IntKind.i64.wrap (((d cu).hdr (L cu) : Nat) + L cu)))).below (Below.refl base _).drew
      have hown3 := (ownsRow_setCell_below hown2 (a := ⟨bn, cu * 15 + 14, none⟩) (by show bn < base; omega) (.int .i64 (IntKind.i64.wrap (((d cu).hdr (L cu) : Nat) + L cu)))).drew
      have hb3 : base ≤ (W2.setCell ⟨bn, cu * 15 + 14, none⟩ (.int .i64 (IntKind.i64.wrap (((d cu).hdr (L cu) : Nat) + L cu)))).drew.heap.size := by simpa using hb2
      clear hst2 hk2 hown2 hc5 hl6 hs14 hzz hb2
      generalize (W2.setCell ⟨bn, cu * 15 + 14, none⟩ (.int .i64 (IntKind.i64.wrap (((d cu).hdr (L cu) : Nat) + L cu)))).drew = W3 at *
      generalize hsz : IntKind.i64.wrap (((d cu).hdr (L cu) : Nat) + L cu) = sz at *
      have Hsz : Hid (wrap64 (((d cu).hdr (L cu) : Nat) + L cu) = sz) := by rw [← hsz]; exact (IntWalk.i64_left _).symm
      clear hsz
      have hc1 := hst3.p1
      have hc3 := hst3.p3
      have hc8 := hst3.next cu hcu
      have hc11 := (hst3.node cu hcu).h11
      have hc14 := hst3.size cu hcu
      rw [upd_same] at hc14
      have hz8 := hst3.zn (cu * 15 + 8)
      have hz14 := hst3.zn (cu * 15 + 14)
      have hne := (show bn ≠ bp by omega)
      have hne' := (show bp ≠ bn by omega)
      rcases gk with _ | o'
      · by_cases hf : (d cu).f = 1
        · have hfI : (((d cu).f : Int) == 1) = true := by simp [hf]
          go_wp2
          refine bodyPost_ret (results_none rfl _ _ _) rfl ?_
          have hst4 := (hst3.setSize hs' hcu (wrap64 (sz + 2))).setNext hs' hcu m
          obtain ⟨r1, r2, r3, r4⟩ := run_0 HR.out (size_1 hf Hsz.out)
          rw [upd_upd] at hst4
          refine ⟨rfl, .slice ao ((d cu).hdr (L cu)) cp, ?_, (hk3.setN _ _).setN _ _⟩
          rw [r1, r2, r3, r4]
          exact hst4
        · have hfI : (((d cu).f : Int) == 1) = false := by simp; omega
          go_wp2
          refine bodyPost_ret (results_none rfl _ _ _) rfl ?_
          have hst4 := hst3.setNext hs' hcu m
          obtain ⟨r1, r2, r3, r4⟩ := run_0 HR.out (size_n hf Hsz.out)
          refine ⟨rfl, .slice ao ((d cu).hdr (L cu)) cp, ?_, hk3.setN _ _⟩
          rw [r1, r2, r3, r4]
          exact hst4
      · have ho' : o' < nf := by omega
        have hfno := hfn o' ho'
        obtain ⟨f0, f1, f2, f3⟩ := hst3.fr o' ho'
        have hne2 := (show bn ≠ bf by omega)
        have hoI : (0 : Int) ≤ (o' : Int) := by omega
        have hoC : (o' : Int) ≤ cf := by omega
        by_cases hf : (d cu).f = 1
        · have hfI : (((d cu).f : Int) == 1) = true := by simp [hf]
          go_wp2
          have hlt4 : W3.heap.size < (((W3.setCell ⟨bn, cu * 15 + 14, none⟩ (.int .i64 (wrap64 (sz + 2)))).setCell ⟨bn, cu * 15 + 8, none⟩ (.int .i64 m)).alloc (.cells #[.int .i64 (fn o'), .int .i64 0, .bool (ex o'), .int .i64 0] 39)).heap.size := by simp
          have g0 : (((W3.setCell ⟨bn, cu * 15 + 14, none⟩ (.int .i64 (wrap64 (sz + 2)))).setCell ⟨bn, cu * 15 + 8, none⟩ (.int .i64 m)).alloc (.cells #[.int .i64 (fn o'), .int .i64 0, .bool (ex o'), .int .i64 0] 39)).cell? ⟨W3.heap.size, 0, none⟩ = some (.int .i64 (fn o')) := by simp [go_sem]
          have g2 : (((W3.setCell ⟨bn, cu * 15 + 14, none⟩ (.int .i64 (wrap64 (sz + 2)))).setCell ⟨bn, cu * 15 + 8, none⟩ (.int .i64 m)).alloc (.cells #[.int .i64 (fn o'), .int .i64 0, .bool (ex o'), .int .i64 0] 39)).cell? ⟨W3.heap.size, 2, none⟩ = some (.bool (ex o')) := by simp [go_sem]
          have hB4 : Below base ((W3.setCell ⟨bn, cu * 15 + 14, none⟩ (.int .i64 (wrap64 (sz + 2)))).setCell ⟨bn, cu * 15 + 8, none⟩ (.int .i64 m)) (((W3.setCell ⟨bn, cu * 15 + 14, none⟩ (.int .i64 (wrap64 (sz + 2)))).setCell ⟨bn, cu * 15 + 8, none⟩ (.int .i64 m)).alloc (.cells #[.int .i64 (fn o'), .int .i64 0, .bool (ex o'), .int .i64 0] 39)) := (Below.refl base _).alloc (by simpa using hb3) _
          have hst4 := ((hst3.setSize hs' hcu (wrap64 (sz + 2))).setNext hs' hcu m).below hs' hB4
          have hk4 := ((hk3.setN (cu * 15 + 14) (.int .i64 (wrap64 (sz + 2)))).setN (cu * 15 + 8) (.int .i64 m)).below hB4
          have hown4 := (ownsRow_setCell_below (ownsRow_setCell_below hown3 (a := ⟨bn, cu * 15 + 14, none⟩) (by show bn < base; omega) (.int .i64 (wrap64 (sz + 2)))) (a := ⟨bn, cu * 15 + 8, none⟩) (by show bn < base; omega) (.int .i64 m)).alloc (.cells #[.int .i64 (fn o'), .int .i64 0, .bool (ex o'), .int .i64 0] 39)
          rw [upd_upd] at hst4
          have Hs2 : Hid (sizeOf' (d cu) (L cu) = wrap64 (sz + 2)) := size_1 hf Hsz.out
          clear hst3 hk3 hown3 hc1 hc3 hc8 hc11 hc14 hz8 hz14 hB4 f0 f1 f2 f3
          generalize ((W3.setCell ⟨bn, cu * 15 + 14, none⟩ (.int .i64 (wrap64 (sz + 2)))).setCell ⟨bn, cu * 15 + 8, none⟩ (.int .i64 m)).alloc (.cells #[.int .i64 (fn o'), .int .i64 0, .bool (ex o'), .int .i64 0] 39) = W4 at *
          generalize wrap64 (sz + 2) = s2 at *
          have hc1 := hst4.p1
          have hc3 := hst4.p3
          have hl6 := (hst4.node (fn o') hfno).h6
          have hs14 := hst4.size cu hcu
          rw [upd_same] at hs14
          have hzz := hst4.zn (fn o' * 15 + 6)
          have hfnI : ((fn o' : Nat) : Int) < m := by omega
          have hHb : bn ≠ W3.heap.size := by omega
          have hHp : bp ≠ W3.heap.size := by omega
          generalize W3.heap.size = H at *
          go_region
          have hB5 := (Below.refl base (W4.setCell ⟨bn, fn o' * 15 + 6, none⟩ (.int .i64 (wrap64 (L (fn o') + s2))))).drew
          have hst5 := (hst4.setLen hs' hfno (wrap64 (L (fn o') + s2))).below hs' hB5
          have hk5 := (hk4.setN (fn o' * 15 + 6) (.int .i64 (wrap64 (L (fn o') + s2)))).below hB5
          have hown5 := (ownsRow_setCell_below hown4 (a := ⟨bn, fn o' * 15 + 6, none⟩) (by show bn < base; omega) (.int .i64 (wrap64 (L (fn o') + s2)))).drew
          have hb5 : base ≤ (W4.setCell ⟨bn, fn o' * 15 + 6, none⟩ (.int .i64 (wrap64 (L (fn o') + s2)))).drew.heap.size := by simp; omega
          have g2' : (W4.setCell ⟨bn, fn o' * 15 + 6, none⟩ (.int .i64 (wrap64 (L (fn o') + s2)))).drew.cell? ⟨H, 2, none⟩ = some (.bool (ex o')) := by rw [World.cell?_drew, cso (.inl hHb)]; exact g2
          have g0' : (W4.setCell ⟨bn, fn o' * 15 + 6, none⟩ (.int .i64 (wrap64 (L (fn o') + s2)))).drew.cell? ⟨H, 0, none⟩ = some (.int .i64 (fn o')) := by rw [World.cell?_drew, cso (.inl hHb)]; exact g0
          clear hst4 hk4 hown4 hc1 hc3 hl6 hs14 hzz hlt4 g0 g2 hB5
          generalize (W4.setCell ⟨bn, fn o' * 15 + 6, none⟩ (.int .i64 (wrap64 (L (fn o') + s2)))).drew = W5 at *
          have hc3 := hst5.p3
          have hz3 := hst5.zp 3
          cases he : ex o'
          · rw [he] at g2'
            obtain ⟨r1, r2, r3, r4⟩ := run_s HR.out Hs2.out he
            clear he
            go_wp2
            refine bodyPost_ret (results_none rfl _ _ _) rfl ?_
            refine ⟨rfl, .slice ao ((d cu).hdr (L cu)) cp, ?_, hk5⟩
            rw [r1, r2, r3, r4]
            exact hst5
          · rw [he] at g2'
            have HR2 : Hid (run m d fn ex o' (fn o') (upd L (fn o') (wrap64 (L (fn o') + s2))) (upd S cu s2) (upd X cu m) = R) := run_e HR.out Hs2.out he
            clear he
            go_wp2
            go_roundg o'
            case measure => omega
            case rel => exact ⟨fn o', upd L (fn o') (wrap64 (L (fn o') + s2)), upd S cu s2, upd X cu m, .slice ao ((d cu).hdr (L cu)) cp, _, ys, rfl, hfno, by omega, hL_upd hL, by simpa using hb5, hst5.setOpen hs' o', ownsRow_setCell_below hown5 (a := ⟨bp, 3, none⟩) (by exact s4) _, hk5.setP 3 _, HR2.out⟩
        · have hfI : (((d cu).f : Int) == 1) = false := by simp; omega
          go_wp2
          have hlt4 : W3.heap.size < ((W3.setCell ⟨bn, cu * 15 + 8, none⟩ (.int .i64 m)).alloc (.cells #[.int .i64 (fn o'), .int .i64 0, .bool (ex o'), .int .i64 0] 39)).heap.size := by simp
          have g0 : ((W3.setCell ⟨bn, cu * 15 + 8, none⟩ (.int .i64 m)).alloc (.cells #[.int .i64 (fn o'), .int .i64 0, .bool (ex o'), .int .i64 0] 39)).cell? ⟨W3.heap.size, 0, none⟩ = some (.int .i64 (fn o')) := by simp [go_sem]
          have g2 : ((W3.setCell ⟨bn, cu * 15 + 8, none⟩ (.int .i64 m)).alloc (.cells #[.int .i64 (fn o'), .int .i64 0, .bool (ex o'), .int .i64 0] 39)).cell? ⟨W3.heap.size, 2, none⟩ = some (.bool (ex o')) := by simp [go_sem]
          have hB4 : Below base (W3.setCell ⟨bn, cu * 15 + 8, none⟩ (.int .i64 m)) ((W3.setCell ⟨bn, cu * 15 + 8, none⟩ (.int .i64 m)).alloc (.cells #[.int .i64 (fn o'), .int .i64 0, .bool (ex o'), .int .i64 0] 39)) := (Below.refl base _).alloc (by simpa using hb3) _
          have hst4 := (hst3.setNext hs' hcu m).below hs' hB4
          have hk4 := (hk3.setN (cu * 15 + 8) (.int .i64 m)).below hB4
          have hown4 := (ownsRow_setCell_below hown3 (a := ⟨bn, cu * 15 + 8, none⟩) (by show bn < base; omega) (.int .i64 m)).alloc (.cells #[.int .i64 (fn o'), .int .i64 0, .bool (ex o'), .int .i64 0] 39)
          have Hs2 : Hid (sizeOf' (d cu) (L cu) = sz) := size_n hf Hsz.out
          clear hst3 hk3 hown3 hc1 hc3 hc8 hc11 hc14 hz8 hz14 hB4 f0 f1 f2 f3
          generalize (W3.setCell ⟨bn, cu * 15 + 8, none⟩ (.int .i64 m)).alloc (.cells #[.int .i64 (fn o'), .int .i64 0, .bool (ex o'), .int .i64 0] 39) = W4 at *
          generalize sz = s2 at *
          have hc1 := hst4.p1
          have hc3 := hst4.p3
          have hl6 := (hst4.node (fn o') hfno).h6
          have hs14 := hst4.size cu hcu
          rw [upd_same] at hs14
          have hzz := hst4.zn (fn o' * 15 + 6)
          have hfnI : ((fn o' : Nat) : Int) < m := by omega
          have hHb : bn ≠ W3.heap.size := by omega
          have hHp : bp ≠ W3.heap.size := by omega
          generalize W3.heap.size = H at *
          go_region
          have hB5 := (Below.refl base (W4.setCell ⟨bn, fn o' * 15 + 6, none⟩ (.int .i64 (wrap64 (L (fn o') + s2))))).drew
          have hst5 := (hst4.setLen hs' hfno (wrap64 (L (fn o') + s2))).below hs' hB5
          have hk5 := (hk4.setN (fn o' * 15 + 6) (.int .i64 (wrap64 (L (fn o') + s2)))).below hB5
          have hown5 := (ownsRow_setCell_below hown4 (a := ⟨bn, fn o' * 15 + 6, none⟩) (by show bn < base; omega) (.int .i64 (wrap64 (L (fn o') + s2)))).drew
          have hb5 : base ≤ (W4.setCell ⟨bn, fn o' * 15 + 6, none⟩ (.int .i64 (wrap64 (L (fn o') + s2)))).drew.heap.size := by simp; omega
          have g2' : (W4.setCell ⟨bn, fn o' * 15 + 6, none⟩ (.int .i64 (wrap64 (L (fn o') + s2)))).drew.cell? ⟨H, 2, none⟩ = some (.bool (ex o')) := by rw [World.cell?_drew, cso (.inl hHb)]; exact g2
          have g0' : (W4.setCell ⟨bn, fn o' * 15 + 6, none⟩ (.int .i64 (wrap64 (L (fn o') + s2)))).drew.cell? ⟨H, 0, none⟩ = some (.int .i64 (fn o')) := by rw [World.cell?_drew, cso (.inl hHb)]; exact g0
          clear hst4 hk4 hown4 hc1 hc3 hl6 hs14 hzz hlt4 g0 g2 hB5
          generalize (W4.setCell ⟨bn, fn o' * 15 + 6, none⟩ (.int .i64 (wrap64 (L (fn o') + s2)))).drew = W5 at *
          have hc3 := hst5.p3
          have hz3 := hst5.zp 3
          cases he : ex o'
          · rw [he] at g2'
            obtain ⟨r1, r2, r3, r4⟩ := run_s HR.out Hs2.out he
            clear he
            go_wp2
            refine bodyPost_ret (results_none rfl _ _ _) rfl ?_
            refine ⟨rfl, .slice ao ((d cu).hdr (L cu)) cp, ?_, hk5⟩
            rw [r1, r2, r3, r4]
            exact hst5
          · rw [he] at g2'
            have HR2 : Hid (run m d fn ex o' (fn o') (upd L (fn o') (wrap64 (L (fn o') + s2))) (upd S cu s2) (upd X cu m) = R) := run_e HR.out Hs2.out he
            clear he
            go_wp2
            go_roundg o'
            case measure => omega
            case rel => exact ⟨fn o', upd L (fn o') (wrap64 (L (fn o') + s2)), upd S cu s2, upd X cu m, .slice ao ((d cu).hdr (L cu)) cp, _, ys, rfl, hfno, by omega, hL_upd hL, by simpa using hb5, hst5.setOpen hs' o', ownsRow_setCell_below hown5 (a := ⟨bp, 3, none⟩) (by exact s4) _, hk5.setP 3 _, HR2.out⟩
    · have hcp : (0 : Int) ≤ (cap : Int) := by omega
      go_wp2_with fail
      refine (head_form base lw hw bn (cu * 15) _ [] (d cu) (L cu) wr hown0 hbr (by omega) (hd cu hcu) (hL cu hcu) (by omega) (hst.node cu hcu)).mono ?_
      rintro e w1 ⟨ao, cp, rfl, R1⟩
      have hB := R1.below hown0 hbr
      have hst1 := hst.below hs' hB
      have hk1 := hk.below hB
      have hsz := hB.size
      obtain ⟨ys, hown1⟩ := R1.own
      clear hst hk hown hown0 R1 hB hc1 hc5 hz5
      have hc5 := hst1.p5
      have hz5 := hst1.zp 5
      go_wp2
      have hst2 := hst1.setHeader hs' (.slice ao ((d cu).hdr (L cu)) cp)
      have hk2 := hk1.setP 5 (.slice ao ((d cu).hdr (L cu)) cp)
      have hown2 := ownsRow_setCell_below hown1 (a := ⟨bp, 5, none⟩) (by exact s4) (.slice ao ((d cu).hdr (L cu)) cp)
      have hb2 : base ≤ (w1.setCell ⟨bp, 5, none⟩ (.slice ao ((d cu).hdr (L cu)) cp)).heap.size := by simp; omega
      clear hst1 hk1 hown1 hc5 hz5 hsz
      generalize w1.setCell ⟨bp, 5, none⟩ (.slice ao ((d cu).hdr (L cu)) cp) = W2 at *
      have hc5 := hst2.p5
      have hl6 := (hst2.node cu hcu).h6
      have hs14 := hst2.size cu hcu
      have hzz := hst2.zn (cu * 15 + 14)
      go_region_held3 (fun w' => w'.cell? ⟨bp, 5, none⟩ = some (.slice ao ((d cu).hdr (L cu)) cp) ∧ w'.cell? ⟨bn, cu * 15 + 6, none⟩ = some (.int .i64 (L cu)) ∧ (w'.cell? ⟨bn, cu * 15 + 14, none⟩).isSome = true ∧ w'.frozen? ⟨bn, cu * 15 + 14, none⟩ = false) (first | (go_keep; done) | (simp only [World.cell?_drew, World.frozen?_drew, World.frozen?_setCell]; exact ⟨(cso (.inl (by omega))).trans hc5, (cso (.inr (by omega))).trans hl6, by rw [css hs14]; rfl, hzz⟩)) (fail)
      have hst3 := (hst2.setSize hs' hcu (IntKind.i64.wrap (((d cu).hdr (L cu) : Nat) + L cu))).below hs' (Below.refl base _).drew
      have hk3 := (hk2.setN (cu * 15 + 14) (.int .i64 (IntKind.i64.wrap (((d cu).hdr (L cu) : Nat) + L cu)))).below (Below.refl base _).drew
      have hown3 := (ownsRow_setCell_below hown2 (a := ⟨bn, cu * 15 + 14, none⟩) (by show bn < base; omega) (.int .i64 (IntKind.i64.wrap (((d cu).hdr (L cu) : Nat) + L cu)))).drew
      have hb3 : base ≤ (W2.setCell ⟨bn, cu * 15 + 14, none⟩ (.int .i64 (IntKind.i64.wrap (((d cu).hdr (L cu) : Nat) + L cu)))).drew.heap.size := by simpa using hb2
      clear hst2 hk2 hown2 hc5 hl6 hs14 hzz hb2
      generalize (W2.setCell ⟨bn, cu * 15 + 14, none⟩ (.int .i64 (IntKind.i64.wrap (((d cu).hdr (L cu) : Nat) + L cu)))).drew = W3 at *
      generalize hsz : IntKind.i64.wrap (((d cu).hdr (L cu) : Nat) + L cu) = sz at *
      have Hsz : Hid (wrap64 (((d cu).hdr (L cu) : Nat) + L cu) = sz) := by rw [← hsz]; exact (IntWalk.i64_left _).symm
      clear hsz
      have hc1 := hst3.p1
      have hc3 := hst3.p3
      have hc8 := hst3.next cu hcu
      have hc11 := (hst3.node cu hcu).h11
      have hc14 := hst3.size cu hcu
      rw [upd_same] at hc14
      have hz8 := hst3.zn (cu * 15 + 8)
      have hz14 := hst3.zn (cu * 15 + 14)
      have hne := (show bn ≠ bp by omega)
      have hne' := (show bp ≠ bn by omega)
      rcases gk with _ | o'
      · by_cases hf : (d cu).f = 1
        · have hfI : (((d cu).f : Int) == 1) = true := by simp [hf]
          go_wp2
          refine bodyPost_ret (results_none rfl _ _ _) rfl ?_
          have hst4 := (hst3.setSize hs' hcu (wrap64 (sz + 2))).setNext hs' hcu m
          obtain ⟨r1, r2, r3, r4⟩ := run_0 HR.out (size_1 hf Hsz.out)
          rw [upd_upd] at hst4
          refine ⟨rfl, .slice ao ((d cu).hdr (L cu)) cp, ?_, (hk3.setN _ _).setN _ _⟩
          rw [r1, r2, r3, r4]
          exact hst4
        · have hfI : (((d cu).f : Int) == 1) = false := by simp; omega
          go_wp2
          refine bodyPost_ret (results_none rfl _ _ _) rfl ?_
          have hst4 := hst3.setNext hs' hcu m
          obtain ⟨r1, r2, r3, r4⟩ := run_0 HR.out (size_n hf Hsz.out)
          refine ⟨rfl, .slice ao ((d cu).hdr (L cu)) cp, ?_, hk3.setN _ _⟩
          rw [r1, r2, r3, r4]
          exact hst4
      · have ho' : o' < nf := by omega
        have hfno := hfn o' ho'
        obtain ⟨f0, f1, f2, f3⟩ := hst3.fr o' ho'
        have hne2 := (show bn ≠ bf by omega)
        have hoI : (0 : Int) ≤ (o' : Int) := by omega
        have hoC : (o' : Int) ≤ cf := by omega
        by_cases hf : (d cu).f = 1
        · have hfI : (((d cu).f : Int) == 1) = true := by simp [hf]
          go_wp2
          have hlt4 : W3.heap.size < (((W3.setCell ⟨bn, cu * 15 + 14, none⟩ (.int .i64 (wrap64 (sz + 2)))).setCell ⟨bn, cu * 15 + 8, none⟩ (.int .i64 m)).alloc (.cells #[.int .i64 (fn o'), .int .i64 0, .bool (ex o'), .int .i64 0] 39)).heap.size := by simp
          have g0 : (((W3.setCell ⟨bn, cu * 15 + 14, none⟩ (.int .i64 (wrap64 (sz + 2)))).setCell ⟨bn, cu * 15 + 8, none⟩ (.int .i64 m)).alloc (.cells #[.int .i64 (fn o'), .int .i64 0, .bool (ex o'), .int .i64 0] 39)).cell? ⟨W3.heap.size, 0, none⟩ = some (.int .i64 (fn o')) := by simp [go_sem]
          have g2 : (((W3.setCell ⟨bn, cu * 15 + 14, none⟩ (.int .i64 (wrap64 (sz + 2)))).setCell ⟨bn, cu * 15 + 8, none⟩ (.int .i64 m)).alloc (.cells #[.int .i64 (fn o'), .int .i64 0, .bool (ex o'), .int .i64 0] 39)).cell? ⟨W3.heap.size, 2, none⟩ = some (.bool (ex o')) := by simp [go_sem]
          have hB4 : Below base ((W3.setCell ⟨bn, cu * 15 + 14, none⟩ (.int .i64 (wrap64 (sz + 2)))).setCell ⟨bn, cu * 15 + 8, none⟩ (.int .i64 m)) (((W3.setCell ⟨bn, cu * 15 + 14, none⟩ (.int .i64 (wrap64 (sz + 2)))).setCell ⟨bn, cu * 15 + 8, none⟩ (.int .i64 m)).alloc (.cells #[.int .i64 (fn o'), .int .i64 0, .bool (ex o'), .int .i64 0] 39)) := (Below.refl base _).alloc (by simpa using hb3) _
          have hst4 := ((hst3.setSize hs' hcu (wrap64 (sz + 2))).setNext hs' hcu m).below hs' hB4
          have hk4 := ((hk3.setN (cu * 15 + 14) (.int .i64 (wrap64 (sz + 2)))).setN (cu * 15 + 8) (.int .i64 m)).below hB4
          have hown4 := (ownsRow_setCell_below (ownsRow_setCell_below hown3 (a := ⟨bn, cu * 15 + 14, none⟩) (by show bn < base; omega) (.int .i64 (wrap64 (sz + 2)))) (a := ⟨bn, cu * 15 + 8, none⟩) (by show bn < base; omega) (.int .i64 m)).alloc (.cells #[.int .i64 (fn o'), .int .i64 0, .bool (ex o'), .int .i64 0] 39)
          rw [upd_upd] at hst4
          have Hs2 : Hid (sizeOf' (d cu) (L cu) = wrap64 (sz + 2)) := size_1 hf Hsz.out
          clear hst3 hk3 hown3 hc1 hc3 hc8 hc11 hc14 hz8 hz14 hB4 f0 f1 f2 f3
          generalize ((W3.setCell ⟨bn, cu * 15 + 14, none⟩ (.int .i64 (wrap64 (sz + 2)))).setCell ⟨bn, cu * 15 + 8, none⟩ (.int .i64 m)).alloc (.cells #[.int .i64 (fn o'), .int .i64 0, .bool (ex o'), .int .i64 0] 39) = W4 at *
          generalize wrap64 (sz + 2) = s2 at *
          have hc1 := hst4.p1
          have hc3 := hst4.p3
          have hl6 := (hst4.node (fn o') hfno).h6
          have hs14 := hst4.size cu hcu
          rw [upd_same] at hs14
          have hzz := hst4.zn (fn o' * 15 + 6)
          have hfnI : ((fn o' : Nat) : Int) < m := by omega
          have hHb : bn ≠ W3.heap.size := by omega
          have hHp : bp ≠ W3.heap.size := by omega
          generalize W3.heap.size = H at *
          go_region
          have hB5 := (Below.refl base (W4.setCell ⟨bn, fn o' * 15 + 6, none⟩ (.int .i64 (wrap64 (L (fn o') + s2))))).drew
          have hst5 := (hst4.setLen hs' hfno (wrap64 (L (fn o') + s2))).below hs' hB5
          have hk5 := (hk4.setN (fn o' * 15 + 6) (.int .i64 (wrap64 (L (fn o') + s2)))).below hB5
          have hown5 := (ownsRow_setCell_below hown4 (a := ⟨bn, fn o' * 15 + 6, none⟩) (by show bn < base; omega) (.int .i64 (wrap64 (L (fn o') + s2)))).drew
          have hb5 : base ≤ (W4.setCell ⟨bn, fn o' * 15 + 6, none⟩ (.int .i64 (wrap64 (L (fn o') + s2)))).drew.heap.size := by simp; omega
          have g2' : (W4.setCell ⟨bn, fn o' * 15 + 6, none⟩ (.int .i64 (wrap64 (L (fn o') + s2)))).drew.cell? ⟨H, 2, none⟩ = some (.bool (ex o')) := by rw [World.cell?_drew, cso (.inl hHb)]; exact g2
          have g0' : (W4.setCell ⟨bn, fn o' * 15 + 6, none⟩ (.int .i64 (wrap64 (L (fn o') + s2)))).drew.cell? ⟨H, 0, none⟩ = some (.int .i64 (fn o')) := by rw [World.cell?_drew, cso (.inl hHb)]; exact g0
          clear hst4 hk4 hown4 hc1 hc3 hl6 hs14 hzz hlt4 g0 g2 hB5
          generalize (W4.setCell ⟨bn, fn o' * 15 + 6, none⟩ (.int .i64 (wrap64 (L (fn o') + s2)))).drew = W5 at *
          have hc3 := hst5.p3
          have hz3 := hst5.zp 3
          cases he : ex o'
          · rw [he] at g2'
            obtain ⟨r1, r2, r3, r4⟩ := run_s HR.out Hs2.out he
            clear he
            go_wp2
            refine bodyPost_ret (results_none rfl _ _ _) rfl ?_
            refine ⟨rfl, .slice ao ((d cu).hdr (L cu)) cp, ?_, hk5⟩
            rw [r1, r2, r3, r4]
            exact hst5
          · rw [he] at g2'
            have HR2 : Hid (run m d fn ex o' (fn o') (upd L (fn o') (wrap64 (L (fn o') + s2))) (upd S cu s2) (upd X cu m) = R) := run_e HR.out Hs2.out he
            clear he
            go_wp2
            go_roundg o'
            case measure => omega
            case rel => exact ⟨fn o', upd L (fn o') (wrap64 (L (fn o') + s2)), upd S cu s2, upd X cu m, .slice ao ((d cu).hdr (L cu)) cp, _, ys, rfl, hfno, by omega, hL_upd hL, by simpa using hb5, hst5.setOpen hs' o', ownsRow_setCell_below hown5 (a := ⟨bp, 3, none⟩) (by exact s4) _, hk5.setP 3 _, HR2.out⟩
        · have hfI : (((d cu).f : Int) == 1) = false := by simp; omega
          go_wp2
          have hlt4 : W3.heap.size < ((W3.setCell ⟨bn, cu * 15 + 8, none⟩ (.int .i64 m)).alloc (.cells #[.int .i64 (fn o'), .int .i64 0, .bool (ex o'), .int .i64 0] 39)).heap.size := by simp
          have g0 : ((W3.setCell ⟨bn, cu * 15 + 8, none⟩ (.int .i64 m)).alloc (.cells #[.int .i64 (fn o'), .int .i64 0, .bool (ex o'), .int .i64 0] 39)).cell? ⟨W3.heap.size, 0, none⟩ = some (.int .i64 (fn o')) := by simp [go_sem]
          have g2 : ((W3.setCell ⟨bn, cu * 15 + 8, none⟩ (.int .i64 m)).alloc (.cells #[.int .i64 (fn o'), .int .i64 0, .bool (ex o'), .int .i64 0] 39)).cell? ⟨W3.heap.size, 2, none⟩ = some (.bool (ex o')) := by simp [go_sem]
          have hB4 : Below base (W3.setCell ⟨bn, cu * 15 + 8, none⟩ (.int .i64 m)) ((W3.setCell ⟨bn, cu * 15 + 8, none⟩ (.int .i64 m)).alloc (.cells #[.int .i64 (fn o'), .int .i64 0, .bool (ex o'), .int .i64 0] 39)) := (Below.refl base _).alloc (by simpa using hb3) _
          have hst4 := (hst3.setNext hs' hcu m).below hs' hB4
          have hk4 := (hk3.setN (cu * 15 + 8) (.int .i64 m)).below hB4
          have hown4 := (ownsRow_setCell_below hown3 (a := ⟨bn, cu * 15 + 8, none⟩) (by show bn < base; omega) (.int .i64 m)).alloc (.cells #[.int .i64 (fn o'), .int .i64 0, .bool (ex o'), .int .i64 0] 39)
          have Hs2 : Hid (sizeOf' (d cu) (L cu) = sz) := size_n hf Hsz.out
          clear hst3 hk3 hown3 hc1 hc3 hc8 hc11 hc14 hz8 hz14 hB4 f0 f1 f2 f3
          generalize (W3.setCell ⟨bn, cu * 15 + 8, none⟩ (.int .i64 m)).alloc (.cells #[.int .i64 (fn o'), .int .i64 0, .bool (ex o'), .int .i64 0] 39) = W4 at *
          generalize sz = s2 at *
          have hc1 := hst4.p1
          have hc3 := hst4.p3
          have hl6 := (hst4.node (fn o') hfno).h6
          have hs14 := hst4.size cu hcu
          rw [upd_same] at hs14
          have hzz := hst4.zn (fn o' * 15 + 6)
          have hfnI : ((fn o' : Nat) : Int) < m := by omega
          have hHb : bn ≠ W3.heap.size := by omega
          have hHp : bp ≠ W3.heap.size := by omega
          generalize W3.heap.size = H at *
          go_region
          have hB5 := (Below.refl base (W4.setCell ⟨bn, fn o' * 15 + 6, none⟩ (.int .i64 (wrap64 (L (fn o') + s2))))).drew
          have hst5 := (hst4.setLen hs' hfno (wrap64 (L (fn o') + s2))).below hs' hB5
          have hk5 := (hk4.setN (fn o' * 15 + 6) (.int .i64 (wrap64 (L (fn o') + s2)))).below hB5
          have hown5 := (ownsRow_setCell_below hown4 (a := ⟨bn, fn o' * 15 + 6, none⟩) (by show bn < base; omega) (.int .i64 (wrap64 (L (fn o') + s2)))).drew
          have hb5 : base ≤ (W4.setCell ⟨bn, fn o' * 15 + 6, none⟩ (.int .i64 (wrap64 (L (fn o') + s2)))).drew.heap.size := by simp; omega
          have g2' : (W4.setCell ⟨bn, fn o' * 15 + 6, none⟩ (.int .i64 (wrap64 (L (fn o') + s2)))).drew.cell? ⟨H, 2, none⟩ = some (.bool (ex o')) := by rw [World.cell?_drew, cso (.inl hHb)]; exact g2
          have g0' : (W4.setCell ⟨bn, fn o' * 15 + 6, none⟩ (.int .i64 (wrap64 (L (fn o') + s2)))).drew.cell? ⟨H, 0, none⟩ = some (.int .i64 (fn o')) := by rw [World.cell?_drew, cso (.inl hHb)]; exact g0
          clear hst4 hk4 hown4 hc1 hc3 hl6 hs14 hzz hlt4 g0 g2 hB5
          generalize (W4.setCell ⟨bn, fn o' * 15 + 6, none⟩ (.int .i64 (wrap64 (L (fn o') + s2)))).drew = W5 at *
          have hc3 := hst5.p3
          have hz3 := hst5.zp 3
          cases he : ex o'
          · rw [he] at g2'
            obtain ⟨r1, r2, r3, r4⟩ := run_s HR.out Hs2.out he
            clear he
            go_wp2
            refine bodyPost_ret (results_none rfl _ _ _) rfl ?_
            refine ⟨rfl, .slice ao ((d cu).hdr (L cu)) cp, ?_, hk5⟩
            rw [r1, r2, r3, r4]
            exact hst5
          · rw [he] at g2'
            have HR2 : Hid (run m d fn ex o' (fn o') (upd L (fn o') (wrap64 (L (fn o') + s2))) (upd S cu s2) (upd X cu m) = R) := run_e HR.out Hs2.out he
            clear he
            go_wp2
            go_roundg o'
            case measure => omega
            case rel => exact ⟨fn o', upd L (fn o') (wrap64 (L (fn o') + s2)), upd S cu s2, upd X cu m, .slice ao ((d cu).hdr (L cu)) cp, _, ys, rfl, hfno, by omega, hL_upd hL, by simpa using hb5, hst5.setOpen hs' o', ownsRow_setCell_below hown5 (a := ⟨bp, 3, none⟩) (by exact s4) _, hk5.setP 3 _, HR2.out⟩

end Go.Proofs.Ybulkavza
