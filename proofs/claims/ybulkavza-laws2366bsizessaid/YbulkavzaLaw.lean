/-
  THE LAW's OWN WALK (function 3).
-/
import Derived.Test.YbulkavzaRels
namespace Go.Proofs.Ybulkavza
open Go.RowKit Plain

set_option maxRecDepth 100000 in
set_option maxHeartbeats 20000000 in
theorem law_any (nb noff m mc nf fc fb foff : Nat) (fa : Option Addr) (sel : Nat) (w : World) (hm0 : 0 < m) (hm : m ≤ 1024) (hnf : nf ≤ 1024) (inp : Nat → In) (hin : ∀ k, k < m → InAt w nb (noff + k * 8) (inp k))
    (fi : Nat → Nat) (ex : Nat → Bool) (hfa : 0 < nf → fa = some ⟨fb, foff, none⟩) (hfr : ∀ k, k < nf → w.cell? ⟨fb, foff + k * 2, none⟩ = some (.int .u8 (fi k)) ∧ w.cell? ⟨fb, foff + k * 2 + 1, none⟩ = some (.bool (ex k))) (hfi : ∀ k, k < nf → fi k < 256) (hsel : sel < 256) :
    Calls Yba.prog 3 #[.slice (some ⟨nb, noff, none⟩) m mc, .slice fa nf fc, .int .u8 sel] w fun e w' => e = .returned (.bool true) ∧ Below w.heap.size w w' := by
  obtain ⟨i34, hi34, z34, s34, b34⟩ := info_parts Yba.info34
  obtain ⟨i3, hi3, z3, s3, b3⟩ := info_parts Yba.info3
  obtain ⟨i39, hi39, z39, s39, b39⟩ := info_parts Yba.info39
  obtain ⟨i0, hi, hz0, hz1, hz2⟩ := info_parts Yba.info5
  have t1 : ((m : Int) == 0) = false := by simp; omega
  have t2 : (m : Int) ≤ 1024 := by omega
  have t3 : (nf : Int) ≤ 1024 := by omega
  go_enter Yba.func3, Yba.ntmps3
  go_wp2_with (at_make; refine wpList_make_full _ rfl _ _ 24 rfl w.heap.size 34 i34 _ 15 Yba.underlying24 hi34 z34 s34 _ _ _ _ m rfl rfl rfl rfl (by rw [b34]; omega) (by unfold maxLen; omega) (Nat.le_refl _) ?_)
  intro w1 hown1 hg1
  have H1 := made_there rfl hown1
  clear hown1
  go_wp2_with (at_make; refine wpList_make_full _ rfl _ _ 25 rfl 0 3 i3 _ 1 Yba.underlying25 hi3 z3 s3 _ _ _ _ m rfl rfl rfl rfl (by rw [b3]; omega) (by unfold maxLen; omega) (Nat.zero_le _) ?_)
  intro w2 hown2 hg2
  have H2 := made_there (by omega) hown2
  clear hown2
  go_wp2_with (at_make; refine wpList_make_full _ rfl _ _ 25 rfl 0 3 i3 _ 1 Yba.underlying25 hi3 z3 s3 _ _ _ _ m rfl rfl rfl rfl (by rw [b3]; omega) (by unfold maxLen; omega) (Nat.zero_le _) ?_)
  intro w3 hown3 hg3
  have H3 := made_there (by omega) hown3
  clear hown3
  go_wp2_with (at_make; refine wpList_make_full _ rfl _ _ 25 rfl 0 3 i3 _ 1 Yba.underlying25 hi3 z3 s3 _ _ _ _ m rfl rfl rfl rfl (by rw [b3]; omega) (by unfold maxLen; omega) (Nat.zero_le _) ?_)
  intro w4 hown4 hg4
  have H4 := made_there (by omega) hown4
  clear hown4
  obtain ⟨hM0, hB0⟩ := mem_start (d := fun i => (inp i).nd undef) (L := fun i => ((inp i).ln : Int)) H1 H2 H3 H4 hg1 hg2 hg3 hg4
  have ho : w.heap.size < w1.heap.size ∧ w1.heap.size < w2.heap.size ∧ w2.heap.size < w3.heap.size := ⟨H1.2.2, H2.2.2, H3.2.2⟩
  clear H1 H2 H3 H4 hg1 hg2 hg3 hg4 hi34 z34 s34 b34 i34
  generalize hbn : w.heap.size = bn at *
  generalize w1.heap.size = bl at *
  generalize w2.heap.size = bs at *
  generalize w3.heap.size = bx at *
  obtain ⟨o1, o2, o3⟩ := id ho
  go_wp2
  go_loopw [12] (fun i wr => Rel1 bn bl bs bx m inp w i wr) (fun i _ => m - (intOf i).toNat)
  case atStart => exact ⟨0, fun _ => undef, Nat.zero_le _, rfl, hM0, hB0, fun i hi => by omega⟩
  case round =>
    clear hM0 hB0
    obtain ⟨k, st, hk, rfl, hM, hB, hsl⟩ := hrel
    by_cases hlt : k < m
    · have hltI : (k : Int) < m := by omega
      have hIn := (hin k hlt).below hB (by omega)
      generalize hx : inp k = x at *
      have HX : Hid (inp k = x) := hx
      clear hx
      have hBa : Below wr.heap.size wr (wr.alloc (.cells #[.int .u8 x.c, .int .u64 x.tg, .bool x.con, .bool x.raw, .int .u16 x.ln, .int .u8 x.f, .int .u8 x.lo, .slice x.sa x.sl x.sc] 30)) := (Below.refl _ _).alloc (Nat.le_refl _) _
      have hIn2 := hIn.below hBa (Nat.le_refl _)
      have hst2 := hIn2.st
      obtain ⟨c0, c1, c2, c3, c4, c5, c6, c7, _, r1, r2, r3, r4⟩ := hIn
      clear hIn2
      by_cases hs : (x.sl : Int) ≤ 1024
      · go_wp2_with (at_builtin; refine wpList_append_stated rfl _ _ rfl x.sa x.sl x.sc rfl rfl (by omega) hst2 ?_)
        intro ao cp WA hN
        have hbA : Below wr.heap.size wr WA := hBa.trans (hN.below.mono (by simp))
        have hIA : ∀ j v, (#[.int .u8 x.c, .int .u64 x.tg, .bool x.con, .bool x.raw, .int .u16 x.ln, .int .u8 x.f, .int .u8 x.lo, .slice x.sa x.sl x.sc] : Array Value)[j]? = some v → WA.cell? ⟨wr.heap.size, j, none⟩ = some v := fun j v hv => by
          rw [hN.below.cell (p := ⟨wr.heap.size, j, none⟩) (by simp), World.cell?_alloc_at _ _ _ _ rfl]; exact hv
        have hMA := hM.below ho hbA
        have hltA : wr.heap.size < WA.heap.size := by have := hN.below.size; simp at this; omega
        have hStA : StAt bx WA.heap.size WA (.slice ao x.sl cp) x.sl := hN.at (by have := hM.lt; simp; omega)
        have hBA : Below bn w WA := hB.trans (hbA.mono (by have := hM.lt; omega))
        have hH : bn < wr.heap.size ∧ bl < wr.heap.size := by have := hM.lt; omega
        have e0 := hIA 0 _ rfl
        have e1 := hIA 1 _ rfl
        have e2 := hIA 2 _ rfl
        have e3 := hIA 3 _ rfl
        have e4 := hIA 4 _ rfl
        have e5 := hIA 5 _ rfl
        have e6 := hIA 6 _ rfl
        clear hN hbA hIA hM hB c0 c1 c2 c3 c4 c5 c6 c7 hst2 hBa
        generalize wr.heap.size = Hn at *
        have hth : WA.there bn (k * 15) 15 := fun j hj => ⟨hMA.there _ (by omega), hMA.zn _⟩
        go_wp2_with (refine wpList_store_stop rfl 34 (.tmp 91) (.tmp 90) rfl bn (k * 15) _ rfl rfl ?_ ?_ ?_ ?_; (exact hth); (exact Yba.size34); (simp [Value.oneCell']))
        intro W5 hW5
        have hW5' : W5 = WA.setCells bn (k * 15) (nodeCells (x.nd (.slice ao x.sl cp)) x.ln) := by rw [show W5 = _ from hW5]; simp [nodeCells, In.nd]
        have hM5 := hMA.one ho hlt (stv := .slice ao x.sl cp) (by rw [HX.out]; exact hStA)
        rw [HX.out, ← hW5'] at hM5
        have hB5 : Below bn w W5 := by rw [hW5']; exact below_setCells (Nat.le_refl _) _ _ hBA
        have e4' : W5.cell? ⟨Hn, 4, none⟩ = some (.int .u16 x.ln) := by rw [hW5', sc_out (.inl (by omega))]; exact e4
        clear hW5 hW5' hMA hStA hBA e0 e1 e2 e3 e4 e5 e6 hth hltA
        obtain ⟨u5, hl5⟩ := Option.isSome_iff_exists.1 (hM5.thereL k hlt)
        have hz5 := hM5.zl k
        have hM6 := hM5.putLen ho hlt
        rw [HX.out] at hM6
        clear hM5
        go_wp2
        go_roundw
        case rel => exact ⟨k + 1, vput st k (.slice ao x.sl cp), by omega, by go_num, hM6, hB5.setCell (by simp; omega) _, fun i hi => by
            by_cases e : i = k
            · subst e; rw [HX.out]; omega
            · exact hsl i (by omega)⟩
        case measure => simp [intOf]; omega
      · go_wp2
        go_ret
        exact ⟨rfl, hB.trans (hBa.mono (by have := hM.lt; omega))⟩
    · have hkm : k = m := by omega
      subst hkm
      generalize wr = we at *
      have hnI : (0 : Int) ≤ (nf : Int) := by omega
      go_wp2_with (at_make; refine wpList_make_full _ rfl _ _ 35 rfl 0 39 i39 _ 4 Yba.underlying35 hi39 z39 s39 _ _ _ _ nf rfl rfl rfl rfl (by rw [b39]; omega) (by unfold maxLen; omega) (Nat.zero_le _) ?_)
      intro w5 hown5 hg5
      have H5 := made_there rfl hown5
      clear hown5
      go_wp2_with (at_make; refine wpList_make_full _ rfl _ _ 25 rfl 0 3 i3 _ 1 Yba.underlying25 hi3 z3 s3 _ _ _ _ nf rfl rfl rfl rfl (by rw [b3]; omega) (by unfold maxLen; omega) (Nat.zero_le _) ?_)
      intro w6 hown6 hg6
      have H6 := made_there (by omega) hown6
      clear hown6
      obtain ⟨hF0, hB60⟩ := fr_start (fn := fun i => fi i % k) (ex := ex) H5 H6 hg5 hg6
      have hbq : we.heap.size < w5.heap.size := H5.2.2
      have hbq6 : w5.heap.size < w6.heap.size := H6.2.2
      clear H5 H6 hg5 hg6
      have hMlt := hM.lt
      have hBwe : Below bn w we := hB
      generalize hbf : we.heap.size = bf at *
      generalize w5.heap.size = bq at *
      go_wp2
      go_loopw [17] (fun i wr' => Rel2 bf bq nf (fun i => fi i % k) ex we i wr') (fun i _ => nf - (intOf i).toNat)
      case atStart => exact ⟨0, Nat.zero_le _, rfl, hF0, hB60, hbq6⟩
      case round =>
        clear hF0 hB60
        obtain ⟨k2, hk2, rfl, hF, hBf, hbqr⟩ := hrel
        by_cases hlt2 : k2 < nf
        · have hlt2I : (k2 : Int) < nf := by omega
          have hfa2 := hfa (by omega)
          subst hfa2
          obtain ⟨q0, q1⟩ := hfr k2 hlt2
          have hfb := World.block_lt_of_cell? w _ q0
          have hfik := hfi k2 hlt2
          simp only at hfb
          have q0' : wr.cell? ⟨fb, foff + k2 * 2, none⟩ = some (.int .u8 (fi k2)) := by rw [hBf.cell (p := ⟨fb, foff + k2 * 2, none⟩) (by show fb < bf; omega), hBwe.cell (p := ⟨fb, foff + k2 * 2, none⟩) (by show fb < bn; omega)]; exact q0
          have q1' : wr.cell? ⟨fb, foff + k2 * 2 + 1, none⟩ = some (.bool (ex k2)) := by rw [hBf.cell (p := ⟨fb, foff + k2 * 2 + 1, none⟩) (by show fb < bf; omega), hBwe.cell (p := ⟨fb, foff + k2 * 2 + 1, none⟩) (by show fb < bn; omega)]; exact q1
          clear q0 q1
          have hfbq : fb ≠ bq ∧ bq ≠ fb ∧ fb ≠ bf ∧ bf ≠ fb ∧ bf ≠ bq ∧ bq ≠ bf := by omega
          obtain ⟨ne1, ne2, ne3, ne4, ne5, ne6⟩ := hfbq
          obtain ⟨u0, hu0⟩ := Option.isSome_iff_exists.1 (hF.thereQ k2 hlt2)
          have hzq := hF.zq k2
          generalize hv0 : fi k2 = v0 at *
          have HV0 : Hid (fi k2 = v0) := hv0
          clear hv0
          go_wp2
          have hF1 := hF.putQ ne5 hlt2
          have hB1 : Below bf we (wr.setCell ⟨bq, k2, none⟩ (.int .i64 ((v0 : Int) % k))) := hBf.setCell (by show bf ≤ bq; omega) _
          rw [HV0.out] at hF1
          simp only [Int.natCast_emod] at hF1
          have hs1 : bq < (wr.setCell ⟨bq, k2, none⟩ (.int .i64 ((v0 : Int) % k))).heap.size := by simpa using hbqr
          have p1' : (wr.setCell ⟨bq, k2, none⟩ (.int .i64 ((v0 : Int) % k))).cell? ⟨fb, foff + k2 * 2 + 1, none⟩ = some (.bool (ex k2)) := (cso (.inl ne2)).trans q1'
          clear hF hBf hbqr q0' q1' hu0 hzq
          generalize wr.setCell ⟨bq, k2, none⟩ (.int .i64 ((v0 : Int) % k)) = W1 at *
          have hq1 := hF1.q k2 (by omega)
          rw [HV0.out] at hq1
          simp only [Int.natCast_emod] at hq1
          obtain ⟨u0, hu0⟩ := Option.isSome_iff_exists.1 (hF1.thereF (k2 * 4) (by omega))
          obtain ⟨u1, hu1⟩ := Option.isSome_iff_exists.1 (hF1.thereF (k2 * 4 + 1) (by omega))
          obtain ⟨u2, hu2⟩ := Option.isSome_iff_exists.1 (hF1.thereF (k2 * 4 + 2) (by omega))
          obtain ⟨u3, hu3⟩ := Option.isSome_iff_exists.1 (hF1.thereF (k2 * 4 + 3) (by omega))
          have z0 := hF1.zf (k2 * 4)
          have z1 := hF1.zf (k2 * 4 + 1)
          have z2 := hF1.zf (k2 * 4 + 2)
          have z3' := hF1.zf (k2 * 4 + 3)
          have hF2 := (hF1.putF ne5 hlt2).drew
          rw [HV0.out] at hF2
          simp only [Int.natCast_emod] at hF2
          have hB2 := (below_setCells (b := bf) (Nat.le_refl _) [.int .i64 ((v0 : Int) % k), .int .i64 0, .bool (ex k2), .int .i64 0] (k2 * 4) hB1).drew
          have hs2 : bq < (W1.setCells bf (k2 * 4) [.int .i64 ((v0 : Int) % k), .int .i64 0, .bool (ex k2), .int .i64 0]).drew.heap.size := by simpa [World.setCells] using hs1
          clear hF1 hB1
          go_region
          clear hq1 hu0 hu1 hu2 hu3 z0 z1 z2 z3' p1'
          go_wp2
          go_roundw
          case rel => exact ⟨k2 + 1, by omega, by go_num, hF2, hB2, hs2⟩
          case measure => simp [intOf]; omega
        · have hkn : k2 = nf := by omega
          subst hkn
          have hznE := hM.zn
          have hMg := hM.below ho (by rw [hbf]; exact hBf)
          generalize wr = wg at *
          have hBg : Below bn w wg := hBwe.trans (hBf.mono (by omega))
          have hkI : (0 : Int) < (k : Int) := by omega
          have hd : ∀ i, i < k → ((inp i).nd (st i)).Ok := fun i hi => In.ok (hin i hi) (hsl i hi) _
          generalize hdd : (fun i => (inp i).nd (st i)) = d at *
          have hd' : ∀ i, i < k → (d i).Ok := fun i hi => by rw [← hdd]; exact hd i hi
          have Hdd : Hid ((fun i => (inp i).nd (st i)) = d) := hdd
          clear hd hdd
          have hNode := hMg.node
          have hNodeE : ∀ i, i < k → we.rangeAt bn (i * 15) (nodeCells (d i) ((inp i).ln : Int)) ∧ StAt bx bf we (d i).st (d i).sl := fun i hi => by have := hM.node i hi; rw [hbf] at this; exact this
          clear hM
          obtain ⟨R, HRd⟩ : ∃ R, Hid (run k d (fun i => fi i % k) ex k2 (sel % k) (fun i => ((inp i).ln : Int)) (fun _ => 0) (fun _ => 0) = R) := ⟨_, rfl⟩
          go_upto_block 4 with fail
          go_cut [19] from 28 (fun v19 wc => Out3 wg.heap.size bl bs bx k k2 wg R v19 wc)
          case rest =>
            obtain ⟨rfl, hRo, hMd, hK3, hBc⟩ := hcut
            go_wp2_with fail
            have hmod : (sel : Int) % (k : Int) = ((sel % k : Nat) : Int) := (Int.natCast_emod sel k).symm
            rw [hmod]
            clear hmod
            have hord : bn < bl ∧ bl < bs ∧ bs < bx ∧ bx < bf ∧ bf < bq ∧ bq < wg.heap.size := by omega
            obtain ⟨hSt0, hSep⟩ := st_start hord hznE hNodeE hF hBf hK3 hBc rfl
            have hcm : sel % k < k := Nat.mod_lt _ hm0
            have hsz : wc.heap.size + 1 ≤ (wc.alloc (.cells #[.pointer none, .slice (some ⟨bn, 0, none⟩) k k, .slice none 0 0, .slice (some ⟨bf, 0, none⟩) k2 k2, .pointer none, .slice none 0 0] 45)).heap.size := by simp
            generalize hWp : (wc.alloc (.cells #[.pointer none, .slice (some ⟨bn, 0, none⟩) k k, .slice none 0 0, .slice (some ⟨bf, 0, none⟩) k2 k2, .pointer none, .slice none 0 0] 45)) = Wp at *
            refine (done_any (n := 0) (xs := []) hSep hsz hSt0 (World.ownsRow_nil _ _ _ _) hcm hm (fun i hi => Nat.mod_lt _ hm0) (Nat.le_refl _) hnf (Nat.le_refl _) hd' (fun i hi => by have := (hin i hi).lnr; show ((inp i).ln : Int) < _; omega)).mono ?_
            rintro e w2 ⟨rfl, hv', hSt, hKp⟩
            rw [HRd.out] at hSt
            obtain ⟨hFin, hBfin⟩ := fin_start (inp := inp) hord hbn hin (fun i => by rw [← Hdd.out]; exact ⟨rfl, rfl⟩) hfr hF hBg hK3 hBc hWp.symm hMd hSt hKp
            clear hSt hKp hSt0 hSep hWp hMd hK3 hF hBf hBg hBwe hNodeE hznE hMg hNode Hdd HRd hd'
            generalize wc.heap.size = bp at *
            have g1 := hFin.p1
            have g3 := hFin.p3
            go_wp2
            go_loopw [26] (fun i wr => ∃ j : Nat, j ≤ k ∧ i = .int .i64 j ∧ SameH w2 wr) (fun i _ => k - (intOf i).toNat)
            case atStart => exact ⟨0, Nat.zero_le _, rfl, SameH.refl _⟩
            case round =>
              clear g1 g3
              obtain ⟨j, hj, rfl, hSm⟩ := hrel
              by_cases hlt4 : j < k
              · have hlt4I : (j : Int) < k := by omega
                have a1 := (hSm.cell _).trans hFin.p1
                have a2 := (hSm.cell _).trans (hFin.nl j hlt4)
                have a3 := (hSm.cell _).trans (hFin.ns j hlt4)
                have a4 := (hSm.cell _).trans (hFin.nx j hlt4)
                have a5 := (hSm.cell _).trans (hFin.nt j hlt4)
                have a6 := (hSm.cell _).trans (hFin.nr j hlt4)
                have a7 := (hSm.cell _).trans (hFin.l j hlt4)
                have a8 := (hSm.cell _).trans (hFin.s j hlt4)
                have a9 := (hSm.cell _).trans (hFin.x j hlt4)
                have a10 := (hSm.cell _).trans (hFin.it j hlt4)
                have a11 := (hSm.cell _).trans (hFin.ir j hlt4)
                generalize R.L j = v1 at *
                generalize R.S j = v2 at *
                generalize R.X j = v3 at *
                generalize (inp j).tg = v4 at *
                generalize (inp j).raw = v5 at *
                have b1 : (v1 != v1) = false := by simp
                have b2 : (v2 != v2) = false := by simp
                have b3' : (v3 != v3) = false := by simp
                have b4 : ((v4 : Int) != (v4 : Int)) = false := by simp
                have b5 : (v5 != v5) = false := by simp
                as_aux_lemma =>
                  go_wp2_with fail
                  go_quiet (fail)
                  go_wp2_with fail
                  go_quiet (fail)
                  go_wp2
                  go_roundw
                  case rel => exact ⟨j + 1, by omega, by go_num, by first | exact (hSm.drewN _).drewN _ | exact hSm.drewN _ | exact ⟨hSm.heap, hSm.os, hSm.tape, hSm.output⟩⟩
                  case measure => simp [intOf]; omega
              · have hjk : j = k := by omega
                subst hjk
                generalize wr = w3' at *
                go_wp2
                go_loopw [27] (fun i wr => ∃ j' : Nat, j' ≤ R.o ∧ i = .int .i64 j' ∧ SameH w2 wr) (fun i _ => R.o - (intOf i).toNat)
                case atStart => exact ⟨0, Nat.zero_le _, rfl, hSm⟩
                case round =>
                  clear hSm
                  obtain ⟨j', hj', rfl, hSm⟩ := hrel
                  by_cases hlt5 : j' < R.o
                  · have hlt5I : (j' : Int) < R.o := by omega
                    have hfa2 := hfa (by omega)
                    subst hfa2
                    have hlt6 : j' < k2 := by omega
                    have hlt6I : (j' : Int) < k2 := by omega
                    have a1 := (hSm.cell _).trans hFin.p3
                    have a2 := (hSm.cell _).trans (hFin.f0 j' hlt6)
                    have a3 := (hSm.cell _).trans (hFin.f2 j' hlt6)
                    have a4 := (hSm.cell _).trans (hFin.q j' hlt6)
                    have a5 := (hSm.cell _).trans (hFin.fe j' hlt6)
                    generalize fi j' % j = v1 at *
                    generalize ex j' = v2 at *
                    have b1 : ((v1 : Int) != (v1 : Int)) = false := by simp
                    have b2 : (v2 != v2) = false := by simp
                    as_aux_lemma =>
                      go_wp2_with fail
                      go_quiet (fail)
                      go_wp2
                      go_roundw
                      case rel => exact ⟨j' + 1, by omega, by go_num, by first | exact hSm.drewN _ | exact ⟨hSm.heap, hSm.os, hSm.tape, hSm.output⟩⟩
                      case measure => simp [intOf]; omega
                  · have hjR : ¬ ((j' : Int) < R.o) := by omega
                    go_wp2
                    go_ret
                    exact ⟨rfl, hBfin.trans (hSm.below _)⟩
          case first =>
            go_wp2
            go_loopg [19, 20, 21] k2 (fun gk v19 v20 v21 wr => Rel3 wg.heap.size bl bs bx k k2 d (fun i => fi i % k) ex wg R gk v19 v20 v21 wr)
            case atStart => exact ⟨sel % k, _, _, _, rfl, by go_num, by go_num, Nat.le_refl _, Nat.mod_lt _ hm0, ⟨hMg.zl, hMg.zs, hMg.zx, hMg.len, hMg.S, hMg.X⟩, Kept3.refl _, HRd.out, fun i hi => by have := (hin i hi).lnr; show ((inp i).ln : Int) < _; omega, Nat.le_refl _⟩
            case round =>
              clear hMg HRd
              obtain ⟨cu, L, S, X, rfl, rfl, rfl, hgk, hcu, hMd, hK, hR, hL, hBr⟩ := hrel
              have HR : Hid (run k d (fun i => fi i % k) ex gk cu L S X = R) := hR
              clear hR
              have hstep : (k2 : Int) - gk ≤ k2 := by omega
              have hcuI : (cu : Int) < k := by omega
              obtain ⟨hrg, hstA⟩ := hNode cu hcu
              obtain ⟨ao, cp, hst⟩ := hstA.is
              have hbnB : bn < wg.heap.size := by omega
              have hrg' : wr.rangeAt bn (cu * 15) (nodeCells (d cu) ((inp cu).ln : Int)) := fun j v hv => (hK.cell hbnB (by omega) (by omega) (by omega)).trans (hrg j v hv)
              clear hrg hstA
              have hdk := hd' cu hcu
              go_wp2_with (first | (refine wpList_load_mid rfl 34 (.tmp 149) rfl bn (cu * 15) rfl (nodeCells (d cu) ((inp cu).ln : Int)) _ hrg' Yba.underlying34 rfl Yba.size34 ?_) | (refine wpList_store_stop rfl 34 (.tmp 22) (.tmp 150) rfl wr.heap.size 0 _ rfl rfl ?_ ?_ ?_ ?_; (exact there_new _ _ _ _ rfl); (exact Yba.size34); (simp [nodeCells, hst, Value.oneCell'])))
              intro W5 hW5
              obtain ⟨hB5, hR5, hlt5⟩ := new_struct hW5 rfl
              have hMd5 := hMd.below (B := wr.heap.size) (by omega) hB5
              have hK5 := hK.below (hB5.mono hBr)
              have hBr5 : wg.heap.size ≤ W5.heap.size := by omega
              have e1 := hR5 1 _ rfl
              have e5 := hR5 5 _ rfl
              have e11 := hR5 11 _ rfl
              have e12 := hR5 12 _ rfl
              have e13 : W5.cell? ⟨wr.heap.size, 0 + 13, none⟩ = some (.slice ao (d cu).sl cp) := by rw [← hst]; exact hR5 13 _ rfl
              have hlc := hMd5.l cu hcu
              simp only [Nat.zero_add] at e1 e5 e11 e12 e13
              have hHne : bl ≠ wr.heap.size ∧ bs ≠ wr.heap.size ∧ bx ≠ wr.heap.size ∧ bq ≠ wr.heap.size ∧ wg.heap.size ≤ wr.heap.size := by omega
              clear hMd hK hBr hB5 hR5 hW5 hrg' hlt5 hst
              generalize wr.heap.size = Hn at *
              obtain ⟨n1, n2, n3, n4, n5⟩ := hHne
              obtain ⟨d1, d2, d3⟩ := hdk
              have hLc := hL cu hcu
              generalize hLcu : L cu = Lc at *
              have HL : Hid (L cu = Lc) := hLcu
              clear hLcu
              generalize hdc : d cu = dc at *
              have HD : Hid (d cu = dc) := hdc
              clear hdc
              go_wp2
              go_region_held3 (fun w' => w'.cell? ⟨Hn, 1, none⟩ = some (.int .u64 dc.tg) ∧ w'.cell? ⟨Hn, 5, none⟩ = some (.bool dc.raw) ∧ w'.cell? ⟨Hn, 11, none⟩ = some (.int .u8 dc.f) ∧ w'.cell? ⟨Hn, 12, none⟩ = some (.int .i64 dc.lo) ∧ w'.cell? ⟨Hn, 13, none⟩ = some (.slice ao dc.sl cp) ∧ w'.cell? ⟨bl, cu, none⟩ = some (.int .i64 Lc)) (go_keep)
                ((go_at_call 4; refine (hdr_any dc.raw dc.tg dc.f Lc dc.lo dc.sl _ d1 hLc d2 d3).mono ?_; rintro e w' ⟨rfl, rfl⟩))
              have hMd6 := hMd5.below (B := Hn) (by omega) (Below.refl Hn W5).drew
              have hK6 := hK5.below (Below.refl _ W5).drew
              have hBr6 : wg.heap.size ≤ W5.drew.heap.size := hBr5
              have e11' : W5.drew.cell? ⟨Hn, 11, none⟩ = some (.int .u8 dc.f) := e11
              clear hMd5 hK5 hBr5 e1 e5 e11 e12 e13 hlc
              generalize W5.drew = W6 at *
              generalize hsz : IntKind.i64.wrap ((hdrLen dc.raw dc.tg dc.f Lc dc.lo dc.sl : Nat) + Lc) = sz at *
              have Hsz : Hid (wrap64 ((dc.hdr Lc : Nat) + Lc) = sz) := by rw [← hsz]; exact (IntWalk.i64_left _).symm
              clear hsz
              have hs0 := hMd6.s cu hcu
              have hx0 := hMd6.x cu hcu
              have zs0 := hMd6.zs cu
              have zx0 := hMd6.zx cu
              have m1 := (show bs ≠ bx by omega)
              have m2 := (show bx ≠ bs by omega)
              have m3 := (show bl ≠ bx by omega)
              have m4 := (show bl ≠ bs by omega)
              have m5 := (show bx ≠ bl by omega)
              have m6 := (show bs ≠ bl by omega)
              have m7 := (show bs ≠ bq by omega)
              have m8 := (show bx ≠ bq by omega)
              rcases gk with _ | o'
              · have FIN : ∀ s2, sizeOf' dc Lc = s2 → Out3 wg.heap.size bl bs bx k k2 wg R (.int .i64 0) ((W6.setCell ⟨bs, cu, none⟩ (.int .i64 s2)).setCell ⟨bx, cu, none⟩ (.int .i64 k)) := fun s2 h2 => by
                  obtain ⟨r1, r2, r3, r4⟩ := run_0 HR.out (show sizeOf' (d cu) (L cu) = s2 by rw [HD.out, HL.out]; exact h2)
                  refine ⟨by rw [r4]; rfl, by omega, ?_, (hK6.setS _ _).setX _ _, by simpa using hBr6⟩
                  rw [r1, r2, r3]
                  exact (hMd6.setS ⟨o2, o3⟩ hcu s2).setX ⟨o2, o3⟩ hcu k
                by_cases hf : dc.f = 1
                · have hfI : ((dc.f : Int) == 1) = true := by simp [hf]
                  have F1 : Hid (Out3 wg.heap.size bl bs bx k k2 wg R (.int .i64 0) ((W6.setCell ⟨bs, cu, none⟩ (.int .i64 (wrap64 (sz + 2)))).setCell ⟨bx, cu, none⟩ (.int .i64 k))) := FIN _ (size_1 hf Hsz.out)
                  clear FIN
                  as_aux_lemma =>
                    go_wp2
                    go_meet
                    case rel => exact F1.out
                · have hfI : ((dc.f : Int) == 1) = false := by simp; omega
                  have F1 : Hid (Out3 wg.heap.size bl bs bx k k2 wg R (.int .i64 0) ((W6.setCell ⟨bs, cu, none⟩ (.int .i64 sz)).setCell ⟨bx, cu, none⟩ (.int .i64 k))) := FIN _ (size_n hf Hsz.out)
                  clear FIN
                  as_aux_lemma =>
                    go_wp2
                    go_meet
                    case rel => exact F1.out
              · have hfa2 := hfa (by omega)
                subst hfa2
                have ho' : o' < k2 := by omega
                have hq := (hK6.cell (b := bq) (j := o') (by omega) (by omega) (by omega) (by omega)).trans (hF.q o' ho')
                obtain ⟨q0, q1⟩ := hfr o' ho'
                have hfb := World.block_lt_of_cell? w _ q1
                simp only at hfb
                have q1' : W6.cell? ⟨fb, foff + o' * 2 + 1, none⟩ = some (.bool (ex o')) := by
                  rw [hK6.cell (b := fb) (by omega) (by omega) (by omega) (by omega), hBg.cell (p := ⟨fb, foff + o' * 2 + 1, none⟩) (by show fb < bn; omega)]; exact q1
                have hfv : fi o' % k < k := Nat.mod_lt _ (by omega)
                generalize hfv0 : fi o' % k = fv at *
                have HFV : Hid (fi o' % k = fv) := hfv0
                have hlf := hMd6.l fv hfv
                generalize hlf0 : L fv = Lf at *
                have HLF : Hid (L fv = Lf) := hlf0
                have zl0 := hMd6.zl fv
                have hfvI : (fv : Int) < k := by omega
                have hoI : (0 : Int) ≤ (o' : Int) := by omega
                have hoI2 : (o' : Int) < k2 := by omega
                have m9 := (show fb ≠ bs ∧ fb ≠ bx ∧ fb ≠ bl ∧ bs ≠ fb ∧ bx ≠ fb ∧ bl ≠ fb by omega)
                obtain ⟨m10, m11, m12, m13, m14, m15⟩ := m9
                have m16 := (show bl ≠ bq by omega)
                clear q0 q1 hfv0 hlf0
                by_cases hf : dc.f = 1
                · have hfI : ((dc.f : Int) == 1) = true := by simp [hf]
                  have hS2 : Hid (sizeOf' (d cu) (L cu) = (wrap64 (sz + 2))) := by rw [HD.out, HL.out]; exact size_1 hf Hsz.out
                  cases hex : ex o'
                  · rw [hex] at q1'
                    obtain ⟨r1, r2, r3, r4⟩ := run_s HR.out hS2.out hex
                    rw [HFV.out, HLF.out] at r1
                    have F1 : Hid (Out3 wg.heap.size bl bs bx k k2 wg R (.int .i64 ((o' + 1 : Nat) : Int)) (((W6.setCell ⟨bs, cu, none⟩ (.int .i64 (wrap64 (sz + 2)))).setCell ⟨bx, cu, none⟩ (.int .i64 k)).setCell ⟨bl, fv, none⟩ (.int .i64 (wrap64 (Lf + (wrap64 (sz + 2))))))) := by
                      refine ⟨by rw [r4], by omega, ?_, ((hK6.setS _ _).setX _ _).setL _ _, by simpa using hBr6⟩
                      rw [r1, r2, r3]
                      exact ((hMd6.setS ⟨o2, o3⟩ hcu _).setX ⟨o2, o3⟩ hcu k).setL ⟨o2, o3⟩ hfv _
                    clear r1 r2 r3 r4 hex hMd6 hK6
                    as_aux_lemma =>
                      go_wp2
                      go_meet
                      case rel => exact F1.out
                  · rw [hex] at q1'
                    have hrun := run_e HR.out hS2.out hex
                    simp only [HFV.out, HLF.out] at hrun
                    have F1 : Hid (Rel3 wg.heap.size bl bs bx k k2 d (fun i => fi i % k) ex wg R o' (.int .i64 (o' : Nat)) (.int .i64 (fv : Nat)) (.int .i64 ((k2 : Int) - o')) (((W6.setCell ⟨bs, cu, none⟩ (.int .i64 (wrap64 (sz + 2)))).setCell ⟨bx, cu, none⟩ (.int .i64 k)).setCell ⟨bl, fv, none⟩ (.int .i64 (wrap64 (Lf + (wrap64 (sz + 2))))))) :=
                      ⟨fv, _, _, _, rfl, rfl, rfl, by omega, hfv, ((hMd6.setS ⟨o2, o3⟩ hcu _).setX ⟨o2, o3⟩ hcu k).setL ⟨o2, o3⟩ hfv _, ((hK6.setS _ _).setX _ _).setL _ _, hrun, hL_upd hL, by simpa using hBr6⟩
                    clear hrun hex hMd6 hK6
                    as_aux_lemma =>
                      go_wp2
                      go_roundg o'
                      case measure => omega
                      case rel =>
                        have e : ((k2 : Int) - ((o' + 1 : Nat) : Int) + 1) = (k2 : Int) - o' := by omega
                        first | exact F1.out | (rw [← e] at F1; exact F1.out) | (have F2 := F1.out; simp only [Int.natCast_add, Int.natCast_one] at e; rw [← e] at F2; exact F2)
                · have hfI : ((dc.f : Int) == 1) = false := by simp; omega
                  have hS2 : Hid (sizeOf' (d cu) (L cu) = sz) := by rw [HD.out, HL.out]; exact size_n hf Hsz.out
                  cases hex : ex o'
                  · rw [hex] at q1'
                    obtain ⟨r1, r2, r3, r4⟩ := run_s HR.out hS2.out hex
                    rw [HFV.out, HLF.out] at r1
                    have F1 : Hid (Out3 wg.heap.size bl bs bx k k2 wg R (.int .i64 ((o' + 1 : Nat) : Int)) (((W6.setCell ⟨bs, cu, none⟩ (.int .i64 sz)).setCell ⟨bx, cu, none⟩ (.int .i64 k)).setCell ⟨bl, fv, none⟩ (.int .i64 (wrap64 (Lf + sz))))) := by
                      refine ⟨by rw [r4], by omega, ?_, ((hK6.setS _ _).setX _ _).setL _ _, by simpa using hBr6⟩
                      rw [r1, r2, r3]
                      exact ((hMd6.setS ⟨o2, o3⟩ hcu _).setX ⟨o2, o3⟩ hcu k).setL ⟨o2, o3⟩ hfv _
                    clear r1 r2 r3 r4 hex hMd6 hK6
                    as_aux_lemma =>
                      go_wp2
                      go_meet
                      case rel => exact F1.out
                  · rw [hex] at q1'
                    have hrun := run_e HR.out hS2.out hex
                    simp only [HFV.out, HLF.out] at hrun
                    have F1 : Hid (Rel3 wg.heap.size bl bs bx k k2 d (fun i => fi i % k) ex wg R o' (.int .i64 (o' : Nat)) (.int .i64 (fv : Nat)) (.int .i64 ((k2 : Int) - o')) (((W6.setCell ⟨bs, cu, none⟩ (.int .i64 sz)).setCell ⟨bx, cu, none⟩ (.int .i64 k)).setCell ⟨bl, fv, none⟩ (.int .i64 (wrap64 (Lf + sz))))) :=
                      ⟨fv, _, _, _, rfl, rfl, rfl, by omega, hfv, ((hMd6.setS ⟨o2, o3⟩ hcu _).setX ⟨o2, o3⟩ hcu k).setL ⟨o2, o3⟩ hfv _, ((hK6.setS _ _).setX _ _).setL _ _, hrun, hL_upd hL, by simpa using hBr6⟩
                    clear hrun hex hMd6 hK6
                    as_aux_lemma =>
                      go_wp2
                      go_roundg o'
                      case measure => omega
                      case rel =>
                        have e : ((k2 : Int) - ((o' + 1 : Nat) : Int) + 1) = (k2 : Int) - o' := by omega
                        first | exact F1.out | (rw [← e] at F1; exact F1.out) | (have F2 := F1.out; simp only [Int.natCast_add, Int.natCast_one] at e; rw [← e] at F2; exact F2)
end Go.Proofs.Ybulkavza
