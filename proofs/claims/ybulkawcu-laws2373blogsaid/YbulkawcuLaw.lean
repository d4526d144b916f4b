/-
  THE LAW's OWN WALK (3).
-/
import Derived.Test.YbulkawcuLast
namespace Go.Proofs.Ybulkawcu
open Go.RowKit

set_option maxHeartbeats 4000000 in
set_option maxRecDepth 100000 in
theorem law_any {w : World} {n cap t : Nat} {ao : Option Addr} {inp : Nat → SIn} (ht : t < 256) (hn : n ≤ 256) (hin : n = 0 ∨ ∃ b o, ao = some ⟨b, o, none⟩ ∧ ∀ i, i < n → SInAt w b (o + i * 2) (inp i)) :
    Calls Yba.prog 3 #[.slice ao n cap, .int .u8 t] w fun e w' => e = .returned (.bool true) ∧ Below w.heap.size w w' := by
  have h256 : ¬ ((256 : Int) < n) := by omega
  have HI := (show Hid _ from hin)
  clear hin
  go_enter Yba.func3, Yba.ntmps3
  go_wp2_with fail
  go_loopg [5, 36] n (fun g x v wr => ∃ k : Nat, k ≤ n ∧ v = .int .i64 k ∧ g = n - k ∧ x = .int .i64 (total inp k) ∧ total inp k ≤ 1024 ∧ Below w.heap.size w wr)
  case atStart => exact ⟨0, by omega, rfl, rfl, rfl, by simp [total], Below.refl _ _⟩
  case round =>
    obtain ⟨k, hk, rfl, hg, rfl, htk, hB⟩ := hrel
    by_cases hlt : k < n
    · rcases HI.out with h0 | ⟨b, o, rfl, hin⟩
      · omega
      have hI := (hin k hlt).below hB (Nat.le_refl _)
      have c0 := hI.h0
      have c1 := hI.h1
      have hnr := hI.nfr
      have hkI : (k : Int) < n := by omega
      have hw : IntKind.i64.wrap ((total inp k : Int) + ((inp k).nf : Int)) = (total inp (k + 1) : Int) := by
        rw [IntWalk.i64_left]; unfold wrap64; simp only [total]; omega
      have HB := (show Hid _ from hB)
      clear hB hI hin
      by_cases hb : total inp (k + 1) ≤ 1024
      · have hbI : ¬ ((1024 : Int) < (total inp (k + 1) : Int)) := by omega
        generalize hT : total inp (k + 1) = T at *
        have HT := (show Hid _ from hT)
        clear hT
        go_wp2_with fail
        go_roundg (n - (k + 1))
        case measure => omega
        case rel => exact ⟨k + 1, by omega, by simp, rfl, by rw [HT.out], by rw [HT.out]; omega, HB.out.alloc HB.out.size _⟩
      · have hbI : (1024 : Int) < (total inp (k + 1) : Int) := by omega
        generalize total inp (k + 1) = T at *
        go_wp2_with fail
        exact bodyPost_ret (results_tmp rfl _ _ _) rfl ⟨rfl, HB.out.alloc HB.out.size _⟩
    · rcases (show k = n by omega) with rfl
      have hge : ¬ ((k : Int) < k) := by omega
      have hmk := run_make_row' (P := Yba.prog) 26 27 (.pointer none) 8 Yba.underlying26 Yba.info27 rfl .i64 .i64 k (by omega) (by omega)
      have HS := (show Hid _ from StB.begins (n := k) (inp := inp) hB)
      have hR0 := hB.size
      have HO := (show Hid _ from spOf_ok hn htk)
      clear hB
      obtain ⟨wA, hwA⟩ : ∃ x, x = wr := ⟨wr, rfl⟩
      subst hwA
      go_wp2_with fail
      go_loopg [53] k (fun g v wr => ∃ i : Nat, i ≤ k ∧ v = .int .i64 i ∧ g = k - i ∧ StB w wA.heap.size k i inp wr)
      case atStart => exact ⟨0, by omega, rfl, rfl, HS.out⟩
      case round =>
        clear HS hmk
        obtain ⟨i, hi, rfl, hg1, hS⟩ := hrel
        by_cases hil : i < k
        · rcases HI.out with h0 | ⟨b, o, rfl, hin⟩
          · omega
          have hI := (hin i hil).below hS.bel (Nat.le_refl _)
          have c0 := hI.h0
          have hiI : (i : Int) < k := by omega
          have hsz := hS.size
          have hrc : ∀ o, (wr.alloc o).cell? ⟨wA.heap.size, i, none⟩ = some (.pointer none) := fun o => by simpa using (hS.row.alloc o).cell hil
          have hrf : ∀ o, (wr.alloc o).frozen? ⟨wA.heap.size, i, none⟩ = false := fun o => (hS.row.alloc o).frozen i
          have HS := (show Hid _ from hS.grow)
          clear hS hI hin
          go_wp2_with fail
          go_roundg (k - (i + 1))
          case measure => omega
          case rel => exact ⟨i + 1, by omega, by simp, rfl, HS.out⟩
        · rcases (show i = k by omega) with rfl
          have hiI : ¬ ((i : Int) < i) := by omega
          have HC := (show Hid _ from hS.whole)
          clear hS
          go_wp2_with fail
          generalize wA.heap.size = R0 at *
          clear hge hil hi hlt hk hiI
          obtain ⟨wB, hwB⟩ : ∃ x, x = wr := ⟨wr, rfl⟩
          subst hwB
          go_loopg [69] i (fun g v wr => ∃ k : Nat, k ≤ i ∧ v = .int .i64 k ∧ g = i - k ∧ ∃ fb fv, StC w R0 k (spOf i inp) fb fv wr)
          case atStart => exact ⟨0, by omega, rfl, rfl, _, _, HC.out⟩
          case round =>
            clear HC
            obtain ⟨k, hk, rfl, hg2, fb, fv, hC⟩ := hrel
            by_cases hkl : k < i
            · rcases HI.out with h0 | ⟨b, o, rfl, hin⟩
              · omega
              have hI := (hin k hkl).below hC.bel (Nat.le_refl _)
              have c0 := hI.h0
              have c1 := hI.h1
              have hnf : (inp k).nf ≤ 1024 := HO.out.nf1024 k hkl
              have hmk := make43 (inp k).nf (by omega)
              have hkI : (k : Int) < i := by omega
              have HC := (show Hid _ from hC)
              clear hC hin hI
              go_wp2_with fail
              have HD := (show Hid _ from StD.begins (wr.alloc (.cells #[.bool (inp k).un, .slice (inp k).sa (inp k).nf (inp k).sc] 25)) (R0 + 1) k (inp k).nf (spOf i inp) (by omega))
              have HC1 := (show Hid _ from HC.out.below ((Below.refl _ _).alloc (Nat.le_refl _) (.cells #[.bool (inp k).un, .slice (inp k).sa (inp k).nf (inp k).sc] 25)))
              have hsz : (wr.alloc (.cells #[.bool (inp k).un, .slice (inp k).sa (inp k).nf (inp k).sc] 25)).heap.size = wr.heap.size + 1 := by simp
              generalize wr.alloc (.cells #[.bool (inp k).un, .slice (inp k).sa (inp k).nf (inp k).sc] 25) = Wc at *
              clear HC c0 c1 hmk
              go_loopg [12, 81] (inp k).nf (fun g x v wr => ∃ j : Nat, j ≤ (inp k).nf ∧ v = .int .i64 j ∧ g = (inp k).nf - j ∧ ∃ f, StD Wc (R0 + 1) k j (spOf i inp) f x wr)
              case atStart => exact ⟨0, by omega, rfl, rfl, _, by rw [← hsz]; exact HD.out⟩
              case round =>
                clear HD hsz
                obtain ⟨wD, hwD⟩ : ∃ x, x = wr := ⟨wr, rfl⟩
                subst hwD
                obtain ⟨j, hj, rfl, hg3, f, hD⟩ := hrel
                by_cases hjl : j < (inp k).nf
                · rcases HI.out with h0 | ⟨b1, o1, heq, hin⟩
                  · omega
                  cases heq
                  have hI := (hin k hkl)
                  rcases hI.fs with h0 | ⟨fb1, fo1, hsa, hfs⟩
                  · omega
                  have hF := (hfs j hjl).below (HC1.out.bel.trans (hD.bel.mono HC1.out.bel.size)) (Nat.le_refl _)
                  have c0 := hF.h0
                  have c1 := hF.h1
                  have c2 := hF.h2
                  have c3 := hF.h3
                  obtain ⟨ao12, cp12, rfl⟩ := own_form hD.own
                  have hjI : (j : Int) < (inp k).nf := by omega
                  rw [hsa]
                  have HSA := (show Hid _ from hsa)
                  have r0 := hF.r0
                  have r1 := hF.r1
                  have r2 := hF.r2
                  have Hh := (show Hid ((spOf i inp).hd k j = if ((inp k).fi j).hh && decide (0 < k) then some (((inp k).fi j).hd % k) else none) from rfl)
                  have Ht := (show Hid ((spOf i inp).tg k j = ((((inp k).fi j).tg % 8 : Nat) : Int)) from rfl)
                  have hrow : ∀ m, m < i → ∀ o1 o2, ((wD.alloc o1).alloc o2).cell? ⟨R0, m, none⟩ = some (.pointer (some ⟨R0 + 1 + m, 0, none⟩)) := fun m hm o1 o2 => ((((HC1.out.below hD.bel).row).alloc o1).alloc o2).cell hm
                  have HD := (show Hid _ from hD)
                  clear hD hF hfs hI hin hsa
                  generalize ((inp k).fi j).dp = dp at *
                  generalize ((inp k).fi j).tg = tg at *
                  generalize ((inp k).fi j).hd = hd at *
                  generalize ((inp k).fi j).hh = hh at *
                  have hcase : (hh = true ∧ 0 < k) ∨ (hh = true ∧ k = 0) ∨ hh = false := by cases hh <;> simp; omega
                  rcases hcase with hc | hc | hc
                  all_goals
                    first
                      | (obtain ⟨rfl, hk0⟩ := hc
                         have hk0I : (0 : Int) < k := by omega
                         have htm : (hd : Int).tmod k = ((hd % k : Nat) : Int) := by rw [Int.tmod_eq_emod_of_nonneg (by omega)]; simp
                         have hm := Nat.mod_lt hd hk0
                         have hrm := hrow (hd % k) (by omega)
                         simp only [hk0, decide_true, Bool.and_true, if_true] at Hh
                         generalize hd % k = m at *
                         have hmI : (m : Int) < i := by omega
                         clear hrow
                         go_wp2_with fail
                         have hL := (leaf_laid wD dp (.int .u8 tg) (.int .u8 hd) (.bool true) (some ⟨R0 + 1 + m, 0, none⟩) ((tg : Int) % 8)).said (h' := ((spOf i inp).hd k j).map (ad (R0 + 1))) (l' := (spOf i inp).tg k j) (by rw [Hh.out]; rfl) (by rw [Ht.out]; omega)
                         revert hL
                         generalize (wD.alloc (.cells #[.int .u8 dp, .int .u8 tg, .int .u8 hd, .bool true] 34)).alloc (.cells #[.int .i64 13, .pointer none, .pointer none, .pointer none, .pointer none, .pointer (some ⟨R0 + 1 + m, 0, none⟩), .int .i64 ((tg : Int) % 8), .pointer none] 42) = W5
                         intro hL
                         clear hrm htm hm hmI hk0I hk0)
                      | (obtain ⟨rfl, hk0⟩ := hc
                         have hk0I : ¬ (0 : Int) < k := by omega
                         have hk0' : ¬ 0 < k := by omega
                         simp only [hk0', decide_false, Bool.and_false, Bool.false_eq_true, if_false] at Hh
                         clear hrow hk0 hk0'
                         go_wp2_with fail
                         have hL := (leaf_laid wD dp (.int .u8 tg) (.int .u8 hd) (.bool true) none ((tg : Int) % 8)).said (h' := ((spOf i inp).hd k j).map (ad (R0 + 1))) (l' := (spOf i inp).tg k j) (by rw [Hh.out]; rfl) (by rw [Ht.out]; omega)
                         revert hL
                         generalize (wD.alloc (.cells #[.int .u8 dp, .int .u8 tg, .int .u8 hd, .bool true] 34)).alloc (.cells #[.int .i64 13, .pointer none, .pointer none, .pointer none, .pointer none, .pointer none, .int .i64 ((tg : Int) % 8), .pointer none] 42) = W5
                         intro hL
                         clear hk0I)
                      | (subst hc
                         simp only [Bool.false_and, Bool.false_eq_true, if_false] at Hh
                         clear hrow
                         go_wp2_with fail
                         have hL := (leaf_laid wD dp (.int .u8 tg) (.int .u8 hd) (.bool false) none ((tg : Int) % 8)).said (h' := ((spOf i inp).hd k j).map (ad (R0 + 1))) (l' := (spOf i inp).tg k j) (by rw [Hh.out]; rfl) (by rw [Ht.out]; omega)
                         revert hL
                         generalize (wD.alloc (.cells #[.int .u8 dp, .int .u8 tg, .int .u8 hd, .bool false] 34)).alloc (.cells #[.int .i64 13, .pointer none, .pointer none, .pointer none, .pointer none, .pointer none, .int .i64 ((tg : Int) % 8), .pointer none] 42) = W5
                         intro hL)
                  all_goals
                    clear c0 c1 c2 c3 Hh Ht r1 r2
                    have HL := (show Hid _ from hL)
                    have hs5 := hL.size
                    have hT := hL.ty
                    clear hL
                    have c5 := HL.out.c0
                    have hqI : ((dp : Int) % 4) = ((dp % 4 : Nat) : Int) := by omega
                    have hq4 : dp % 4 < 4 := by omega
                    generalize dp % 4 = q at hqI hq4
                    go_loopg [16, 17] q (fun g x v wq => ∃ d b5 : Nat, d ≤ q ∧ v = .int .i64 d ∧ g = q - d ∧ x = .pointer (some ⟨b5, 0, none⟩) ∧ TyAt wq wq.heap.size (((spOf i inp).hd k j).map (ad (R0 + 1))) ((spOf i inp).tg k j) d b5 ∧ Below W5.heap.size W5 wq)
                    case atStart => exact ⟨0, _, by omega, rfl, rfl, rfl, hT, Below.refl _ _⟩
                    case round =>
                      clear hT
                      obtain ⟨d, b5, hd4, rfl, hg4, rfl, hT, hB5⟩ := hrel
                      by_cases hdl : d < q
                      · have c6 := (hB5.cell (p := ⟨wD.heap.size, 0, none⟩) (by rw [hs5]; show wD.heap.size < wD.heap.size + 2; omega)).trans c5
                        have hdI : (d : Int) < q := by omega
                        have HT := (show Hid _ from hT.around)
                        have HB5 := (show Hid _ from hB5.alloc hB5.size (.cells (tyCells 12 none 2 (some ⟨b5, 0, none⟩)) 42))
                        clear hT hB5
                        go_wp2_with fail
                        go_roundg (q - (d + 1))
                        case measure => omega
                        case rel => exact ⟨d + 1, _, by omega, by simp, rfl, rfl, HT.out, HB5.out⟩
                      · rcases (show d = q by omega) with rfl
                        have c6 := (hB5.cell (p := ⟨wD.heap.size, 0, none⟩) (by rw [hs5]; show wD.heap.size < wD.heap.size + 2; omega)).trans c5
                        have hdI : ¬ ((d : Int) < d) := by omega
                        have hBD := HL.out.bel.trans (hB5.mono (by rw [hs5]; omega))
                        have hown5 := own_below HD.out.own hBD
                        have hbs := HD.out.bel.size
                        have hbs2 := hBD.size
                        obtain ⟨i0, hi0, hz0, hz1, hz2⟩ := info_parts Yba.info43
                        have HT := (show Hid _ from hT)
                        have HBD := (show Hid _ from hBD)
                        clear hT hB5 hBD
                        go_wp2_with (at_builtin; refine wpList_append_lies _ rfl _ _ 30 rfl Wc.heap.size 43 i0 (.pointer none) 1 8 Yba.underlying30 hi0 hz0 hz1 hz2 rfl (by decide) _ _ _ rfl ((hown5.alloc _).alloc _) ⟨wr.heap.size + 1, 0, none⟩ 1 1 [.pointer (some ⟨wr.heap.size, 0, none⟩)] rfl rfl (news_two _ _ _ _) (one_ptr _) (by decide) (by unfold maxLen; omega) (by omega) (by simp; omega) (wr.heap.size + 2) (by simp) ?_)
                        intro g cap1 w1 hown1 hgrow hat hlt1
                        have HN := (show Hid _ from HD.out.grow HBD.out HT.out hgrow hown1)
                        clear hown1 hgrow hat hlt1
                        go_wp2_with fail
                        rw [← HSA.out]
                        go_roundg ((inp k).nf - (j + 1))
                        case measure => omega
                        case rel => exact ⟨j + 1, by omega, by simp, rfl, _, HN.out⟩
                · rcases (show j = (inp k).nf by omega) with rfl
                  have hjI : ¬ (((inp k).nf : Int) < (inp k).nf) := by omega
                  have hC := HC1.out.below hD.bel
                  have hrow : wD.cell? ⟨R0, k, none⟩ = some (.pointer (some ⟨R0 + 1 + k, 0, none⟩)) := hC.row.cell hkl
                  have hst := hC.st k hkl
                  have cst := cellAt hst 9
                  have fst : wD.frozen? ⟨R0 + 1 + k, 9, none⟩ = false := by simp [World.frozen?, hst]
                  simp [stCells] at cst
                  obtain ⟨ao12, cp12, rfl⟩ := own_form hD.own
                  have HN := (show Hid _ from StD.whole hkl HC1.out hD)
                  clear hD hC hst
                  go_wp2_with fail
                  go_roundg (i - (k + 1))
                  case measure => omega
                  case rel => exact ⟨k + 1, by omega, by simp, rfl, _, _, HN.out⟩
            · rcases (show k = i by omega) with rfl
              have hkI : ¬ ((k : Int) < k) := by omega
              have hmf : ∀ (fn : Fn) (first cap : Array Value) (w : World), (Instr.makeFunc fn first cap).run Yba.prog w = .ok (.func fn first cap) w := fun _ _ _ _ => rfl
              have HC := (show Hid _ from hC)
              have hcalls := copies_any HO.out (top_laid (S := spOf k inp) hC ((t : Int) % 8)).1 (top_laid (S := spOf k inp) hC ((t : Int) % 8)).2 (Nat.le_refl _) (WD_size _ _ _ _) (WD_blocks wr R0 k ((t : Int) % 8)).2.2.2.2.1 (WD_blocks wr R0 k ((t : Int) % 8)).2.2.2.2.2.1 (WD_blocks wr R0 k ((t : Int) % 8)).2.2.2.2.2.2
              have Hcalls := (show Hid _ from hcalls)
              have HBW := (show Hid _ from hC.bel.trans ((WD_below wr R0 k ((t : Int) % 8)).mono hC.bel.size))
              have hRw : w.heap.size ≤ wr.heap.size := hC.bel.size
              clear hC hkl hk hcalls HC
              go_wp2_with fail
              refine Calls.mono Hcalls.out ?_
              rintro e W6 ⟨bb, zs, base, rfl, hE, hL, hB6⟩
              have hB := HBW.out.trans (hB6.mono (by omega))
              clear Hcalls HBW hB6 hmf
              generalize wr.heap.size = H at *
              have cwt : W6.cell? ⟨H + 1 + 1 + 1 + 1, 0, none⟩ = some (.int .i64 ((t : Int) % 8)) := cellAt hL.want 0
              have hL6 := hL.size
              have hL7 := hL.lt
              generalize (t : Int) % 8 = wt at *
              have HE : Hid ((spOf k inp).End wt zs bb) := hE
              have HL := (show Hid _ from hL)
              have HB := (show Hid _ from hB)
              clear hE hL hB
              go_wp2_with fail
              go_loopg [26, 27, 28] k (fun g x r v wr => ∃ (i : Nat) (ys : List Int) (d : Bool), i ≤ k ∧ v = .int .i64 i ∧ g = k - i ∧ r = .bool d ∧ StE W6 ys x wr ∧ (spOf k inp).Mid wt i ys d)
              case atStart => exact ⟨0, [], false, by omega, rfl, rfl, rfl, StE.begins W6, .inl ⟨rfl, rfl, fun m hm => by omega⟩⟩
              case round =>
                obtain ⟨i, ys, d, hi, rfl, hg6, rfl, hS, hM⟩ := hrel
                obtain ⟨wF, hwF⟩ : ∃ x, x = wr := ⟨wr, rfl⟩
                subst hwF
                by_cases hil : i < k
                · have hiI : (i : Int) < k := by omega
                  rcases hM with ⟨rfl, rfl, hM⟩ | ⟨rfl, hM⟩
                  · rcases HI.out with h0 | ⟨b, o, rfl, hin⟩
                    · omega
                    have hI := (hin i hil).below (HB.out.trans (hS.bel.mono HB.out.size)) (Nat.le_refl _)
                    have c0 := hI.h0
                    have c1 := hI.h1
                    have HS := (show Hid _ from hS)
                    have HM := (show Hid _ from hM)
                    clear hin hS hM hI
                    have hnf : (inp i).nf ≤ 1024 := HO.out.nf1024 i hil
                    have Hu := (show Hid ((spOf k inp).un i = (inp i).un) from rfl)
                    generalize (inp i).un = un at *
                    cases un
                    · go_wp2_with fail
                      go_loopg [26, 27, 177] (inp i).nf (fun g x r v wr => ∃ j : Nat, j ≤ (inp i).nf ∧ v = .int .i64 j ∧ g = (inp i).nf - j ∧ r = .bool false ∧ StE W6 ((spOf k inp).logTo wt i ++ ((spOf k inp).tags i).take j) x wr ∧ ∀ m, m < j → ((spOf k inp).tags i)[m]? ≠ some wt)
                      case atStart => exact ⟨0, by omega, rfl, rfl, rfl, by simpa using HS.out, fun m hm => by omega⟩
                      case round =>
                        clear HS c0 c1
                        obtain ⟨j, hj, rfl, hg7, rfl, hS, hno⟩ := hrel
                        obtain ⟨wG, hwG⟩ : ∃ x, x = wr := ⟨wr, rfl⟩
                        subst hwG
                        by_cases hjl : j < (inp i).nf
                        · rcases HI.out with h0 | ⟨b1, o1, heq, hin⟩
                          · omega
                          cases heq
                          have hI := hin i hil
                          rcases hI.fs with h0 | ⟨fb1, fo1, hsa, hfs⟩
                          · omega
                          have hF := (hfs j hjl).below (HB.out.trans (hS.bel.mono HB.out.size)) (Nat.le_refl _)
                          have c0 := hF.h0
                          have c1 := hF.h1
                          have c2 := hF.h2
                          have c3 := hF.h3
                          have hjI : (j : Int) < (inp i).nf := by omega
                          have r1 := hF.r1
                          have hlen := Sp.row_len HO.out wt (show i < (spOf k inp).n from hil) (show j ≤ (spOf k inp).nf i from hj)
                          have Hn := (show Hid _ from hno)
                          have HT := (show Hid _ from Sp.tags_take (spOf k inp) i (show j < (spOf k inp).nf i from hjl))
                          have HG := (show Hid _ from Sp.tags_get (spOf k inp) i (show j < (spOf k inp).nf i from hjl))
                          have Ht := (show Hid ((spOf k inp).tg i j = ((((inp i).fi j).tg % 8 : Nat) : Int)) from rfl)
                          have hsz := hS.bel.size
                          rw [hsa]
                          have HSA := (show Hid _ from hsa)
                          clear hF hfs hI hin hsa hno
                          generalize hys : (spOf k inp).logTo wt i ++ ((spOf k inp).tags i).take j = ys at hS hlen
                          have Hys := (show Hid _ from hys)
                          clear hys
                          obtain ⟨ao26, cp26, rfl⟩ := own_form hS.own
                          generalize ((inp i).fi j).dp = dp at *
                          generalize ((inp i).fi j).tg = tg at *
                          generalize ((inp i).fi j).hd = hd at *
                          generalize ((inp i).fi j).hh = hh at *
                          obtain ⟨i0, hi0, hz0, hz1, hz2⟩ := info_parts Yba.info3
                          have hown := hS.own
                          have HS := (show Hid _ from hS)
                          clear hS
                          go_wp2_with (at_builtin; refine wpList_append_lies _ rfl _ _ 71 rfl W6.heap.size 3 i0 (.int .i64 0) 1 8 Yba.underlying71 hi0 hz0 hz1 hz2 rfl (by decide) _ _ _ rfl ((hown.alloc _).alloc _) ⟨wG.heap.size + 1, 0, none⟩ 1 1 [.int .i64 ((tg : Int) % 8)] rfl rfl (news_two _ _ _ _) (ints_oneCell .i64 [(tg : Int) % 8]) (by decide) (by unfold maxLen; omega) (by omega) (by simp; omega) (wG.heap.size + 2) (by simp) ?_)
                          intro g cap1 w1 hown1 hgrow hat hlt1
                          obtain ⟨hS1, hcp⟩ := HS.out.grow hgrow hown1
                          have cc := cellAt hcp 1
                          simp at cc
                          have cw1 := (hS1.bel.cell (p := ⟨H + 1 + 1 + 1 + 1, 0, none⟩) (by show H + 1 + 1 + 1 + 1 < W6.heap.size; omega)).trans cwt
                          have e : ys ++ [(tg : Int) % 8] = (spOf k inp).logTo wt i ++ ((spOf k inp).tags i).take (j + 1) := by rw [HT.out, ← List.append_assoc, Hys.out, Ht.out]; simp
                          rw [e] at hS1
                          have HS1 := (show Hid _ from hS1)
                          have Hl : Hid ((spOf k inp).tg i j = (tg : Int) % 8) := by show (spOf k inp).tg i j = (tg : Int) % 8; rw [Ht.out]; simp
                          clear hown1 hgrow hat hlt1 hS1 hcp e hown HS Hys HT Ht c0 c1 c2 c3
                          by_cases hw : (tg : Int) % 8 = wt
                          · have HM2 : Hid ((spOf k inp).Mid wt (i + 1) ((spOf k inp).logTo wt i ++ ((spOf k inp).tags i).take (j + 1)) true) := (Sp.mid_hit (show i < (spOf k inp).n from hil) Hu.out HM.out (HG.out.trans (by rw [Hl.out, hw])) Hn.out)
                            go_wp2_with fail
                            go_roundg (k - (i + 1))
                            case measure => omega
                            case rel => exact ⟨i + 1, _, true, by omega, by simp, rfl, rfl, HS1.out, HM2.out⟩
                          · have HN : Hid (∀ m, m < j + 1 → ((spOf k inp).tags i)[m]? ≠ some wt) := by
                              intro m hm
                              by_cases h : m = j
                              · subst h
                                rw [HG.out, Hl.out]
                                intro h2
                                exact hw (Option.some.inj h2)
                              · exact Hn.out m (by omega)
                            go_wp2_with fail
                            rw [← HSA.out]
                            go_roundg ((inp i).nf - (j + 1))
                            case measure => omega
                            case rel => exact ⟨j + 1, by omega, by simp, rfl, rfl, HS1.out, HN.out⟩
                        · rcases (show j = (inp i).nf by omega) with rfl
                          have hjI : ¬ (((inp i).nf : Int) < (inp i).nf) := by omega
                          have HM2 : Hid ((spOf k inp).Mid wt (i + 1) ((spOf k inp).logTo wt i ++ ((spOf k inp).tags i).take (inp i).nf) false) := Sp.mid_none Hu.out HM.out hno
                          have HS := (show Hid _ from hS)
                          clear hS hno
                          go_wp2_with fail
                          go_roundg (k - (i + 1))
                          case measure => omega
                          case rel => exact ⟨i + 1, _, false, by omega, by simp, rfl, rfl, HS.out, HM2.out⟩
                    · go_wp2_with fail
                      go_roundg (k - (i + 1))
                      case measure => omega
                      case rel => exact ⟨i + 1, _, false, by omega, by simp, rfl, rfl, HS.out, Sp.mid_union Hu.out HM.out⟩
                  · obtain ⟨rfl, rfl⟩ := Sp.End.one HE.out hM
                    clear hM
                    obtain ⟨vl, hlb, hlo⟩ := HL.out.log
                    have cb : wF.cell? ⟨H + 1 + 1 + 1 + 1 + 1 + 1, 0, none⟩ = some (.bool false) := (hS.bel.cell (p := ⟨H + 1 + 1 + 1 + 1 + 1 + 1, 0, none⟩) (by show H + 1 + 1 + 1 + 1 + 1 + 1 < W6.heap.size; omega)).trans (cellAt HL.out.bad 0)
                    have cl : wF.cell? ⟨H + 1 + 1 + 1 + 1 + 1, 0, none⟩ = some vl := (hS.bel.cell (p := ⟨H + 1 + 1 + 1 + 1 + 1, 0, none⟩) (by show H + 1 + 1 + 1 + 1 + 1 < W6.heap.size; omega)).trans (cellAt hlb 0)
                    obtain ⟨ao1, cp1, rfl⟩ := own_form hlo
                    obtain ⟨ao2, cp2, rfl⟩ := own_form hS.own
                    have hzl : zs.length ≤ 1048576 := Sp.End.len HO.out HE.out
                    have Hq := (show Hid _ from equal_any (own_ints (own_below hlo hS.bel)) (own_ints hS.own) hzl)
                    have HBf := (show Hid _ from HB.out.trans (hS.bel.mono HB.out.size))
                    clear hlb hlo hS
                    go_wp2_with fail
                    refine Calls.mono Hq.out ?_
                    rintro e w9 ⟨rfl, h9⟩
                    have HB9 := (show Hid _ from HBf.out.trans (h9.mono HBf.out.size))
                    clear h9 Hq
                    go_wp2_with fail
                    exact bodyPost_ret (results_tmp rfl _ _ _) rfl ⟨rfl, HB9.out⟩
                · rcases (show i = k by omega) with rfl
                  have hiI : ¬ ((i : Int) < i) := by omega
                  obtain ⟨rfl, rfl⟩ := Sp.End.one HE.out (Sp.Mid.ends hM)
                  clear hM
                  obtain ⟨vl, hlb, hlo⟩ := HL.out.log
                  have cb : wF.cell? ⟨H + 1 + 1 + 1 + 1 + 1 + 1, 0, none⟩ = some (.bool false) := (hS.bel.cell (p := ⟨H + 1 + 1 + 1 + 1 + 1 + 1, 0, none⟩) (by show H + 1 + 1 + 1 + 1 + 1 + 1 < W6.heap.size; omega)).trans (cellAt HL.out.bad 0)
                  have cl : wF.cell? ⟨H + 1 + 1 + 1 + 1 + 1, 0, none⟩ = some vl := (hS.bel.cell (p := ⟨H + 1 + 1 + 1 + 1 + 1, 0, none⟩) (by show H + 1 + 1 + 1 + 1 + 1 < W6.heap.size; omega)).trans (cellAt hlb 0)
                  obtain ⟨ao1, cp1, rfl⟩ := own_form hlo
                  obtain ⟨ao2, cp2, rfl⟩ := own_form hS.own
                  have hzl : zs.length ≤ 1048576 := Sp.End.len HO.out HE.out
                  have Hq := (show Hid _ from equal_any (own_ints (own_below hlo hS.bel)) (own_ints hS.own) hzl)
                  have HBf := (show Hid _ from HB.out.trans (hS.bel.mono HB.out.size))
                  clear hlb hlo hS
                  go_wp2_with fail
                  refine Calls.mono Hq.out ?_
                  rintro e w9 ⟨rfl, h9⟩
                  have HB9 := (show Hid _ from HBf.out.trans (h9.mono HBf.out.size))
                  clear h9 Hq
                  go_wp2_with fail
                  exact bodyPost_ret (results_tmp rfl _ _ _) rfl ⟨rfl, HB9.out⟩

set_option maxHeartbeats 4000000 in
set_option maxRecDepth 100000 in
theorem law_early (ao : Option Addr) (n cap : Nat) (t : Int) (w : World) (h : 256 < n) :
    Calls Yba.prog 3 #[.slice ao n cap, .int .u8 t] w fun e w' => e = .returned (.bool true) ∧ Below w.heap.size w w' := by
  have t1 : (256 : Int) < n := by omega
  go_enter Yba.func3, Yba.ntmps3
  go_wp2_with fail
  go_ret
  exact ⟨rfl, Below.refl _ _⟩
end Go.Proofs.Ybulkawcu
