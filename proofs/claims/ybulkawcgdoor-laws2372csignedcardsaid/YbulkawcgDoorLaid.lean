/-
  WHAT THE LISTED TABLE GIVES THE WALK: every look-up in it.
-/
import Derived.Test.YbulkawcgDoorLaw
import Derived.ProofKit
import Derived.LaidMore
import Derived.OpenShut
import Derived.Stop.Joined
namespace Go.Proofs.YbulkawcgDoor
open Go.ChangeShapes Go.WideShapes Go.ChangeAt Go.WideMaps Go.WideElems Go.RowKit

def liabL (l : List UInt8) : Bool := l == repoL || l == payL || l == othL

theorem same_str (a b : List UInt8) : (Lit.string a).sameKey (.string b) = (a == b) := by
  simp [Lit.sameKey]

theorem laid_at {H : Type} (l : List UInt8) :
    (liabL l = false ∧ (Rows.laid_example_com_parmark_parmark_pkg_fund_kindRules (H := H)).atKey (.string l) .nil = .nil) ∨
    ∃ t p a, (Rows.laid_example_com_parmark_parmark_pkg_fund_kindRules (H := H)).atKey (.string l) .nil = .agg [.lit (.bool (liabL l)), t, p, a] := by
  by_cases h0 : l = [99, 108, 101, 97, 114, 105, 110, 103, 45, 114, 101, 115, 101, 114, 118, 101]
  · subst h0; exact .inr ⟨_, _, _, rfl⟩
  by_cases h1 : l = [100, 101, 109, 97, 110, 100, 45, 100, 101, 112, 111, 115, 105, 116]
  · subst h1; exact .inr ⟨_, _, _, rfl⟩
  by_cases h2 : l = [109, 97, 114, 103, 105, 110]
  · subst h2; exact .inr ⟨_, _, _, rfl⟩
  by_cases h3 : l = [110, 111, 116, 105, 99, 101, 45, 100, 101, 112, 111, 115, 105, 116]
  · subst h3; exact .inr ⟨_, _, _, rfl⟩
  by_cases h4 : l = [111, 116, 104, 101, 114, 45, 97, 115, 115, 101, 116]
  · subst h4; exact .inr ⟨_, _, _, rfl⟩
  by_cases h5 : l = [111, 116, 104, 101, 114, 45, 108, 105, 97, 98, 105, 108, 105, 116, 121]
  · subst h5; exact .inr ⟨_, _, _, rfl⟩
  by_cases h6 : l = [114, 101, 112, 111]
  · subst h6; exact .inr ⟨_, _, _, rfl⟩
  by_cases h7 : l = [114, 101, 118, 101, 114, 115, 101, 45, 114, 101, 112, 111]
  · subst h7; exact .inr ⟨_, _, _, rfl⟩
  by_cases h8 : l = [115, 101, 116, 116, 108, 101, 109, 101, 110, 116, 45, 112, 97, 121, 97, 98, 108, 101]
  · subst h8; exact .inr ⟨_, _, _, rfl⟩
  by_cases h9 : l = [115, 101, 116, 116, 108, 101, 109, 101, 110, 116, 45, 114, 101, 99, 101, 105, 118, 97, 98, 108, 101]
  · subst h9; exact .inr ⟨_, _, _, rfl⟩
  by_cases h10 : l = [116, 105, 109, 101, 45, 100, 101, 112, 111, 115, 105, 116]
  · subst h10; exact .inr ⟨_, _, _, rfl⟩
  refine .inl ⟨by simp [liabL, repoL, payL, othL, h5, h6, h8], ?_⟩
  unfold Rows.laid_example_com_parmark_parmark_pkg_fund_kindRules
  have e0 : ([99, 108, 101, 97, 114, 105, 110, 103, 45, 114, 101, 115, 101, 114, 118, 101] == l) = false := by simpa using fun e => h0 e.symm
  have e1 : ([100, 101, 109, 97, 110, 100, 45, 100, 101, 112, 111, 115, 105, 116] == l) = false := by simpa using fun e => h1 e.symm
  have e2 : ([109, 97, 114, 103, 105, 110] == l) = false := by simpa using fun e => h2 e.symm
  have e3 : ([110, 111, 116, 105, 99, 101, 45, 100, 101, 112, 111, 115, 105, 116] == l) = false := by simpa using fun e => h3 e.symm
  have e4 : ([111, 116, 104, 101, 114, 45, 97, 115, 115, 101, 116] == l) = false := by simpa using fun e => h4 e.symm
  have e5 : ([111, 116, 104, 101, 114, 45, 108, 105, 97, 98, 105, 108, 105, 116, 121] == l) = false := by simpa using fun e => h5 e.symm
  have e6 : ([114, 101, 112, 111] == l) = false := by simpa using fun e => h6 e.symm
  have e7 : ([114, 101, 118, 101, 114, 115, 101, 45, 114, 101, 112, 111] == l) = false := by simpa using fun e => h7 e.symm
  have e8 : ([115, 101, 116, 116, 108, 101, 109, 101, 110, 116, 45, 112, 97, 121, 97, 98, 108, 101] == l) = false := by simpa using fun e => h8 e.symm
  have e9 : ([115, 101, 116, 116, 108, 101, 109, 101, 110, 116, 45, 114, 101, 99, 101, 105, 118, 97, 98, 108, 101] == l) = false := by simpa using fun e => h9 e.symm
  have e10 : ([116, 105, 109, 101, 45, 100, 101, 112, 111, 115, 105, 116] == l) = false := by simpa using fun e => h10 e.symm
  simp only [DataW.atKey, List.find?, same_str, e0, e1, e2, e3, e4, e5, e6, e7, e8, e9, e10]

theorem liab_list (k : ByteArray) : liab k = liabL k.data.toList := by simp [liab, liabL, ByteArray.toList_eq]

theorem cells4 : Ybad.prog.cellsOf 4 = 1 := by kernel_rfl
theorem cells50 : Ybad.prog.cellsOf 50 = 1 := by kernel_rfl

theorem elem_open {H : Type} {enc : TypeId × Value → H} {W : World} {base n : Nat} {sp : Nat → Bool} {held : Bool} {v : Value} {y : DataW H × List MemPlace} (h : elemAt enc Ybad.prog W base sp held n 52 v = some y) :
    ∃ (b : Bool) (t : Int) (p a : Bool), v = .agg #[.bool b, .int .i64 t, .bool p, .bool a] ∧ y.1 = .agg [.lit (.bool b), .lit (.int .i64 t), .lit (.bool p), .lit (.bool a)] := by
  unfold elemAt at h
  split at h
  · rename_i hf
    cases v with
    | agg cs =>
      simp only [Value.cells] at h
      obtain ⟨xs, n', _, hy, hl, hxl, hfl⟩ := DataW.trod_struct Ybad.underlying52 h
      have c52 : Ybad.prog.cellsOf 52 = 4 := by kernel_rfl
      rw [c52] at hl
      obtain ⟨l⟩ := cs
      simp only at hl hfl
      match l, hl with
      | [c0, c1, c2, c3], _ =>
        match xs, hxl with
        | [x0, x1, x2, x3], _ =>
          have h0 : DataW.trod enc Ybad.prog W base sp held n' 4 [c0] = some x0 := by simpa [cells4] using hfl 0 _ rfl
          have h1 : DataW.trod enc Ybad.prog W base sp held n' 50 [c1] = some x1 := by simpa [cells50] using hfl 1 _ rfl
          have h2 : DataW.trod enc Ybad.prog W base sp held n' 4 [c2] = some x2 := by simpa [cells4] using hfl 2 _ rfl
          have h3 : DataW.trod enc Ybad.prog W base sp held n' 4 [c3] = some x3 := by simpa [cells4] using hfl 3 _ rfl
          obtain ⟨b, e0, y0⟩ := DataW.trod_bool Ybad.underlying4 h0
          obtain ⟨t, e1, y1, _⟩ := DataW.trod_int Ybad.underlying50 h1
          obtain ⟨p, e2, y2⟩ := DataW.trod_bool Ybad.underlying4 h2
          obtain ⟨a, e3, y3⟩ := DataW.trod_bool Ybad.underlying4 h3
          simp only [List.cons.injEq, and_true] at e0 e1 e2 e3
          subst e0 e1 e2 e3 y0 y1 y2 y3
          exact ⟨b, t, p, a, rfl, by rw [hy]; rfl⟩
    | _ => simp [Value.formed, Ybad.underlying52] at hf
  · cases h

theorem gRules : Ybad.prog.globalNamed (Rows.lawS2372CSignedSpec.vars.headD "") = some 0 := by kernel_rfl
theorem tRules : (Ybad.prog.globals[0]?).map (·.type) = some 53 := by kernel_rfl
theorem law : KeyLaw Ybad.prog 22 := string_law Ybad.underlying22
theorem zero52 (w : World) : (zeroValue 52).run Ybad.prog w = .ok (.agg #[.bool false, .int .i64 0, .bool false, .bool false]) w := by kernel_rfl

/-- WHAT THE CONDITION GIVES THE WALK: the map's cell, every look-up. -/
theorem of_laid {W : World} (h : laidMetH Ybad.prog Rows.lawS2372CSignedRow.laid W) : ∃ bm, W.cell? ⟨0, 0, none⟩ = some (.map (some bm)) ∧ bm < W.heap.size ∧ Looks W bm := by
  rw [MakeChecks.laidMetH_plain _ _ _ (by kernel_rfl)] at h
  obtain ⟨ps, ⟨g0, t0, cs0, f0, p0, q0, hg0, ht0, hv0, hd0, _, _⟩, _, _⟩ := h
  obtain rfl := Option.some.inj (gRules.symm.trans hg0)
  obtain rfl := Option.some.inj (tRules.symm.trans ht0)
  rcases open_map Ybad.underlying53 hd0 with ⟨_, hx⟩ | ⟨bm, es, clock, m, rfl, hcs, hb, _, F, hx⟩
  · simp [Rows.laid_example_com_parmark_parmark_pkg_fund_kindRules] at hx
  simp only [Prod.mk.injEq] at hx
  have hcell : W.cell? ⟨0, 0, none⟩ = some (.map (some bm)) := by
    have := World.var?_cell hg0 hv0 0
    rw [Array.eq_one_of_toList hcs] at this
    simpa using this
  refine ⟨bm, hcell, (Array.getElem?_eq_some_iff.1 hb).1, ?_⟩
  intro k hk w' hw'
  rw [liab_list]
  rcases fit_lookup (w := w') law Ybad.underlying53 (zero52 w') (hw'.trans hb) F (keyOf_string_mk (s := k) Ybad.underlying22 hk) with ⟨hrun, hat⟩ | ⟨v, y, hrun, hRv, hat, _⟩
  · have h1 := hat .nil
    rw [← hx.1] at h1
    rcases laid_at k.data.toList with ⟨hf, _⟩ | ⟨t, p, a, e⟩
    · exact ⟨0, false, false, by rw [hf]; exact hrun⟩
    · rw [e] at h1; cases h1
  · obtain ⟨b, t, p, a, rfl, hy⟩ := elem_open hRv
    have h1 := hat .nil
    rw [← hx.1, hy] at h1
    rcases laid_at k.data.toList with ⟨_, e⟩ | ⟨t', p', a', e⟩
    · rw [e] at h1; cases h1
    · rw [e] at h1
      simp only [DataW.agg.injEq, List.cons.injEq, DataW.lit.injEq, Lit.bool.injEq] at h1
      exact ⟨t, p, a, by rw [h1.1]; exact hrun⟩
end Go.Proofs.YbulkawcgDoor
