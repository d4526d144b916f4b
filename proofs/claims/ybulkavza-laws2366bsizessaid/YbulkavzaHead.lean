/-
  THE WALK of 'appendHeader' (function 6).
-/
import Derived.Test.YbulkavzaRow
import Derived.Deep.RegionHeld3
import Derived.Laws.AppendOwnNone
namespace Go.Proofs.Ybulkavza
open Go.RowKit Plain

/-- What a node holds that does not turn. -/
structure Nd where
  c : Int
  tg : Nat
  con : Bool
  raw : Bool
  f : Nat
  lo : Nat
  st : Value
  sl : Nat

/-- The stated octets: none, or a row of octets in a block between 'lw' and 'hw'. -/
def StAt (lw hw : Nat) (w : World) (st : Value) (sl : Nat) : Prop :=
  (st = .slice none 0 0 ∧ sl = 0) ∨ ∃ g cap, st = .slice (some ⟨g, 0, none⟩) sl cap ∧ lw < g ∧ g < hw ∧ 0 < sl ∧ ∃ ys : List Int, ys.length = sl ∧ ∀ j, j < sl → w.cell? ⟨g, j, none⟩ = some (.int .u8 (ys.getD j 0))

theorem Rowed.below {base : Nat} {w w' : World} {v v' : Value} {n n' : Nat} {xs : List Value} (h : w.ownsRow base 5 1 v n xs) (hb : base ≤ w.heap.size) (R : Rowed base w w' v v' n') : Below base w w' :=
  ⟨R.grow.os, R.grow.tape, R.grow.output, R.grow.size, fun k hk => R.grow.block k (by omega) (fun he => by have := (h.lt k he.symm).1; omega)⟩

theorem hdrLen_raw {tg f lo sl : Nat} {L : Int} : hdrLen true tg f L lo sl = 0 := by simp [hdrLen]
theorem hdrLen1 {tg lo sl : Nat} {L : Int} : hdrLen false tg 1 L lo sl = idLen tg + 1 := by simp [hdrLen]
theorem hdrLen2 {tg lo sl : Nat} {L : Int} : hdrLen false tg 2 L lo sl = idLen tg + 1 + lo := by simp [hdrLen]; omega
theorem hdrLen3 {tg lo sl : Nat} {L : Int} : hdrLen false tg 3 L lo sl = idLen tg + sl := by simp [hdrLen]
theorem hdrLen4 {tg f lo sl : Nat} {L : Int} (h1 : f ≠ 1) (h2 : f ≠ 2) (h3 : f ≠ 3) : hdrLen false tg f L lo sl = idLen tg + lenLen L := by simp [hdrLen, h1, h2, h3]

theorem head_raw (base bn off : Nat) (v : Value) (n : Nat) (xs : List Value) (w : World) (hown : w.ownsRow base 5 1 v n xs)
    (h5 : w.cell? ⟨bn, off + 5, none⟩ = some (.bool true)) :
    Calls Yba.prog 6 #[v, .pointer (some ⟨bn, off, none⟩)] w fun e w' => ∃ v', e = .returned v' ∧ Rowed base w w' v v' (n + 0) := by
  go_enter Yba.func6, Yba.ntmps6
  go_wp2
  go_ret
  exact ⟨_, rfl, Rowed.refl hown⟩

set_option maxHeartbeats 800000 in
theorem head_f1 (base bn off : Nat) (v : Value) (n tg : Nat) (xs : List Value) (c : Int) (con : Bool) (w : World) (hown : w.ownsRow base 5 1 v n xs) (hb : base ≤ w.heap.size) (hbn : bn < base)
    (hn : n ≤ 90000) (htg : tg < 18446744073709551616)
    (h0 : w.cell? ⟨bn, off, none⟩ = some (.int .u8 c)) (h1 : w.cell? ⟨bn, off + 1, none⟩ = some (.int .u64 tg)) (h2 : w.cell? ⟨bn, off + 2, none⟩ = some (.bool con)) (h5 : w.cell? ⟨bn, off + 5, none⟩ = some (.bool false)) (h11 : w.cell? ⟨bn, off + 11, none⟩ = some (.int .u8 1)) :
    Calls Yba.prog 6 #[v, .pointer (some ⟨bn, off, none⟩)] w fun e w' => ∃ v', e = .returned v' ∧ Rowed base w w' v v' (n + (idLen tg + 1)) := by
  go_enter Yba.func6, Yba.ntmps6
  go_wp2
  go_region_held3 (fun w' => w'.cell? ⟨bn, off, none⟩ = some (.int .u8 c) ∧ w'.cell? ⟨bn, off + 1, none⟩ = some (.int .u64 tg) ∧ w'.cell? ⟨bn, off + 2, none⟩ = some (.bool con)) (go_keep)
    ((go_at_call 7; refine (ident_any base v n tg xs c con _ (by exact hown.drew) (by simpa using hb) (by omega) htg).mono ?_; rintro e w1 ⟨v1, rfl, R1⟩; have hB := Rowed.below hown.drew (by simpa using hb) R1; have c0 := (hB.cell (p := ⟨bn, off, none⟩) hbn).trans h0; have c1 := (hB.cell (p := ⟨bn, off + 1, none⟩) hbn).trans h1; have c2 := (hB.cell (p := ⟨bn, off + 2, none⟩) hbn).trans h2; have c11 := (hB.cell (p := ⟨bn, off + 11, none⟩) hbn).trans h11; clear hB))
  have hb1 : base ≤ w1.heap.size := by have := R1.grow.size; simp at this; omega
  obtain ⟨ys, hown1⟩ := R1.own
  have hid := idLen_le htg
  clear c0 c1 c2 h0 h1 h2 h5 h11
  go_wp2_with fail
  refine (appLen_any base v1 (n + idLen tg) ys (-1) w1 hown1 hb1 (by omega) (by omega)).mono ?_
  rintro e w2 ⟨v2, rfl, R2⟩
  have R := R1.trans R2
  go_wp2
  go_ret
  refine ⟨_, rfl, ?_⟩
  have R' : Rowed base w w2 v v2 (n + idLen tg + 1) := ⟨R.own, ⟨R.grow.os, R.grow.tape, R.grow.output, R.grow.size, R.grow.block⟩, R.lies⟩
  exact R'

set_option maxHeartbeats 800000 in
theorem head_f2 (base bn off : Nat) (v : Value) (n tg lo : Nat) (xs : List Value) (c : Int) (con : Bool) (w : World) (hown : w.ownsRow base 5 1 v n xs) (hb : base ≤ w.heap.size) (hbn : bn < base)
    (hn : n ≤ 90000) (htg : tg < 18446744073709551616)
    (h0 : w.cell? ⟨bn, off, none⟩ = some (.int .u8 c)) (h1 : w.cell? ⟨bn, off + 1, none⟩ = some (.int .u64 tg)) (h2 : w.cell? ⟨bn, off + 2, none⟩ = some (.bool con)) (h5 : w.cell? ⟨bn, off + 5, none⟩ = some (.bool false)) (h11 : w.cell? ⟨bn, off + 11, none⟩ = some (.int .u8 2)) (L : Int) (hlo : lo ≤ 8) (h6 : w.cell? ⟨bn, off + 6, none⟩ = some (.int .i64 L)) (h12 : w.cell? ⟨bn, off + 12, none⟩ = some (.int .i64 lo)) :
    Calls Yba.prog 6 #[v, .pointer (some ⟨bn, off, none⟩)] w fun e w' => ∃ v', e = .returned v' ∧ Rowed base w w' v v' (n + (idLen tg + 1 + lo)) := by
  go_enter Yba.func6, Yba.ntmps6
  go_wp2
  go_region_held3 (fun w' => w'.cell? ⟨bn, off, none⟩ = some (.int .u8 c) ∧ w'.cell? ⟨bn, off + 1, none⟩ = some (.int .u64 tg) ∧ w'.cell? ⟨bn, off + 2, none⟩ = some (.bool con)) (go_keep)
    ((go_at_call 7; refine (ident_any base v n tg xs c con _ (by exact hown.drew) (by simpa using hb) (by omega) htg).mono ?_; rintro e w1 ⟨v1, rfl, R1⟩; have hB := Rowed.below hown.drew (by simpa using hb) R1; have c0 := (hB.cell (p := ⟨bn, off, none⟩) hbn).trans h0; have c1 := (hB.cell (p := ⟨bn, off + 1, none⟩) hbn).trans h1; have c2 := (hB.cell (p := ⟨bn, off + 2, none⟩) hbn).trans h2; have c11 := (hB.cell (p := ⟨bn, off + 11, none⟩) hbn).trans h11; have c6 := (hB.cell (p := ⟨bn, off + 6, none⟩) hbn).trans h6; have c12 := (hB.cell (p := ⟨bn, off + 12, none⟩) hbn).trans h12; clear hB))
  have hb1 : base ≤ w1.heap.size := by have := R1.grow.size; simp at this; omega
  obtain ⟨ys, hown1⟩ := R1.own
  have hid := idLen_le htg
  clear c0 c1 c2 h0 h1 h2 h5 h11
  clear h6 h12
  go_wp2
  go_region_held3 (fun w' => w'.cell? ⟨bn, off + 6, none⟩ = some (.int .i64 L) ∧ w'.cell? ⟨bn, off + 12, none⟩ = some (.int .i64 lo)) (go_keep)
    ((go_at_call 9; refine (longLen_any base v1 (n + idLen tg) lo ys L _ (by exact hown1.drew) (by simpa using hb1) (by omega) hlo).mono ?_; rintro e w2 ⟨v2, rfl, R2⟩; have hB := Rowed.below hown1.drew (by simpa using hb1) R2; have d6 := (hB.cell (p := ⟨bn, off + 6, none⟩) hbn).trans c6; have d12 := (hB.cell (p := ⟨bn, off + 12, none⟩) hbn).trans c12; clear hB))
  have R2' : Rowed base w1 w2 v1 v2 (n + idLen tg + 1 + lo) := ⟨R2.own, ⟨R2.grow.os, R2.grow.tape, R2.grow.output, R2.grow.size, R2.grow.block⟩, R2.lies⟩
  have R := R1.trans R2'
  go_wp2
  go_ret
  refine ⟨_, rfl, ?_⟩
  have R' : Rowed base w w2 v v2 (n + idLen tg + 1 + lo) := ⟨R.own, ⟨R.grow.os, R.grow.tape, R.grow.output, R.grow.size, R.grow.block⟩, R.lies⟩
  have e1 : n + (idLen tg + 1 + lo) = n + idLen tg + 1 + lo := by omega
  rw [e1]
  exact R'

set_option maxHeartbeats 800000 in
theorem head_f4 (base bn off : Nat) (v : Value) (n tg f : Nat) (xs : List Value) (c : Int) (con : Bool) (w : World) (hown : w.ownsRow base 5 1 v n xs) (hb : base ≤ w.heap.size) (hbn : bn < base)
    (hn : n ≤ 90000) (htg : tg < 18446744073709551616)
    (h0 : w.cell? ⟨bn, off, none⟩ = some (.int .u8 c)) (h1 : w.cell? ⟨bn, off + 1, none⟩ = some (.int .u64 tg)) (h2 : w.cell? ⟨bn, off + 2, none⟩ = some (.bool con)) (h5 : w.cell? ⟨bn, off + 5, none⟩ = some (.bool false)) (h11 : w.cell? ⟨bn, off + 11, none⟩ = some (.int .u8 f)) (f1 : ((f : Int) == 1) = false) (f2 : ((f : Int) == 2) = false) (f3 : ((f : Int) == 3) = false) (L : Int) (hL : L < 9223372036854775808) (h6 : w.cell? ⟨bn, off + 6, none⟩ = some (.int .i64 L)) :
    Calls Yba.prog 6 #[v, .pointer (some ⟨bn, off, none⟩)] w fun e w' => ∃ v', e = .returned v' ∧ Rowed base w w' v v' (n + (idLen tg + lenLen L)) := by
  go_enter Yba.func6, Yba.ntmps6
  go_wp2
  go_region_held3 (fun w' => w'.cell? ⟨bn, off, none⟩ = some (.int .u8 c) ∧ w'.cell? ⟨bn, off + 1, none⟩ = some (.int .u64 tg) ∧ w'.cell? ⟨bn, off + 2, none⟩ = some (.bool con)) (go_keep)
    ((go_at_call 7; refine (ident_any base v n tg xs c con _ (by exact hown.drew) (by simpa using hb) (by omega) htg).mono ?_; rintro e w1 ⟨v1, rfl, R1⟩; have hB := Rowed.below hown.drew (by simpa using hb) R1; have c0 := (hB.cell (p := ⟨bn, off, none⟩) hbn).trans h0; have c1 := (hB.cell (p := ⟨bn, off + 1, none⟩) hbn).trans h1; have c2 := (hB.cell (p := ⟨bn, off + 2, none⟩) hbn).trans h2; have c11 := (hB.cell (p := ⟨bn, off + 11, none⟩) hbn).trans h11; have c6 := (hB.cell (p := ⟨bn, off + 6, none⟩) hbn).trans h6; clear hB))
  have hb1 : base ≤ w1.heap.size := by have := R1.grow.size; simp at this; omega
  obtain ⟨ys, hown1⟩ := R1.own
  have hid := idLen_le htg
  clear c0 c1 c2 h0 h1 h2 h5 h11
  clear h6
  go_wp2_with fail
  refine (appLen_any base v1 (n + idLen tg) ys L w1 hown1 hb1 (by omega) hL).mono ?_
  rintro e w2 ⟨v2, rfl, R2⟩
  have R := R1.trans R2
  go_wp2
  go_ret
  refine ⟨_, rfl, ?_⟩
  have R' : Rowed base w w2 v v2 (n + idLen tg + lenLen L) := ⟨R.own, ⟨R.grow.os, R.grow.tape, R.grow.output, R.grow.size, R.grow.block⟩, R.lies⟩
  have e1 : n + (idLen tg + lenLen L) = n + idLen tg + lenLen L := by omega
  rw [e1]
  exact R'

set_option maxHeartbeats 800000 in
theorem head_f3n (base bn off : Nat) (v : Value) (n tg : Nat) (xs : List Value) (c : Int) (con : Bool) (w : World) (hown : w.ownsRow base 5 1 v n xs) (hb : base ≤ w.heap.size) (hbn : bn < base)
    (hn : n ≤ 90000) (htg : tg < 18446744073709551616)
    (h0 : w.cell? ⟨bn, off, none⟩ = some (.int .u8 c)) (h1 : w.cell? ⟨bn, off + 1, none⟩ = some (.int .u64 tg)) (h2 : w.cell? ⟨bn, off + 2, none⟩ = some (.bool con)) (h5 : w.cell? ⟨bn, off + 5, none⟩ = some (.bool false)) (h11 : w.cell? ⟨bn, off + 11, none⟩ = some (.int .u8 3)) (h13 : w.cell? ⟨bn, off + 13, none⟩ = some (.slice none 0 0)) :
    Calls Yba.prog 6 #[v, .pointer (some ⟨bn, off, none⟩)] w fun e w' => ∃ v', e = .returned v' ∧ Rowed base w w' v v' (n + (idLen tg + 0)) := by
  obtain ⟨i0, hi, hz0, hz1, hz2⟩ := info_parts Yba.info5
  go_enter Yba.func6, Yba.ntmps6
  go_wp2
  go_region_held3 (fun w' => w'.cell? ⟨bn, off, none⟩ = some (.int .u8 c) ∧ w'.cell? ⟨bn, off + 1, none⟩ = some (.int .u64 tg) ∧ w'.cell? ⟨bn, off + 2, none⟩ = some (.bool con)) (go_keep)
    ((go_at_call 7; refine (ident_any base v n tg xs c con _ (by exact hown.drew) (by simpa using hb) (by omega) htg).mono ?_; rintro e w1 ⟨v1, rfl, R1⟩; have hB := Rowed.below hown.drew (by simpa using hb) R1; have c0 := (hB.cell (p := ⟨bn, off, none⟩) hbn).trans h0; have c1 := (hB.cell (p := ⟨bn, off + 1, none⟩) hbn).trans h1; have c2 := (hB.cell (p := ⟨bn, off + 2, none⟩) hbn).trans h2; have c11 := (hB.cell (p := ⟨bn, off + 11, none⟩) hbn).trans h11; have c13 := (hB.cell (p := ⟨bn, off + 13, none⟩) hbn).trans h13; clear hB))
  have hb1 : base ≤ w1.heap.size := by have := R1.grow.size; simp at this; omega
  obtain ⟨ys, hown1⟩ := R1.own
  have hid := idLen_le htg
  clear c0 c1 c2 h0 h1 h2 h5 h11
  clear h13
  go_wp2_with (at_builtin; refine wpList_append_own_none rfl _ _ 28 rfl base 5 i0 1 Yba.underlying28 hi _ _ _ rfl hown1 rfl ?_)
  go_ret
  refine ⟨_, rfl, ?_⟩
  have R' : Rowed base w w1 v v1 (n + idLen tg) := ⟨R1.own, ⟨R1.grow.os, R1.grow.tape, R1.grow.output, R1.grow.size, R1.grow.block⟩, R1.lies⟩
  exact R'

theorem news_ints {w : World} {g sl : Nat} {zs : List Int} (hzl : zs.length = sl) (hz : ∀ j, j < sl → w.cell? ⟨g, j, none⟩ = some (.int .u8 (zs.getD j 0))) :
    ∀ j u, (zs.map (Value.int .u8))[j]? = some u → w.cell? ((⟨g, 0, none⟩ : Addr).add j) = some u := by
  intro j u hj
  have hlt : j < sl := by have := (List.getElem?_eq_some_iff.1 hj).1; simpa [hzl] using this
  rw [Addr.add_lit, Nat.zero_add, hz j hlt]
  have : (zs.map (Value.int .u8))[j]? = some (.int .u8 (zs.getD j 0)) := by
    simp [List.getD, show j < zs.length by omega]
  rw [this] at hj
  exact hj

set_option maxHeartbeats 800000 in
theorem head_f3 (base bn off : Nat) (v : Value) (n tg : Nat) (xs : List Value) (c : Int) (con : Bool) (w : World) (hown : w.ownsRow base 5 1 v n xs) (hb : base ≤ w.heap.size) (hbn : bn < base)
    (hn : n ≤ 90000) (htg : tg < 18446744073709551616)
    (h0 : w.cell? ⟨bn, off, none⟩ = some (.int .u8 c)) (h1 : w.cell? ⟨bn, off + 1, none⟩ = some (.int .u64 tg)) (h2 : w.cell? ⟨bn, off + 2, none⟩ = some (.bool con)) (h5 : w.cell? ⟨bn, off + 5, none⟩ = some (.bool false)) (h11 : w.cell? ⟨bn, off + 11, none⟩ = some (.int .u8 3)) (sl g cap : Nat) (zs : List Int) (hsl0 : 0 < sl) (hsl : sl ≤ 1024) (hg : g < base) (hzl : zs.length = sl) (hz : ∀ j, j < sl → w.cell? ⟨g, j, none⟩ = some (.int .u8 (zs.getD j 0))) (h13 : w.cell? ⟨bn, off + 13, none⟩ = some (.slice (some ⟨g, 0, none⟩) sl cap)) :
    Calls Yba.prog 6 #[v, .pointer (some ⟨bn, off, none⟩)] w fun e w' => ∃ v', e = .returned v' ∧ Rowed base w w' v v' (n + (idLen tg + sl)) := by
  obtain ⟨i0, hi, hz0, hz1, hz2⟩ := info_parts Yba.info5
  go_enter Yba.func6, Yba.ntmps6
  go_wp2
  go_region_held3 (fun w' => w'.cell? ⟨bn, off, none⟩ = some (.int .u8 c) ∧ w'.cell? ⟨bn, off + 1, none⟩ = some (.int .u64 tg) ∧ w'.cell? ⟨bn, off + 2, none⟩ = some (.bool con)) (go_keep)
    ((go_at_call 7; refine (ident_any base v n tg xs c con _ (by exact hown.drew) (by simpa using hb) (by omega) htg).mono ?_; rintro e w1 ⟨v1, rfl, R1⟩; have hB := Rowed.below hown.drew (by simpa using hb) R1; have c0 := (hB.cell (p := ⟨bn, off, none⟩) hbn).trans h0; have c1 := (hB.cell (p := ⟨bn, off + 1, none⟩) hbn).trans h1; have c2 := (hB.cell (p := ⟨bn, off + 2, none⟩) hbn).trans h2; have c11 := (hB.cell (p := ⟨bn, off + 11, none⟩) hbn).trans h11; have c13 := (hB.cell (p := ⟨bn, off + 13, none⟩) hbn).trans h13; have hzz : Hid (∀ j, j < sl → w1.cell? ⟨g, j, none⟩ = some (.int .u8 (zs.getD j 0))) := (fun j hj => (hB.cell (p := ⟨g, j, none⟩) hg).trans (hz j hj)); clear hB))
  have hb1 : base ≤ w1.heap.size := by have := R1.grow.size; simp at this; omega
  obtain ⟨ys, hown1⟩ := R1.own
  have hid := idLen_le htg
  clear c0 c1 c2 h0 h1 h2 h5 h11
  clear h13
  go_wp2_with (at_builtin; refine wpList_append_lies _ rfl _ _ 28 rfl base 5 i0 (.int .u8 0) 1 1 Yba.underlying28 hi hz0 hz1 hz2 rfl (by decide) _ _ _ rfl hown1 ⟨g, 0, none⟩ sl cap (zs.map (Value.int .u8)) rfl (by simp [hzl]) (news_ints hzl hzz.out) (ints_oneCell _ _) hsl0 (by unfold maxLen; omega) (by omega) hb1 w1.heap.size rfl ?_)
  intro g2 cap2 w2 hown2 hgrow2 hat2 hlt2
  have R := R1.trans ⟨⟨_, hown2⟩, hgrow2, fun g' hg' => by
    have : g2 = g' := by simpa [Value.ownBlock] using hg'
    subst this
    rcases hat2 with h | h
    · exact .inl h
    · exact .inr (by omega)⟩
  clear hown2 hgrow2 hat2 hlt2
  go_wp2
  go_ret
  refine ⟨_, rfl, ?_⟩
  have R' : Rowed base w w2 v (.slice (some ⟨g2, 0, none⟩) (n + idLen tg + sl) cap2) (n + idLen tg + sl) := ⟨R.own, ⟨R.grow.os, R.grow.tape, R.grow.output, R.grow.size, R.grow.block⟩, R.lies⟩
  have e1 : n + (idLen tg + sl) = n + idLen tg + sl := by omega
  rw [e1]
  exact R'

/-- A node in memory: what does not turn, and its length. -/
structure NodeAt (lw hw : Nat) (w : World) (bn off : Nat) (d : Nd) (L : Int) : Prop where
  h0 : w.cell? ⟨bn, off, none⟩ = some (.int .u8 d.c)
  h1 : w.cell? ⟨bn, off + 1, none⟩ = some (.int .u64 d.tg)
  h2 : w.cell? ⟨bn, off + 2, none⟩ = some (.bool d.con)
  h5 : w.cell? ⟨bn, off + 5, none⟩ = some (.bool d.raw)
  h6 : w.cell? ⟨bn, off + 6, none⟩ = some (.int .i64 L)
  h11 : w.cell? ⟨bn, off + 11, none⟩ = some (.int .u8 d.f)
  h12 : w.cell? ⟨bn, off + 12, none⟩ = some (.int .i64 d.lo)
  h13 : w.cell? ⟨bn, off + 13, none⟩ = some d.st
  st : StAt lw hw w d.st d.sl

/-- The numbers' ranges. -/
structure Nd.Ok (d : Nd) : Prop where
  tg : d.tg < 18446744073709551616
  lo : d.lo ≤ 8
  sl : d.sl ≤ 1024

def Nd.hdr (d : Nd) (L : Int) : Nat := hdrLen d.raw d.tg d.f L d.lo d.sl

theorem head_any (base lw hw bn off : Nat) (v : Value) (n : Nat) (xs : List Value) (d : Nd) (L : Int) (w : World) (hown : w.ownsRow base 5 1 v n xs) (hb : base ≤ w.heap.size) (hbn : bn < base)
    (hn : n ≤ 90000) (hd : d.Ok) (hL : L < 9223372036854775808) (hhw : hw ≤ base) (hN : NodeAt lw hw w bn off d L) :
    Calls Yba.prog 6 #[v, .pointer (some ⟨bn, off, none⟩)] w fun e w' => ∃ v', e = .returned v' ∧ Rowed base w w' v v' (n + d.hdr L) := by
  obtain ⟨c, tg, con, raw, f, lo, st, sl⟩ := d
  obtain ⟨h0, h1, h2, h5, h6, h11, h12, h13, hst⟩ := hN
  obtain ⟨htg, hlo, hsl⟩ := hd
  simp only [Nd.hdr] at *
  cases raw
  case true => rw [hdrLen_raw]; exact head_raw base bn off v n xs w hown h5
  by_cases f1 : f = 1
  · subst f1; rw [hdrLen1]; exact head_f1 base bn off v n tg xs c con w hown hb hbn hn htg h0 h1 h2 h5 h11
  by_cases f2 : f = 2
  · subst f2; rw [hdrLen2]; exact head_f2 base bn off v n tg lo xs c con w hown hb hbn hn htg h0 h1 h2 h5 h11 L hlo h6 h12
  by_cases f3 : f = 3
  · subst f3; rw [hdrLen3]
    rcases hst with ⟨rfl, rfl⟩ | ⟨g, cap, rfl, _, hg, h0', zs, hzl, hz⟩
    · exact head_f3n base bn off v n tg xs c con w hown hb hbn hn htg h0 h1 h2 h5 h11 h13
    · exact head_f3 base bn off v n tg xs c con w hown hb hbn hn htg h0 h1 h2 h5 h11 sl g cap zs h0' hsl (by omega) hzl hz h13
  rw [hdrLen4 f1 f2 f3]
  exact head_f4 base bn off v n tg f xs c con w hown hb hbn hn htg h0 h1 h2 h5 h11 (by simp; omega) (by simp; omega) (by simp; omega) L hL h6

end Go.Proofs.Ybulkavza
