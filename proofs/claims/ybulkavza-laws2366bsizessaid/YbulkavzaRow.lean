/-
  A ROW OF OCTETS THAT IS APPENDED TO: what a callee that appends leaves, in a form that composes. And the walks of 'AppendLongLength' (9), 'AppendLength' (8), 'AppendIdentifier' (7).
-/
import Derived.Test.YbulkavzaHdr
import Derived.Deep.AppendLies
namespace Go.Proofs.Ybulkavza
open Go.RowKit Plain

/-- v (owned) has become v', of n' octets: nothing else that was there has turned; v' lies where v lay, or in a new block. -/
structure Rowed (base : Nat) (w w' : World) (v v' : Value) (n' : Nat) : Prop where
  own : ∃ xs, w'.ownsRow base 5 1 v' n' xs
  grow : w.grownBy w' v.ownBlock
  lies : ∀ g, v'.ownBlock = some g → v.ownBlock = some g ∨ w.heap.size ≤ g

theorem Rowed.refl {base : Nat} {w : World} {v : Value} {n : Nat} {xs : List Value} (h : w.ownsRow base 5 1 v n xs) : Rowed base w w v v n :=
  ⟨⟨xs, h⟩, World.grownBy.refl _ _, fun _ hg => .inl hg⟩

theorem Rowed.trans {base : Nat} {w w1 w2 : World} {v v1 v2 : Value} {n1 n2 : Nat} (a : Rowed base w w1 v v1 n1) (b : Rowed base w1 w2 v1 v2 n2) : Rowed base w w2 v v2 n2 := by
  refine ⟨b.own, ⟨b.grow.os.trans a.grow.os, b.grow.tape.trans a.grow.tape, b.grow.output.trans a.grow.output, Nat.le_trans a.grow.size b.grow.size, ?_⟩, ?_⟩
  · intro k hk hne
    rw [b.grow.block k (Nat.lt_of_lt_of_le hk a.grow.size) ?_, a.grow.block k hk hne]
    intro he
    rcases a.lies k he.symm with h | h
    · exact hne h.symm
    · omega
  · intro g hg
    rcases b.lies g hg with h | h
    · exact a.lies g h
    · exact .inr (Nat.le_trans a.grow.size h)

theorem Rowed.alloc {base : Nat} {w w1 : World} {v v1 : Value} {n1 : Nat} (a : Rowed base w w1 v v1 n1) (o : Obj) : Rowed base w (w1.alloc o) v v1 n1 := by
  obtain ⟨xs, hx⟩ := a.own
  exact a.trans ⟨⟨xs, hx.alloc o⟩, World.grownBy_alloc _ _ _, fun _ hg => .inl hg⟩

theorem Rowed.drew {base : Nat} {w w1 : World} {v v1 : Value} {n1 : Nat} (a : Rowed base w w1 v v1 n1) : Rowed base w w1.drew v v1 n1 :=
  ⟨a.own, ⟨a.grow.os, a.grow.tape, a.grow.output, a.grow.size, a.grow.block⟩, a.lies⟩

/-- One octet more: what the law on append leaves, behind the block of the octet itself. -/
theorem Rowed.put {base : Nat} {w w1 w2 : World} {v v1 v2 : Value} {n1 n2 g H : Nat} {xs : List Value} {o : Obj} (a : Rowed base w w1 v v1 n1) (hown : w2.ownsRow base 5 1 v2 n2 xs)
    (hgrow : (w1.alloc o).grownBy w2 v1.ownBlock) (hv : v2.ownBlock = some g) (hat : v1.ownBlock = some g ∨ g = H) (hH : w1.heap.size + 1 ≤ H) : Rowed base w w2 v v2 n2 := by
  refine (a.alloc o).trans ⟨⟨xs, hown⟩, hgrow, ?_⟩
  intro g' hg'
  rw [hv] at hg'
  obtain rfl := Option.some.inj hg'
  rcases hat with h | h
  · exact .inl h
  · subst h
    exact .inr (by simpa using hH)

theorem Yba.info5 : (Yba.prog.info? 5).map (fun i => (i.zero, i.size, i.bytes)) = some (some (.int .u8 0), 1, 1) := by kernel_rfl

theorem one_octet {x : Int} : ∀ u ∈ [Value.int .u8 x], u.oneCell' = true := by
  intro u hu; simp at hu; subst hu; rfl

set_option maxHeartbeats 800000 in
theorem longLen_any (base : Nat) (v : Value) (n m : Nat) (xs : List Value) (L : Int) (w : World) (hown : w.ownsRow base 5 1 v n xs) (hb : base ≤ w.heap.size)
    (hn : n ≤ 100000) (hm : m ≤ 8) :
    Calls Yba.prog 9 #[v, .int .i64 L, .int .i64 m] w fun e w' => ∃ v', e = .returned v' ∧ Rowed base w w' v v' (n + 1 + m) := by
  obtain ⟨i0, hi, hz0, hz1, hz2⟩ := info_parts Yba.info5
  go_enter Yba.func9, Yba.ntmps9
  go_wp2_with (at_builtin; refine wpList_append_lies _ rfl _ _ 28 rfl base 5 i0 (.int .u8 0) 1 1 Yba.underlying28 hi hz0 hz1 hz2 rfl (by decide) _ _ _ rfl (hown.alloc _) ⟨w.heap.size, 0, none⟩ 1 1 [_] rfl rfl (cell_one_new _ _ _) one_octet (by decide) (by unfold maxLen; omega) (by omega) (by simp; omega) (w.heap.size + 1) (by simp) ?_)
  intro g cap w1 hown1 hgrow1 hat1 hlt1
  have R1 := (Rowed.refl hown).put hown1 hgrow1 rfl hat1 (Nat.le_refl _)
  clear hown1 hgrow1 hat1 hlt1
  go_wp2
  go_loopw [0, 7] (fun x i wr => ∃ k : Nat, k ≤ m ∧ i = .int .i64 ((m : Int) - 1 - k) ∧ Rowed base w wr v x (n + 1 + k)) (fun _ i _ => (intOf i + 1).toNat)
  case atStart => exact ⟨0, Nat.zero_le _, by go_num, R1⟩
  case round =>
    obtain ⟨k, hk, rfl, R⟩ := hrel
    obtain ⟨ys, hown2⟩ := R.own
    have hs2 := R.grow.size
    by_cases hlt : k < m
    · have h0 : (0 : Int) ≤ (m : Int) - 1 - k := by omega
      go_wp2_with (at_builtin; refine wpList_append_lies _ rfl _ _ 28 rfl base 5 i0 (.int .u8 0) 1 1 Yba.underlying28 hi hz0 hz1 hz2 rfl (by decide) _ _ _ rfl (hown2.alloc _) ⟨wr.heap.size, 0, none⟩ 1 1 [_] rfl rfl (cell_one_new _ _ _) one_octet (by decide) (by unfold maxLen; omega) (by omega) (by simp; omega) (wr.heap.size + 1) (by simp) ?_)
      intro g3 cap3 w3 hown3 hgrow3 hat3 hlt3
      have R3 := R.put hown3 hgrow3 rfl hat3 (Nat.le_refl _)
      clear hown3 hgrow3 hat3 hlt3 hown2
      go_wp2
      go_roundw
      case rel => exact ⟨k + 1, by omega, by go_num, R3⟩
      case measure => simp [intOf]; omega
    · have hkm : k = m := by omega
      subst hkm
      have h0 : (k : Int) - 1 - k < 0 := by omega
      go_wp2
      go_ret
      exact ⟨_, rfl, R⟩

set_option maxHeartbeats 800000 in
theorem appLen_any (base : Nat) (v : Value) (n : Nat) (xs : List Value) (L : Int) (w : World) (hown : w.ownsRow base 5 1 v n xs) (hb : base ≤ w.heap.size)
    (hn : n ≤ 100000) (hL : L < 9223372036854775808) :
    Calls Yba.prog 8 #[v, .int .i64 L] w fun e w' => ∃ v', e = .returned v' ∧ Rowed base w w' v v' (n + lenLen L) := by
  obtain ⟨i0, hi, hz0, hz1, hz2⟩ := info_parts Yba.info5
  by_cases h1 : L = -1
  · subst h1
    go_enter Yba.func8, Yba.ntmps8
    go_wp2_with (at_builtin; refine wpList_append_lies _ rfl _ _ 28 rfl base 5 i0 (.int .u8 0) 1 1 Yba.underlying28 hi hz0 hz1 hz2 rfl (by decide) _ _ _ rfl (hown.alloc _) ⟨w.heap.size, 0, none⟩ 1 1 [_] rfl rfl (cell_one_new _ _ _) one_octet (by decide) (by unfold maxLen; omega) (by omega) (by simp; omega) (w.heap.size + 1) (by simp) ?_)
    intro g cap w1 hown1 hgrow1 hat1 hlt1
    have R1 := (Rowed.refl hown).put hown1 hgrow1 rfl hat1 (Nat.le_refl _)
    clear hown1 hgrow1 hat1 hlt1
    go_wp2
    go_ret
    exact ⟨_, rfl, by simpa [lenLen] using R1⟩
  · have hb1 : (L == -1) = false := by simp [h1]
    by_cases h2 : L < 128
    · have hll : lenLen L = 1 := by simp [lenLen, h2]
      rw [hll]
      clear hll
      go_enter Yba.func8, Yba.ntmps8
      go_wp2_with (at_builtin; refine wpList_append_lies _ rfl _ _ 28 rfl base 5 i0 (.int .u8 0) 1 1 Yba.underlying28 hi hz0 hz1 hz2 rfl (by decide) _ _ _ rfl (hown.alloc _) ⟨w.heap.size, 0, none⟩ 1 1 [_] rfl rfl (cell_one_new _ _ _) one_octet (by decide) (by unfold maxLen; omega) (by omega) (by simp; omega) (w.heap.size + 1) (by simp) ?_)
      intro g cap w1 hown1 hgrow1 hat1 hlt1
      have R1 := (Rowed.refl hown).put hown1 hgrow1 rfl hat1 (Nat.le_refl _)
      clear hown1 hgrow1 hat1 hlt1
      go_wp2
      go_ret
      exact ⟨_, rfl, R1⟩
    · have hge : 128 ≤ L := by omega
      have h8 := cnt8_le8 (v := L.toNat) (by omega)
      have hll : Hid (lenLen L = 1 + cnt8 L.toNat) := by show lenLen L = _; simp [lenLen, h2]
      go_enter Yba.func8, Yba.ntmps8
      go_wp2
      go_loop [5, 6] (fun h x => ∃ k' n' : Nat, h = .int .i64 (k' : Nat) ∧ x = .int .i64 (n' : Nat) ∧ n' < 9223372036854775808 ∧ Hid (k' + cnt8 n' = cnt8 L.toNat)) (fun _ x => (intOf x).toNat)
      case atStart => exact ⟨0, L.toNat, by go_num, by go_num, by omega, by show 0 + cnt8 L.toNat = _; omega⟩
      case round =>
        obtain ⟨k', n', rfl, rfl, hn', hk'⟩ := hrel
        have hk2' : k' ≤ 8 := by have := hk'.out; omega
        by_cases hp' : 0 < n'
        · go_wp2
          go_round
          case rel => exact ⟨k' + 1, n' / 256, by go_num, by go_num, by omega, by have := hk'.out; rw [cnt8_pos hp'] at this; show k' + 1 + cnt8 (n' / 256) = _; omega⟩
          case measure => simp [intOf]; omega
        · have hk3' : Hid (n + 1 + k' = n + lenLen L) := by
            have := hk'.out; have h0 : n' = 0 := by omega
            subst h0; rw [cnt8_zero] at this; have := hll.out; show n + 1 + k' = _; omega
          go_wp2_with fail
          refine (longLen_any base v n k' xs L w hown hb hn hk2').mono ?_
          rintro e w1 ⟨v1, rfl, R1⟩
          rw [hk3'.out] at R1
          go_wp2
          go_ret
          exact ⟨_, rfl, R1⟩


set_option maxHeartbeats 800000 in
theorem ident_short (base : Nat) (v : Value) (n tg : Nat) (xs : List Value) (c : Int) (con : Bool) (w : World) (hown : w.ownsRow base 5 1 v n xs) (hb : base ≤ w.heap.size)
    (hn : n ≤ 100000) (ht : (tg : Int) < 31) :
    Calls Yba.prog 7 #[v, .int .u8 c, .int .u64 tg, .bool con] w fun e w' => ∃ v', e = .returned v' ∧ Rowed base w w' v v' (n + 1) := by
  obtain ⟨i0, hi, hz0, hz1, hz2⟩ := info_parts Yba.info5
  cases con
  all_goals
    go_enter Yba.func7, Yba.ntmps7
    go_wp2_with (at_builtin; refine wpList_append_lies _ rfl _ _ 28 rfl base 5 i0 (.int .u8 0) 1 1 Yba.underlying28 hi hz0 hz1 hz2 rfl (by decide) _ _ _ rfl (hown.alloc _) ⟨w.heap.size, 0, none⟩ 1 1 [_] rfl rfl (cell_one_new _ _ _) one_octet (by decide) (by unfold maxLen; omega) (by omega) (by simp; omega) (w.heap.size + 1) (by simp) ?_)
    intro g cap w1 hown1 hgrow1 hat1 hlt1
    have R1 := (Rowed.refl hown).put hown1 hgrow1 rfl hat1 (Nat.le_refl _)
    clear hown1 hgrow1 hat1 hlt1
    go_wp2
    go_ret
    exact ⟨_, rfl, R1⟩

set_option maxHeartbeats 1600000 in
theorem ident_long (base : Nat) (v : Value) (n tg : Nat) (xs : List Value) (c : Int) (con : Bool) (w : World) (hown : w.ownsRow base 5 1 v n xs) (hb : base ≤ w.heap.size)
    (hn : n ≤ 100000) (ht : 31 ≤ (tg : Int)) (htg : tg < 18446744073709551616) :
    Calls Yba.prog 7 #[v, .int .u8 c, .int .u64 tg, .bool con] w fun e w' => ∃ v', e = .returned v' ∧ Rowed base w w' v v' (n + (2 + cnt7 (tg / 128))) := by
  obtain ⟨i0, hi, hz0, hz1, hz2⟩ := info_parts Yba.info5
  have hT := cnt7_le10 (v := tg / 128) (by omega)
  cases con
  all_goals
    go_enter Yba.func7, Yba.ntmps7
    go_wp2_with (at_builtin; refine wpList_append_lies _ rfl _ _ 28 rfl base 5 i0 (.int .u8 0) 1 1 Yba.underlying28 hi hz0 hz1 hz2 rfl (by decide) _ _ _ rfl (hown.alloc _) ⟨w.heap.size, 0, none⟩ 1 1 [_] rfl rfl (cell_one_new _ _ _) one_octet (by decide) (by unfold maxLen; omega) (by omega) (by simp; omega) (w.heap.size + 1) (by simp) ?_)
    intro g cap w1 hown1 hgrow1 hat1 hlt1
    have R1 := (Rowed.refl hown).put hown1 hgrow1 rfl hat1 (Nat.le_refl _)
    clear hown1 hgrow1 hat1 hlt1
    go_wp2
    go_loop [10, 11] (fun h x => ∃ k' n' : Nat, h = .int .i64 (k' : Nat) ∧ x = .int .u64 (n' : Nat) ∧ n' < 18446744073709551616 ∧ Hid (k' + cnt7 n' = 1 + cnt7 (tg / 128))) (fun _ x => (intOf x).toNat)
    case atStart => exact ⟨1, tg / 128, rfl, by go_num, by omega, rfl⟩
    case round =>
      obtain ⟨k', n', rfl, rfl, hn', hk'⟩ := hrel
      have hk2' : k' ≤ 11 := by have := hk'.out; omega
      by_cases hp' : 0 < n'
      · go_wp2
        go_round
        case rel => exact ⟨k' + 1, n' / 128, by go_num, by go_num, by omega, by have := hk'.out; rw [cnt7_pos hp'] at this; show k' + 1 + cnt7 (n' / 128) = _; omega⟩
        case measure => simp [intOf]; omega
      · have hk3' : Hid (k' = 1 + cnt7 (tg / 128)) := by
          have := hk'.out; have h0 : n' = 0 := by omega
          subst h0; rw [cnt7_zero] at this; exact this
        have hk1 : 1 ≤ k' := by have := hk3'.out; omega
        go_wp2
        go_loopw [0, 12] (fun x i wr => ∃ k : Nat, k + 1 ≤ k' ∧ i = .int .i64 ((k' : Int) - 1 - k) ∧ Rowed base w wr v x (n + 1 + k)) (fun _ i _ => (intOf i + 1).toNat)
        case atStart => exact ⟨0, by omega, by go_num, R1⟩
        case round =>
          obtain ⟨k, hk, rfl, R⟩ := hrel
          obtain ⟨ys, hown2⟩ := R.own
          have hs2 := R.grow.size
          by_cases hlt : k + 1 < k'
          · have h0 : (0 : Int) < (k' : Int) - 1 - k := by omega
            have h00 : (0 : Int) ≤ (k' : Int) - 1 - k := by omega
            have h07 : (0 : Int) ≤ 7 * ((k' : Int) - 1 - k) := by omega
            go_wp2_with (at_builtin; refine wpList_append_lies _ rfl _ _ 28 rfl base 5 i0 (.int .u8 0) 1 1 Yba.underlying28 hi hz0 hz1 hz2 rfl (by decide) _ _ _ rfl (hown2.alloc _) ⟨wr.heap.size, 0, none⟩ 1 1 [_] rfl rfl (cell_one_new _ _ _) one_octet (by decide) (by unfold maxLen; omega) (by omega) (by simp; omega) (wr.heap.size + 1) (by simp) ?_)
            intro g3 cap3 w3 hown3 hgrow3 hat3 hlt3
            have R3 := R.put hown3 hgrow3 rfl hat3 (Nat.le_refl _)
            clear hown3 hgrow3 hat3 hlt3 hown2
            go_wp2
            go_roundw
            case rel => exact ⟨k + 1, by omega, by go_num, R3⟩
            case measure => simp [intOf]; omega
          · have h0 : (k' : Int) - 1 - k ≤ 0 := by omega
            have hfin : Hid (n + 1 + k + 1 = n + (2 + cnt7 (tg / 128))) := by have := hk3'.out; show n + 1 + k + 1 = _; omega
            go_wp2_with (at_builtin; refine wpList_append_lies _ rfl _ _ 28 rfl base 5 i0 (.int .u8 0) 1 1 Yba.underlying28 hi hz0 hz1 hz2 rfl (by decide) _ _ _ rfl (hown2.alloc _) ⟨wr.heap.size, 0, none⟩ 1 1 [_] rfl rfl (cell_one_new _ _ _) one_octet (by decide) (by unfold maxLen; omega) (by omega) (by simp; omega) (wr.heap.size + 1) (by simp) ?_)
            intro g3 cap3 w3 hown3 hgrow3 hat3 hlt3
            have R3 := R.put hown3 hgrow3 rfl hat3 (Nat.le_refl _)
            clear hown3 hgrow3 hat3 hlt3 hown2
            go_wp2
            go_ret
            exact ⟨_, rfl, by rw [← hfin.out]; exact R3⟩

theorem ident_any (base : Nat) (v : Value) (n tg : Nat) (xs : List Value) (c : Int) (con : Bool) (w : World) (hown : w.ownsRow base 5 1 v n xs) (hb : base ≤ w.heap.size)
    (hn : n ≤ 100000) (htg : tg < 18446744073709551616) :
    Calls Yba.prog 7 #[v, .int .u8 c, .int .u64 tg, .bool con] w fun e w' => ∃ v', e = .returned v' ∧ Rowed base w w' v v' (n + idLen tg) := by
  by_cases ht : tg < 31
  · have h := ident_short base v n tg xs c con w hown hb hn (by omega)
    simpa [idLen, ht] using h
  · have h := ident_long base v n tg xs c con w hown hb hn (by omega) htg
    simpa [idLen, ht] using h

end Go.Proofs.Ybulkavza
