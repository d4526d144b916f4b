/-
  THE WALK of 'zzs2366bhdr' (function 4).
-/
import Derived.Test.YbulkavzaRows
import Derived.Test.YbulkavzaPlain
import Derived.WalkKit
import Derived.WalkSpells
import Derived.WalkLawsBesides
import Derived.Handy
namespace Go.Proofs.Ybulkavza
open Go.RowKit Plain

theorem ret_int {k : IntKind} {a b : Int} (h : a = b) : Ending.returned (.int k a) = .returned (.int k b) := by rw [h]

set_option maxHeartbeats 400000 in
theorem hdr_raw (tg form : Nat) (len : Int) (lo sl : Nat) (w : World) :
    Calls Yba.prog 4 #[.bool true, .int .u64 tg, .int .u8 form, .int .i64 len, .int .i64 lo, .int .i64 sl] w fun e w' =>
      e = .returned (.int .i64 (hdrLen true tg form len lo sl : Nat)) ∧ w' = w := by
  go_enter Yba.func4, Yba.ntmps4
  go_wp2
  go_ret
  exact ⟨ret_int (by simp [hdrLen]), rfl⟩

theorem hd1 {tg form lo sl k : Nat} {len : Int} (hk : idLen tg = k) (f1 : ((form : Int) == 1) = true) : ((k : Int) + 1) = (hdrLen false tg form len lo sl : Nat) := by
  have : form = 1 := by have := beq_iff_eq.1 f1; omega
  subst this; subst hk; simp [hdrLen]
theorem hd2 {tg form lo sl k : Nat} {len : Int} (hk : idLen tg = k) (f2 : ((form : Int) == 2) = true) : ((k : Int) + (1 + lo)) = (hdrLen false tg form len lo sl : Nat) := by
  have : form = 2 := by have := beq_iff_eq.1 f2; omega
  subst this; subst hk; simp [hdrLen]
theorem hd3 {tg form lo sl k : Nat} {len : Int} (hk : idLen tg = k) (f3 : ((form : Int) == 3) = true) : ((k : Int) + sl) = (hdrLen false tg form len lo sl : Nat) := by
  have : form = 3 := by have := beq_iff_eq.1 f3; omega
  subst this; subst hk; simp [hdrLen]
theorem hd4 {tg form lo sl k : Nat} {len : Int} (hk : idLen tg = k) (f1 : ((form : Int) == 1) = false) (f2 : ((form : Int) == 2) = false) (f3 : ((form : Int) == 3) = false) (h : len < 128) : ((k : Int) + 1) = (hdrLen false tg form len lo sl : Nat) := by
  have a1 : form ≠ 1 := by have := beq_eq_false_iff_ne.1 f1; omega
  have a2 : form ≠ 2 := by have := beq_eq_false_iff_ne.1 f2; omega
  have a3 : form ≠ 3 := by have := beq_eq_false_iff_ne.1 f3; omega
  subst hk; simp [hdrLen, a1, a2, a3, lenLen, h]
theorem hd5 {tg form lo sl k k' : Nat} {len : Int} (hk : idLen tg = k) (f1 : ((form : Int) == 1) = false) (f2 : ((form : Int) == 2) = false) (f3 : ((form : Int) == 3) = false) (h : 128 ≤ len) (hk' : k' = k + 1 + cnt8 len.toNat) : (k' : Int) = (hdrLen false tg form len lo sl : Nat) := by
  have a1 : form ≠ 1 := by have := beq_eq_false_iff_ne.1 f1; omega
  have a2 : form ≠ 2 := by have := beq_eq_false_iff_ne.1 f2; omega
  have a3 : form ≠ 3 := by have := beq_eq_false_iff_ne.1 f3; omega
  subst hk; subst hk'; simp [hdrLen, a1, a2, a3, lenLen, show ¬ len < 128 by omega]; omega

set_option maxHeartbeats 1600000 in
theorem hdr_any (raw : Bool) (tg form : Nat) (len : Int) (lo sl : Nat) (w : World) (htg : tg < 18446744073709551616)
    (hl : len < 9223372036854775808) (h1 : lo ≤ 8) (h2 : sl ≤ 1024) :
    Calls Yba.prog 4 #[.bool raw, .int .u64 tg, .int .u8 form, .int .i64 len, .int .i64 lo, .int .i64 sl] w fun e w' =>
      e = .returned (.int .i64 (hdrLen raw tg form len lo sl : Nat)) ∧ w' = w := by
  cases raw
  case true => exact hdr_raw tg form len lo sl w
  have hT := cnt7_le10 (v := tg / 128) (by omega)
  by_cases ht : tg < 31
  · have Hid1 : Hid (idLen tg = 1) := by unfold idLen; rw [if_pos ht]; exact rfl
    have ht' : (tg : Int) < 31 := by omega
    go_enter Yba.func4, Yba.ntmps4
    go_wp2
    all_goals first
      | (have f1 : ((form : Int) == 1) = true := by assumption
         go_ret
         exact ⟨ret_int (hd1 (Hid1.out) f1), rfl⟩)
      | (have f2 : ((form : Int) == 2) = true := by assumption
         go_ret
         exact ⟨ret_int (hd2 (Hid1.out) f2), rfl⟩)
      | (have f3 : ((form : Int) == 3) = true := by assumption
         go_ret
         exact ⟨ret_int (hd3 (Hid1.out) f3), rfl⟩)
      | (have f1 : ((form : Int) == 1) = false := by assumption
         have f2 : ((form : Int) == 2) = false := by assumption
         have f3 : ((form : Int) == 3) = false := by assumption
         have h : len < 128 := by assumption
         go_ret
         exact ⟨ret_int (hd4 (Hid1.out) f1 f2 f3 h), rfl⟩)
      | skip
    have f1 : ((form : Int) == 1) = false := by assumption
    have f2 : ((form : Int) == 2) = false := by assumption
    have f3 : ((form : Int) == 3) = false := by assumption
    have hge : 128 ≤ len := by assumption
    have h8 := cnt8_le8 (v := len.toNat) (by omega)
    go_loop [13, 15] (fun h v => ∃ k' n : Nat, h = .int .i64 (k' : Nat) ∧ v = .int .i64 (n : Nat) ∧ n < 9223372036854775808 ∧ Hid (k' + cnt8 n = 1 + 1 + cnt8 len.toNat)) (fun _ v => (intOf v).toNat)
    case atStart => exact ⟨1 + 1, len.toNat, by go_num, by go_num, by omega, rfl⟩
    case round =>
      obtain ⟨k', n', rfl, rfl, hn', hk'⟩ := hrel
      have hk2' : k' ≤ 30 := by have := hk'.out; omega
      by_cases hp' : 0 < n'
      · go_wp2
        go_round
        case rel => exact ⟨k' + 1, n' / 256, by go_num, by go_num, by omega, by have := hk'.out; rw [cnt8_pos hp'] at this; show k' + 1 + cnt8 (n' / 256) = _; omega⟩
        case measure => simp [intOf]; omega
      · have hk3' : Hid (k' = 1 + 1 + cnt8 len.toNat) := by
          have := hk'.out; have h0 : n' = 0 := by omega
          subst h0; rw [cnt8_zero] at this; exact this
        go_wp2
        go_ret
        exact ⟨ret_int (hd5 (Hid1.out) f1 f2 f3 hge hk3'.out), rfl⟩
  · have Hid1 : Hid (idLen tg = 2 + cnt7 (tg / 128)) := by unfold idLen; rw [if_neg ht]; exact rfl
    have ht' : 31 ≤ (tg : Int) := by omega
    go_enter Yba.func4, Yba.ntmps4
    go_wp2
    go_loop [13, 14] (fun h v => ∃ k n : Nat, h = .int .i64 (k : Nat) ∧ v = .int .u64 (n : Nat) ∧ n < 18446744073709551616 ∧ Hid (k + cnt7 n = 2 + cnt7 (tg / 128))) (fun _ v => (intOf v).toNat)
    case atStart => exact ⟨2, tg / 128, rfl, by go_num, by omega, rfl⟩
    case round =>
      obtain ⟨k, n, rfl, rfl, hn, hk⟩ := hrel
      have hk2 : k ≤ 12 := by have := hk.out; omega
      by_cases hp : 0 < n
      · go_wp2
        go_round
        case rel => exact ⟨k + 1, n / 128, by go_num, by go_num, by omega, by have := hk.out; rw [cnt7_pos hp] at this; show k + 1 + cnt7 (n / 128) = _; omega⟩
        case measure => simp [intOf]; omega
      · have hk3 : Hid (k = 2 + cnt7 (tg / 128)) := by
          have := hk.out; have h0 : n = 0 := by omega
          subst h0; rw [cnt7_zero] at this; exact this
        have Hid2 : Hid (idLen tg = k) := by have a := Hid1.out; have b := hk3.out; show idLen tg = k; omega
        go_wp2
        all_goals first
          | (have f1 : ((form : Int) == 1) = true := by assumption
             go_ret
             exact ⟨ret_int (hd1 (Hid2.out) f1), rfl⟩)
          | (have f2 : ((form : Int) == 2) = true := by assumption
             go_ret
             exact ⟨ret_int (hd2 (Hid2.out) f2), rfl⟩)
          | (have f3 : ((form : Int) == 3) = true := by assumption
             go_ret
             exact ⟨ret_int (hd3 (Hid2.out) f3), rfl⟩)
          | (have f1 : ((form : Int) == 1) = false := by assumption
             have f2 : ((form : Int) == 2) = false := by assumption
             have f3 : ((form : Int) == 3) = false := by assumption
             have h : len < 128 := by assumption
             go_ret
             exact ⟨ret_int (hd4 (Hid2.out) f1 f2 f3 h), rfl⟩)
          | skip
        have f1 : ((form : Int) == 1) = false := by assumption
        have f2 : ((form : Int) == 2) = false := by assumption
        have f3 : ((form : Int) == 3) = false := by assumption
        have hge : 128 ≤ len := by assumption
        have h8 := cnt8_le8 (v := len.toNat) (by omega)
        go_loop [13, 15] (fun h v => ∃ k' n : Nat, h = .int .i64 (k' : Nat) ∧ v = .int .i64 (n : Nat) ∧ n < 9223372036854775808 ∧ Hid (k' + cnt8 n = k + 1 + cnt8 len.toNat)) (fun _ v => (intOf v).toNat)
        case atStart => exact ⟨k + 1, len.toNat, by go_num, by go_num, by omega, rfl⟩
        case round =>
          obtain ⟨k', n', rfl, rfl, hn', hk'⟩ := hrel
          have hk2' : k' ≤ 30 := by have := hk'.out; omega
          by_cases hp' : 0 < n'
          · go_wp2
            go_round
            case rel => exact ⟨k' + 1, n' / 256, by go_num, by go_num, by omega, by have := hk'.out; rw [cnt8_pos hp'] at this; show k' + 1 + cnt8 (n' / 256) = _; omega⟩
            case measure => simp [intOf]; omega
          · have hk3' : Hid (k' = k + 1 + cnt8 len.toNat) := by
              have := hk'.out; have h0 : n' = 0 := by omega
              subst h0; rw [cnt8_zero] at this; exact this
            go_wp2
            go_ret
            exact ⟨ret_int (hd5 (Hid2.out) f1 f2 f3 hge hk3'.out), rfl⟩
end Go.Proofs.Ybulkavza
