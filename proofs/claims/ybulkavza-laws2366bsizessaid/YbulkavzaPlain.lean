/-
  PLAIN FUNCTIONS AND LAWS for LawS2366BSizes: no Go text here. How many octets a header takes.
-/
namespace Go.Proofs.Ybulkavza.Plain

def cnt7 (v : Nat) : Nat := if v = 0 then 0 else 1 + cnt7 (v / 128)
def cnt8 (v : Nat) : Nat := if v = 0 then 0 else 1 + cnt8 (v / 256)

theorem cnt7_zero : cnt7 0 = 0 := by rw [cnt7]; simp
theorem cnt8_zero : cnt8 0 = 0 := by rw [cnt8]; simp
theorem cnt7_pos {v : Nat} (h : 0 < v) : cnt7 v = 1 + cnt7 (v / 128) := by
  rw [cnt7]; rw [if_neg (by omega)]
theorem cnt8_pos {v : Nat} (h : 0 < v) : cnt8 v = 1 + cnt8 (v / 256) := by
  rw [cnt8]; rw [if_neg (by omega)]
theorem cnt7_le (k : Nat) : ∀ v : Nat, v < 128 ^ k → cnt7 v ≤ k := by
  induction k with
  | zero => intro v h; have : v = 0 := by simpa using h
            subst this; rw [cnt7_zero]; exact Nat.le_refl _
  | succ k ih =>
    intro v h
    by_cases h0 : v = 0
    · subst h0; rw [cnt7_zero]; exact Nat.zero_le _
    · rw [cnt7_pos (by omega)]
      have := ih (v / 128) (by rw [Nat.pow_succ] at h; omega)
      omega
theorem cnt8_le (k : Nat) : ∀ v : Nat, v < 256 ^ k → cnt8 v ≤ k := by
  induction k with
  | zero => intro v h; have : v = 0 := by simpa using h
            subst this; rw [cnt8_zero]; exact Nat.le_refl _
  | succ k ih =>
    intro v h
    by_cases h0 : v = 0
    · subst h0; rw [cnt8_zero]; exact Nat.zero_le _
    · rw [cnt8_pos (by omega)]
      have := ih (v / 256) (by rw [Nat.pow_succ] at h; omega)
      omega
theorem cnt7_le10 {v : Nat} (h : v < 18446744073709551616) : cnt7 v ≤ 10 := cnt7_le 10 v (by omega)
theorem cnt8_le8 {v : Nat} (h : v < 9223372036854775808) : cnt8 v ≤ 8 := cnt8_le 8 v (by omega)

/-- How many octets the identifier takes. -/
def idLen (tg : Nat) : Nat := if tg < 31 then 1 else 2 + cnt7 (tg / 128)
/-- How many octets the shortest length takes. -/
def lenLen (len : Int) : Nat := if len < 128 then 1 else 1 + cnt8 len.toNat
/-- How many octets the whole header takes. -/
def hdrLen (raw : Bool) (tg form : Nat) (len : Int) (lo sl : Nat) : Nat :=
  if raw then 0 else idLen tg + (if form = 1 then 1 else if form = 2 then 1 + lo else if form = 3 then sl else lenLen len)

theorem idLen_le {tg : Nat} (h : tg < 18446744073709551616) : idLen tg ≤ 12 := by
  unfold idLen; split
  · omega
  · have := cnt7_le10 (v := tg / 128) (by omega); omega
theorem lenLen_le {len : Int} (h : len < 9223372036854775808) : lenLen len ≤ 9 := by
  unfold lenLen; split
  · omega
  · have := cnt8_le8 (v := len.toNat) (by omega); omega
theorem hdrLen_le {raw : Bool} {tg form : Nat} {len : Int} {lo sl : Nat} (h : tg < 18446744073709551616) (hl : len < 9223372036854775808) (h1 : lo ≤ 8) (h2 : sl ≤ 1024) :
    hdrLen raw tg form len lo sl ≤ 2000 := by
  have a := idLen_le h
  have b := lenLen_le hl
  unfold hdrLen
  repeat' split
  all_goals omega

end Go.Proofs.Ybulkavza.Plain
