/-
  THE PLAIN LAW: what the search logs, and that it is one.
-/
import Derived.Test.YbulkawcuMem
namespace Go.Proofs.Ybulkawcu

/-- What is logged of a row of numbers up to the first 'wt', and whether there was one. -/
def scan (wt : Int) : List Int → List Int × Bool
  | [] => ([], false)
  | x :: xs => if x = wt then ([x], true) else (x :: (scan wt xs).1, (scan wt xs).2)

theorem scan_hit {wt : Int} : ∀ {l : List Int} {k : Nat}, l[k]? = some wt → (∀ i, i < k → l[i]? ≠ some wt) → scan wt l = (l.take (k + 1), true)
  | [], k, h, _ => by simp at h
  | x :: xs, 0, h, _ => by simp at h; simp [scan, h]
  | x :: xs, k + 1, h, hn => by
    have hx : x ≠ wt := fun e => hn 0 (by omega) (by simp [e])
    have := scan_hit (l := xs) (k := k) (by simpa using h) (fun i hi => by simpa using hn (i + 1) (by omega))
    simp [scan, hx, this]

theorem scan_no {wt : Int} : ∀ {l : List Int}, (∀ i, i < l.length → l[i]? ≠ some wt) → scan wt l = (l, false)
  | [], _ => rfl
  | x :: xs, h => by
    have hx : x ≠ wt := fun e => h 0 (by simp) (by simp [e])
    have := scan_no (l := xs) (fun i hi => by simpa using h (i + 1) (by simpa using hi))
    simp [scan, hx, this]

theorem scan_len {wt : Int} : ∀ (l : List Int), (scan wt l).1.length ≤ l.length
  | [] => by simp [scan]
  | x :: xs => by
    have := scan_len (wt := wt) xs
    simp only [scan]
    split <;> simp <;> omega

/-- The i-th struct's numbers. -/
def Sp.tags (S : Sp) (i : Nat) : List Int := (List.range (S.nf i)).map (S.tg i)

/-- What the i-th struct adds to the log, and whether the search ends there. -/
def Sp.part (S : Sp) (wt : Int) (i : Nat) : List Int := if S.un i then [] else (scan wt (S.tags i)).1
def Sp.hit (S : Sp) (wt : Int) (i : Nat) : Bool := !S.un i && (scan wt (S.tags i)).2

def Sp.logTo (S : Sp) (wt : Int) (k : Nat) : List Int := (List.range k).flatMap (S.part wt)

theorem Sp.logTo_succ (S : Sp) (wt : Int) (k : Nat) : S.logTo wt (k + 1) = S.logTo wt k ++ S.part wt k := by
  simp [Sp.logTo, List.range_succ]

theorem Sp.part_len {S : Sp} (hO : S.Ok) (wt : Int) {i : Nat} (hi : i < S.n) : (S.part wt i).length ≤ 1024 := by
  have := hO.nf1024 i hi
  have h2 := scan_len (wt := wt) (S.tags i)
  simp only [Sp.tags, List.length_map, List.length_range] at h2
  unfold Sp.part
  split
  · simp
  · simp only [Sp.tags]; omega

theorem Sp.logTo_len {S : Sp} (hO : S.Ok) (wt : Int) : ∀ k, k ≤ S.n → (S.logTo wt k).length ≤ k * 1024
  | 0, _ => by simp [Sp.logTo]
  | k + 1, hk => by
    have h1 := Sp.logTo_len hO wt k (by omega)
    have h2 := Sp.part_len hO wt (show k < S.n by omega)
    rw [Sp.logTo_succ, List.length_append]
    omega

/-- How the search ends. -/
def Sp.End (S : Sp) (wt : Int) (zs : List Int) (b : Bool) : Prop :=
  (∃ k, k < S.n ∧ S.hit wt k = true ∧ (∀ i, i < k → S.hit wt i = false) ∧ zs = S.logTo wt (k + 1) ∧ b = true) ∨ ((∀ i, i < S.n → S.hit wt i = false) ∧ zs = S.logTo wt S.n ∧ b = false)

theorem Sp.End.one {S : Sp} {wt : Int} {zs zs' : List Int} {b b' : Bool} (h : S.End wt zs b) (h' : S.End wt zs' b') : zs = zs' ∧ b = b' := by
  rcases h with ⟨k, hk, h1, h2, rfl, rfl⟩ | ⟨h1, rfl, rfl⟩
  · rcases h' with ⟨k', hk', h1', h2', rfl, rfl⟩ | ⟨h1', rfl, rfl⟩
    · rcases Nat.lt_trichotomy k k' with h | h | h
      · have := h2' k h; rw [h1] at this; cases this
      · subst h; exact ⟨rfl, rfl⟩
      · have := h2 k' h; rw [h1'] at this; cases this
    · have := h1' k hk; rw [h1] at this; cases this
  · rcases h' with ⟨k', hk', h1', h2', rfl, rfl⟩ | ⟨h1', rfl, rfl⟩
    · have := h1 k' hk'; rw [h1'] at this; cases this
    · exact ⟨rfl, rfl⟩

theorem Sp.tags_get (S : Sp) (i : Nat) {k : Nat} (hk : k < S.nf i) : (S.tags i)[k]? = some (S.tg i k) := by simp [Sp.tags, hk]
theorem Sp.tags_len (S : Sp) (i : Nat) : (S.tags i).length = S.nf i := by simp [Sp.tags]
theorem Sp.tags_take (S : Sp) (i : Nat) {k : Nat} (hk : k < S.nf i) : (S.tags i).take (k + 1) = (S.tags i).take k ++ [S.tg i k] := by
  rw [List.take_add_one, S.tags_get i hk]; rfl

end Go.Proofs.Ybulkawcu
