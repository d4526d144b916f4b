/-
  'zzs2372ckind' (5), 'zzs2372cliability' (9), '(Balance).Net' (8).
-/
import Derived.Test.YbulkawcgDoorRat
namespace Go.Proofs.YbulkawcgDoor
open Go.RowKit

def repoL : List UInt8 := [114, 101, 112, 111]
def payL : List UInt8 := [115, 101, 116, 116, 108, 101, 109, 101, 110, 116, 45, 112, 97, 121, 97, 98, 108, 101]
def othL : List UInt8 := [111, 116, 104, 101, 114, 45, 108, 105, 97, 98, 105, 108, 105, 116, 121]
/-- Is it one of the three kinds of liability? -/
def liab (k : ByteArray) : Bool := k.toList == repoL || k.toList == payL || k.toList == othL

set_option maxHeartbeats 1000000 in
theorem kind_any (sel : Nat) (s : ByteArray) (w : World) (hs : sel < 256) (hl : s.size ≤ maxLen) : Calls Ybad.prog 5 #[.int .u8 sel, .string s] w fun e w' => ∃ k : ByteArray, e = .returned (.string k) ∧ k.size ≤ maxLen ∧ w' = w := by
  go_enter Ybad.func5, Ybad.ntmps5
  go_wp2
  all_goals
    go_ret
    exact ⟨_, rfl, by first | exact hl | (unfold maxLen; decide), rfl⟩

theorem liab_any (k : ByteArray) (w : World) : Calls Ybad.prog 9 #[.string k] w fun e w' => e = .returned (.bool (liab k)) ∧ w' = w := by
  go_enter Ybad.func9, Ybad.ntmps9
  go_wp2
  · go_ret
    have h : k.toList = [114, 101, 112, 111] := by assumption
    exact ⟨by simp [liab, repoL, h], rfl⟩
  · go_ret
    have h : k.toList = [115, 101, 116, 116, 108, 101, 109, 101, 110, 116, 45, 112, 97, 121, 97, 98, 108, 101] := by assumption
    exact ⟨by simp [liab, payL, h], rfl⟩
  · go_ret
    exact ⟨by simp [liab, repoL, payL, othL], rfl⟩

/-- What the look-up in the table answers, in every world in which the table lies as it does in 'w'. -/
def Looks (w : World) (bm : Nat) : Prop :=
  ∀ (k : ByteArray), k.size ≤ maxLen → ∀ w' : World, w'.heap[bm]? = w.heap[bm]? → ∃ (t : Int) (p a : Bool), (Instr.lookup 53 (.map (some bm)) (.string k) false).run Ybad.prog w' = .ok (.agg #[.bool (liab k), .int .i64 t, .bool p, .bool a]) w'

theorem fresh_new (w : World) : Fresh (w.alloc (.cells #[.bool false, .slice none 0 0, .bool false, .slice none 0 0] 30)) w.heap.size :=
  ⟨by rw [World.cell?_alloc_at _ _ _ _ rfl]; rfl, by rw [World.cell?_alloc_at _ _ _ _ rfl]; rfl, by rw [World.cell?_alloc_at _ _ _ _ rfl]; rfl, by rw [World.cell?_alloc_at _ _ _ _ rfl]; rfl, Blk.new _ _ _ (by decide)⟩

theorem RatAt.alloc {w : World} {b k : Nat} {neg : Bool} (h : RatAt w b neg k) (o : Obj) : RatAt (w.alloc o) b neg k := ⟨h.a.alloc o, h.b.alloc o⟩
theorem RatAt.grown {w w' : World} {b k : Nat} {neg : Bool} {row : Option Nat} (h : RatAt w b neg k) (g : w.grownBy w' row) (hne : some b ≠ row) (hr : ∀ b, row = some b → Blk w b) : RatAt w' b neg k := ⟨h.a.grown g hne hr, h.b.grown g hne hr⟩
theorem over2 {w w2 : World} {o1 o2 : Obj} (h : ((w.alloc o1).alloc o2).grownBy w2 (some (w.heap.size + 1))) : w.grownBy w2 none :=
  ⟨h.os, h.tape, h.output, by have := h.size; simp at this; omega, fun i hi _ => by rw [h.block i (by simp; omega) (by simp; omega), Below.heap_alloc _ _ _ (by simp; omega), Below.heap_alloc _ _ _ hi]⟩

set_option maxHeartbeats 1000000 in
theorem net_any (bm c : Nat) (x k : ByteArray) (neg : Bool) (n : Nat) (w : World) (hg : w.cell? ⟨0, 0, none⟩ = some (.map (some bm))) (hbm : bm < w.heap.size) (hL : Looks w bm) (hk : k.size ≤ maxLen) (hR : RatAt w c neg n) :
    Calls Ybad.prog 8 #[.agg #[.string x, .string k, .pointer (some ⟨c, 0, none⟩), .int .u64 0, .int .i64 0, .pointer none, .int .i64 0, .string ⟨#[]⟩, .bool false, .int .i64 0, .string ⟨#[]⟩]] w fun e w' =>
      ∃ p, e = .returned (.pointer (some ⟨p, 0, none⟩)) ∧ RatAt w' p (if liab k then decide (0 < n) && !neg else neg) n ∧ w.heap.size ≤ p ∧ w.grownBy w' none := by
  have h0 : 0 < w.heap.size := World.block_lt_of_cell? w _ hg
  have hc := hR.a.b.lt
  have hfd : ∀ (b : Bool) (t : Int) (p a : Bool) (w : World), (Instr.field 52 (.agg #[.bool b, .int .i64 t, .bool p, .bool a]) 0).run Ybad.prog w = .ok (.bool b) w := fun _ _ _ _ _ => by kernel_rfl
  obtain ⟨t, p, a, hrun⟩ := hL k hk (w.alloc (.cells #[.string x, .string k, .pointer (some ⟨c, 0, none⟩), .int .u64 0, .int .i64 0, .pointer none, .int .i64 0, .string ⟨#[]⟩, .bool false, .int .i64 0, .string ⟨#[]⟩] 39)) (Below.heap_alloc _ _ _ hbm)
  have hf := fresh_new (w.alloc (.cells #[.string x, .string k, .pointer (some ⟨c, 0, none⟩), .int .u64 0, .int .i64 0, .pointer none, .int .i64 0, .string ⟨#[]⟩, .bool false, .int .i64 0, .string ⟨#[]⟩] 39))
  simp only [World.size_alloc] at hf
  have hx := (hR.alloc (.cells #[.string x, .string k, .pointer (some ⟨c, 0, none⟩), .int .u64 0, .int .i64 0, .pointer none, .int .i64 0, .string ⟨#[]⟩, .bool false, .int .i64 0, .string ⟨#[]⟩] 39)).alloc (.cells #[.bool false, .slice none 0 0, .bool false, .slice none 0 0] 30)
  have HL : Hid (liab k = liab k) := rfl
  generalize hb : liab k = b at *
  clear HL
  cases b
  · go_enter Ybad.func8, Ybad.ntmps8
    go_wp2_with fail
    refine (ratSet (w.heap.size + 1) c neg n _ (by omega) hf hx).mono ?_
    rintro e w2 ⟨rfl, hR2, hg2⟩
    go_wp2
    go_ret
    exact ⟨w.heap.size + 1, rfl, by simpa using hR2, by omega, over2 hg2⟩
  · go_enter Ybad.func8, Ybad.ntmps8
    go_wp2_with fail
    refine (ratNeg (w.heap.size + 1) c neg n _ (by omega) hf hx).mono ?_
    rintro e w2 ⟨rfl, hR2, hg2⟩
    go_wp2
    go_ret
    exact ⟨w.heap.size + 1, rfl, by simpa using hR2, by omega, over2 hg2⟩
end Go.Proofs.YbulkawcgDoor
