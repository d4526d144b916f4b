/-
  THE GRAPH THAT THE LAW LAYS, AS A SNAPSHOT; the look-up and the store in a map keyed by pointers.
-/
import Derived.Test.YbulkawcuRows
import Derived.WalkKit
import Derived.WalkSpells
import Derived.LaidEqlPtr
import Derived.Maps.Own
import Derived.Deep.LoopGhost
namespace Go.Proofs.Ybulkawcu
open Go.RowKit

theorem orRight {a b c : Prop} (h : a ∨ b) (f : b → c) : a ∨ c := by
  rcases h with h | h
  · exact .inl h
  · exact .inr (f h)

theorem cellAt {w : World} {b : Nat} {cs : Array Value} {t : TypeId} {m : Nat × Nat} (h : w.heap[b]? = some (.cells cs t m)) (i : Nat) : w.cell? ⟨b, i, none⟩ = cs[i]? := by
  simp [World.cell?, h]

/-- The eight cells of a 'bridge.Type'. -/
def tyCells (k : Int) (st : Option Addr) (l : Int) (el : Option Addr) : Array Value :=
  #[.int .i64 k, .pointer none, .pointer none, .pointer none, .pointer none, .pointer st, .int .i64 l, .pointer el]

/-- In block b (and on) lies a type of d arrays around a leaf that holds h and bears the number l. -/
def TyAt (W : World) (N : Nat) (h : Option Addr) (l : Int) : Nat → Nat → Prop
  | 0, b => b < N ∧ W.heap[b]? = some (.cells (tyCells 13 h l none) 42 (0, 0))
  | d + 1, b => b < N ∧ ∃ b', W.heap[b]? = some (.cells (tyCells 12 none 2 (some ⟨b', 0, none⟩)) 42 (0, 0)) ∧ TyAt W N h l d b'

/-- The nine cells of a 'bridge.Field'. -/
def fdCells (t : Option Addr) : Array Value :=
  #[.string ⟨#[]⟩, .string ⟨#[]⟩, .string ⟨#[]⟩, .int .i64 0, .int .i64 0, .int .i64 0, .string ⟨#[]⟩, .string ⟨#[]⟩, .pointer t]

def FdAt (W : World) (N : Nat) (h : Option Addr) (l : Int) (b : Nat) : Prop :=
  b < N ∧ ∃ t d, W.heap[b]? = some (.cells (fdCells (some ⟨t, 0, none⟩)) 45 (0, 0)) ∧ TyAt W N h l d t

theorem held_any {W w : World} {N : Nat} {h : Option Addr} {l : Int} {d b : Nat} (hB : Below N W w) (ht : TyAt W N h l d b) :
    Calls Yba.prog 14 #[.pointer (some ⟨b, 0, none⟩)] w fun e w' => e = .returned (.pointer h) ∧ w' = w := by
  go_enter Yba.func14, Yba.ntmps14
  go_wp2
  go_loopg [0] d (fun k v wr => wr = w ∧ ∃ b, v = .pointer (some ⟨b, 0, none⟩) ∧ TyAt W N h l k b)
  case atStart => exact ⟨rfl, b, rfl, ht⟩
  case round =>
    obtain ⟨rfl, b1, rfl, h1⟩ := hrel
    clear ht
    rcases gk with _ | k
    · obtain ⟨hlt, hh⟩ := h1
      rw [← hB.block _ hlt] at hh
      have c0 := cellAt hh 0
      have c5 := cellAt hh 5
      simp [tyCells] at c0 c5
      go_wp2
      exact bodyPost_ret (results_tmp rfl _ _ _) rfl ⟨rfl, rfl⟩
    · obtain ⟨hlt, b', hh, hn⟩ := h1
      rw [← hB.block _ hlt] at hh
      have c0 := cellAt hh 0
      have c7 := cellAt hh 7
      simp [tyCells] at c0 c7
      go_wp2
      go_roundg k
      case measure => omega
      case rel => exact ⟨rfl, b', rfl, hn⟩

/-! ### A set of pointers -/

/-- Block b is a map that holds 'true' at each of the pointers, and nothing else. -/
def SetAt (w : World) (b : Nat) (ads : List Addr) : Prop :=
  ∃ es clock, w.heap[b]? = some (.map es clock) ∧ es.toList.map (fun e => (e.key, e.val)) = ads.map (fun a => (Value.pointer (some a), Value.bool true))

/-- Block a.block is one of cells. -/
def IsCells (w : World) (a : Addr) : Prop := ∃ cs t, w.heap[a.block]? = some (.cells cs t (0, 0))

theorem info32 : (Yba.prog.info? 32).map (·.size) = some 11 := by kernel_rfl

theorem equal_ptr {w : World} (a b : Addr) (ha : IsCells w a) (hb : IsCells w b) :
    (Op.equal 27 (.pointer (some a)) (.pointer (some b))).run Yba.prog w = .ok (decide (a = b)) w := by
  show (Op.equalIn (9999 + 1) 27 (.pointer (some a)) (.pointer (some b))).run Yba.prog w = _
  generalize 9999 = d
  obtain ⟨ca, ta, ha⟩ := ha
  obtain ⟨cb, tb, hb⟩ := hb
  cases hi : Yba.prog.info? 32 with
  | none => have := info32; simp [hi] at this
  | some j =>
    have hs : j.size = 11 := by have := info32; simpa [hi] using this
    by_cases e : a = b
    · subst e
      simp [Op.equalIn, run_underlying Yba.underlying27, sizeOf, typeInfo, hi, run_sameAddr_same]
    · simp [Op.equalIn, run_underlying Yba.underlying27, sizeOf, typeInfo, hi, hs, run_sameAddr_other w e ha hb, e]

theorem findAsking_ptr {w : World} {a : Addr} (ha : IsCells w a) : ∀ (ads : List Addr) (es : List MapEntry) (i : Nat), (∀ b ∈ ads, IsCells w b) → es.map (fun e => (e.key, e.val)) = ads.map (fun a => (Value.pointer (some a), Value.bool true)) →
    ∃ r, (Instr.findAsking 27 (.pointer (some a)) es i).run Yba.prog w = .ok r w ∧ (a ∈ ads → ∃ j, r = some (j, .bool true)) ∧ (a ∉ ads → r = none)
  | [], [], i, _, _ => ⟨none, by simp [Instr.findAsking], by simp, by simp⟩
  | [], _ :: _, _, _, h => by simp at h
  | _ :: _, [], _, _, h => by simp at h
  | b :: ads, e :: es, i, hc, h => by
    simp only [List.map_cons, List.cons.injEq, Prod.mk.injEq] at h
    obtain ⟨⟨hk, hv⟩, ht⟩ := h
    have hq := equal_ptr a b ha (hc b (by simp))
    by_cases hab : a = b
    · refine ⟨some (i, .bool true), ?_, fun _ => ⟨i, rfl⟩, fun hn => absurd (by simp [hab]) hn⟩
      subst hab
      simp [Instr.findAsking, hk, hv, hq]
    · obtain ⟨r, h1, h2, h3⟩ := findAsking_ptr ha ads es (i + 1) (fun x hx => hc x (by simp [hx])) ht
      refine ⟨r, ?_, fun hm => h2 (by simpa [hab] using hm), fun hn => h3 (fun hm => hn (by simp [hm]))⟩
      simp [Instr.findAsking, hk, hq, hab, h1]

theorem findKey_ptr {w : World} {a : Addr} (ha : IsCells w a) (ads : List Addr) (es : List MapEntry) (hc : ∀ b ∈ ads, IsCells w b) (h : es.map (fun e => (e.key, e.val)) = ads.map (fun a => (Value.pointer (some a), Value.bool true))) :
    ∃ r, (Instr.findKey 27 (.pointer (some a)) es).run Yba.prog w = .ok r w ∧ (a ∈ ads → ∃ j, r = some (j, .bool true)) ∧ (a ∉ ads → r = none) := by
  rcases es with _ | ⟨e, es⟩
  · rcases ads with _ | ⟨b, ads⟩
    · exact ⟨none, by simp [Instr.findKey, run_underlying Yba.underlying27, Instr.findNow], by simp, by simp⟩
    · simp at h
  · obtain ⟨r, h1, h2, h3⟩ := findAsking_ptr ha ads (e :: es) 0 hc h
    refine ⟨r, ?_, h2, h3⟩
    simp [Instr.findKey, run_underlying Yba.underlying27, Instr.findNow, Instr.sameNow, h1]

theorem checkKey_ptr (w : World) (em : Bool) (a : Option Addr) : (Instr.checkKey em 10000 27 (.pointer a)).run Yba.prog w = .ok () w := by
  show (Instr.checkKey em (9999 + 1) 27 (.pointer a)).run Yba.prog w = .ok () w
  generalize 9999 = d
  simp [Instr.checkKey, run_underlying Yba.underlying27]

theorem lookup_ptr {w : World} {b : Nat} {ads : List Addr} (hs : SetAt w b ads) (hc : ∀ b ∈ ads, IsCells w b) {a : Addr} (ha : IsCells w a) :
    (Instr.lookup 67 (.map (some b)) (.pointer (some a)) false).run Yba.prog w = .ok (.bool (decide (a ∈ ads))) w := by
  obtain ⟨es, clock, hb, he⟩ := hs
  obtain ⟨r, h1, h2, h3⟩ := findKey_ptr ha ads es.toList hc he
  by_cases hm : a ∈ ads
  · obtain ⟨j, rfl⟩ := h2 hm
    simp [Instr.lookup, run_underlying Yba.underlying67, MapKept.run_getObj_map hb, checkKey_ptr, h1, hm]
  · obtain rfl := h3 hm
    simp [Instr.lookup, run_underlying Yba.underlying67, MapKept.run_getObj_map hb, checkKey_ptr, h1, hm]

theorem update_ptr {w : World} {b : Nat} {ads : List Addr} (hs : SetAt w b ads) (hc : ∀ b ∈ ads, IsCells w b) {a : Addr} (ha : IsCells w a) (hn : a ∉ ads) :
    ∃ w', (Instr.mapUpdate 67 (.map (some b)) (.pointer (some a)) (.bool true)).run Yba.prog w = .ok () w' ∧ SetAt w' b (ads ++ [a]) ∧ w.grownBy w' (some b) ∧ w'.heap.size = w.heap.size := by
  obtain ⟨es, clock, hb, he⟩ := hs
  obtain ⟨r, h1, h2, h3⟩ := findKey_ptr ha ads es.toList hc he
  obtain rfl := h3 hn
  have hlt : b < w.heap.size := by
    rcases Nat.lt_or_ge b w.heap.size with h | h
    · exact h
    · rw [Array.getElem?_eq_none h] at hb; cases hb
  refine ⟨ChangeMaps.setBlock w b (.map (es.push ⟨.pointer (some a), .bool true, clock⟩) (clock + 1)), ?_, ⟨es.push ⟨.pointer (some a), .bool true, clock⟩, clock + 1, ?_, ?_⟩, ⟨rfl, rfl, rfl, ?_, ?_⟩, ?_⟩
  · simp [Instr.mapUpdate, run_underlying Yba.underlying67, MapKept.run_getObj_map hb, checkKey_ptr, h1, MapKept.run_setObj_map _ hb, Result.andThen, ChangeMaps.setBlock]
  · simp [ChangeMaps.setBlock, hlt]
  · simp [he]
  · simp [ChangeMaps.setBlock]
  · intro i hi hne
    have : b ≠ i := fun e => hne (by rw [e])
    simp [ChangeMaps.setBlock, this]
  · simp [ChangeMaps.setBlock]

/-! ### The graph -/

/-- The eleven cells of a 'bridge.Struct'. -/
def stCells (un : Bool) (f : Value) : Array Value :=
  #[.string ⟨#[]⟩, .string ⟨#[]⟩, .int .i64 0, .int .i64 0, .int .i64 0, .string ⟨#[]⟩, .string ⟨#[]⟩, .bool un, .int .i64 0, f, .int .i64 0]

/-- v is a slice of n pointers, the j-th to block p j. -/
def RowAt (W : World) (N : Nat) (v : Value) (n : Nat) (p : Nat → Nat) : Prop :=
  ∃ ao cap, v = .slice ao n cap ∧ (n = 0 ∨ ∃ g, ao = some ⟨g, 0, none⟩ ∧ g < N ∧ ∀ j, j < n → W.cell? ⟨g, j, none⟩ = some (.pointer (some ⟨p j, 0, none⟩)))

/-- What the law was handed, read as plain data: n structs; the i-th a union or none, of nf i fields, the j-th holding struct hd i j (or none) and bearing tg i j. -/
structure Sp where
  n : Nat
  un : Nat → Bool
  nf : Nat → Nat
  hd : Nat → Nat → Option Nat
  tg : Nat → Nat → Int

structure Sp.Ok (S : Sp) : Prop where
  n256 : S.n ≤ 256
  nf1024 : ∀ i, i < S.n → S.nf i ≤ 1024
  held : ∀ i, i < S.n → ∀ j, j < S.nf i → ∀ k, S.hd i j = some k → k < i

def ad (R i : Nat) : Addr := ⟨R + i, 0, none⟩

/-- The graph: struct i lies in block R + i, its field j in block fb i j. -/
structure Gr (W : World) (N R : Nat) (S : Sp) (fb : Nat → Nat → Nat) (fv : Nat → Value) : Prop where
  lo : R + S.n ≤ N
  st : ∀ i, i < S.n → W.heap[R + i]? = some (.cells (stCells (S.un i) (fv i)) 32 (0, 0))
  row : ∀ i, i < S.n → RowAt W N (fv i) (S.nf i) (fb i)
  fd : ∀ i, i < S.n → ∀ j, j < S.nf i → FdAt W N ((S.hd i j).map (ad R)) (S.tg i j) (fb i j)

theorem TyAt.below {W W' : World} {N : Nat} {h : Option Addr} {l : Int} (hB : Below N W W') : ∀ {d b : Nat}, TyAt W N h l d b → TyAt W' N h l d b
  | 0, _, ⟨h1, h2⟩ => ⟨h1, (hB.block _ h1).trans h2⟩
  | _ + 1, _, ⟨h1, b', h2, h3⟩ => ⟨h1, b', (hB.block _ h1).trans h2, h3.below hB⟩

theorem FdAt.below {W W' : World} {N : Nat} {h : Option Addr} {l : Int} (hB : Below N W W') {b : Nat} : FdAt W N h l b → FdAt W' N h l b
  | ⟨h1, t, d, h2, h3⟩ => ⟨h1, t, d, (hB.block _ h1).trans h2, h3.below hB⟩

theorem RowAt.below {W W' : World} {N n : Nat} {v : Value} {p : Nat → Nat} (hB : Below N W W') : RowAt W N v n p → RowAt W' N v n p
  | ⟨ao, cap, h1, h2⟩ => ⟨ao, cap, h1, orRight h2 fun ⟨g, h3, h4, h5⟩ => ⟨g, h3, h4, fun j hj => (hB.cell (p := ⟨g, j, none⟩) h4).trans (h5 j hj)⟩⟩

theorem Gr.below {W W' : World} {N R : Nat} {S : Sp} {fb : Nat → Nat → Nat} {fv : Nat → Value} (h : Gr W N R S fb fv) (hB : Below N W W') : Gr W' N R S fb fv :=
  ⟨h.lo, fun i hi => (hB.block _ (by have := h.lo; omega)).trans (h.st i hi), fun i hi => (h.row i hi).below hB, fun i hi j hj => (h.fd i hi j hj).below hB⟩

theorem Gr.cells {W : World} {N R : Nat} {S : Sp} {fb : Nat → Nat → Nat} {fv : Nat → Value} (h : Gr W N R S fb fv) {i : Nat} (hi : i < S.n) : IsCells W (ad R i) := ⟨_, _, h.st i hi⟩

/-- The first k structs' addresses. -/
def adsTo (R k : Nat) : List Addr := (List.range k).map (ad R)

theorem mem_adsTo {R k i : Nat} : ad R i ∈ adsTo R k ↔ i < k := by
  simp only [adsTo, List.mem_map, List.mem_range, ad, Addr.mk.injEq]
  constructor
  · rintro ⟨j, hj, h, _⟩; omega
  · intro h; exact ⟨i, h, by simp⟩

theorem adsTo_succ (R k : Nat) : adsTo R (k + 1) = adsTo R k ++ [ad R k] := by simp [adsTo, List.range_succ]

theorem Gr.cellsTo {W : World} {N R : Nat} {S : Sp} {fb : Nat → Nat → Nat} {fv : Nat → Value} (h : Gr W N R S fb fv) {k : Nat} (hk : k ≤ S.n) : ∀ a ∈ adsTo R k, IsCells W a := by
  intro a ha
  simp only [adsTo, List.mem_map, List.mem_range] at ha
  obtain ⟨i, hi, rfl⟩ := ha
  exact h.cells (by omega)

theorem SetAt.block {w w' : World} {b : Nat} {ads : List Addr} (h : SetAt w b ads) (hb : w'.heap[b]? = w.heap[b]?) : SetAt w' b ads := by
  obtain ⟨es, c, h1, h2⟩ := h
  exact ⟨es, c, hb.trans h1, h2⟩

end Go.Proofs.Ybulkawcu
