import Derived.Test.YbulkcuyeFmtBase
namespace Go.Proofs.YbulkcuyeFmt
open Go.RowKit Go.Extern.Stop Go.Stop Go.Extern

def cellsOfZero (o : Option Value) : Array Value := match o with
  | some (.agg c) => c
  | _ => #[]
theorem info9 : (Ybaf.prog.info? 9).map (fun i => (i.zero, i.size, i.bytes)) = some (some (.string ByteArray.empty), 1, 16) := by kernel_rfl
theorem info57 : (Ybaf.prog.info? 57).map (fun i => (i.zero, i.size, i.bytes)) = some (some (.pointer none), 1, 8) := by kernel_rfl
theorem z70_run (W : World) : (zeroValue 70).run Ybaf.prog W = .ok (.agg (cellsOfZero Ybaf.t70.zero)) W := by kernel_rfl
theorem z70_size : (cellsOfZero Ybaf.t70.zero).size = 673 := by kernel_rfl
/-- A manager's zero cells, of which no more is said than how many they are. -/
theorem z70 : ∃ Z : Array Value, (∀ W, (zeroValue 70).run Ybaf.prog W = .ok (.agg Z) W) ∧ Z.size = 673 := ⟨_, z70_run, z70_size⟩

/-- What the entries read as. -/
structure Ents (w : World) (a : Option Addr) (L : Nat) (pa : Nat → Option Addr) (pn pc : Nat → Nat) (mo : Nat → Int) (ot : Nat → Bool) (z : Nat → Nat → Int) : Prop where
  cells : 0 < L → ∃ b off, a = some ⟨b, off, none⟩ ∧ ∀ j, j < L → w.cell? ⟨b, off + j * 3, none⟩ = some (.slice (pa j) (pn j) (pc j)) ∧ w.cell? ⟨b, off + j * 3 + 1, none⟩ = some (.int .u8 (mo j)) ∧ w.cell? ⟨b, off + j * 3 + 2, none⟩ = some (.bool (ot j))
  path : ∀ j, j < L → 0 < pn j → ∃ b off, pa j = some ⟨b, off, none⟩ ∧ ∀ i, i < pn j → w.cell? ⟨b, off + i, none⟩ = some (.int .u8 (z j i))
  byte : ∀ j, j < L → ∀ i, i < pn j → 0 ≤ z j i ∧ z j i ≤ 255
  mode : ∀ j, j < L → 0 ≤ mo j ∧ mo j ≤ 255

/-- A transaction's cells. -/
def txf (m : Nat) (id st : Int) (h : Value) (p : Option Addr) (i : Nat) : Value :=
  match i with
  | 0 => .pointer (some ⟨m, 0, none⟩)
  | 1 => .int .u64 id
  | 2 => h
  | 3 => .pointer none
  | 4 => .pointer none
  | 5 => .pointer none
  | 6 => .pointer none
  | 7 => .pointer p
  | 8 => .map none
  | 9 => .pointer none
  | 10 => .int .u64 0
  | 11 => .int .u32 0
  | 12 => .int .u8 st
  | 13 => .int .u8 0
  | 14 => .int .u8 0
  | 15 => .bool false
  | _ => .pointer none
theorem tx_new (w : World) (m : Nat) (id st : Int) (p : Option Addr) :
    (w.alloc (.cells #[.pointer (some ⟨m, 0, none⟩), .int .u64 id, .slice none 0 0, .pointer none, .pointer none, .pointer none, .pointer none, .pointer p, .map none, .pointer none, .int .u64 0, .int .u32 0, .int .u8 st, .int .u8 0, .int .u8 0, .bool false, .pointer none] 83)).rowIs w.heap.size 83 17 (txf m id st (.slice none 0 0) p) :=
  World.rowIs_alloc w _ 83 _ (fun i hi => by
    match i, hi with
    | 0, _ => rfl
    | 1, _ => rfl
    | 2, _ => rfl
    | 3, _ => rfl
    | 4, _ => rfl
    | 5, _ => rfl
    | 6, _ => rfl
    | 7, _ => rfl
    | 8, _ => rfl
    | 9, _ => rfl
    | 10, _ => rfl
    | 11, _ => rfl
    | 12, _ => rfl
    | 13, _ => rfl
    | 14, _ => rfl
    | 15, _ => rfl
    | 16, _ => rfl
    | n + 17, hi => exact absurd hi (by simp))
/-- An entry's cells. -/
def enf (s : ByteArray) (h : Nat) (md : Int) (i : Nat) : Value :=
  match i with
  | 0 => .string s
  | 1 => .pointer none
  | 2 => .pointer (some ⟨h, 0, none⟩)
  | 3 => .pointer none
  | 4 => .pointer none
  | 5 => .int .u32 0
  | 6 => .int .u8 md
  | 7 => .int .u8 0
  | 8 => .int .u8 0
  | _ => .int .u16 0
theorem en_new (w : World) (s : ByteArray) (h : Nat) (md : Int) :
    (w.alloc (.cells #[.string s, .pointer none, .pointer (some ⟨h, 0, none⟩), .pointer none, .pointer none, .int .u32 0, .int .u8 md, .int .u8 0, .int .u8 0, .int .u16 0] 96)).rowIs w.heap.size 96 10 (enf s h md) :=
  World.rowIs_alloc w _ 96 _ (fun i hi => by
    match i, hi with
    | 0, _ => rfl
    | 1, _ => rfl
    | 2, _ => rfl
    | 3, _ => rfl
    | 4, _ => rfl
    | 5, _ => rfl
    | 6, _ => rfl
    | 7, _ => rfl
    | 8, _ => rfl
    | 9, _ => rfl)

def nmf (nm : Nat → ByteArray) (j i : Nat) : Value := if i < j then .string (nm i) else .string ByteArray.empty
def ebf (eb : Nat → Nat) (j i : Nat) : Value := if i < j then .pointer (some ⟨eb i, 0, none⟩) else .pointer none
def holder (t o : Nat) (b : Bool) : Nat := if b then o else t

/-- While the entries are laid: names, list, snap and what lies behind them; N is the first of the three rows. -/
structure Bld (W1 wr : World) (t o N n j : Nat) (mo : Nat → Int) (ot : Nat → Bool) (nm : Nat → ByteArray) (eb : Nat → Nat) : Prop where
  names : wr.rowIs N 9 n (nmf nm j)
  list : wr.rowIs (N + 1) 57 n (ebf eb j)
  snap : wr.rowIs (N + 1 + 1) 57 n (ebf eb j)
  ent : ∀ i, i < j → N + 3 ≤ eb i ∧ wr.rowIs (eb i) 96 10 (enf (nm i) (holder t o (ot i)) (mo i % 6 + 1))
  bel : Below N W1 wr
  size : N + 3 ≤ wr.heap.size

theorem Bld.step {W1 wr wp : World} {t o N n j : Nat} {mo : Nat → Int} {ot : Nat → Bool} {nm : Nat → ByteArray} {eb : Nat → Nat} (h : Bld W1 wr t o N n j mo ot nm eb) (s : ByteArray) (o1 : Obj) (hp : Below (wr.alloc o1).heap.size (wr.alloc o1) wp) (d : Nat) (hd : d = holder t o (ot j)) :
    Bld W1 ((((wp.setCell ⟨N, j, none⟩ (.string s)).setCell ⟨N + 1, j, none⟩ (.pointer (some ⟨wp.heap.size, 0, none⟩))).setCell ⟨N + 1 + 1, j, none⟩ (.pointer (some ⟨wp.heap.size, 0, none⟩))).alloc (.cells #[.string s, .pointer none, .pointer (some ⟨d, 0, none⟩), .pointer none, .pointer none, .int .u32 0, .int .u8 (mo j % 6 + 1), .int .u8 0, .int .u8 0, .int .u16 0] 96))
      t o N n (j + 1) mo ot (fun i => if i = j then s else nm i) (fun i => if i = j then wp.heap.size else eb i) := by
  subst hd
  have hsz := h.size
  have hpz : wr.heap.size + 1 ≤ wp.heap.size := by have := hp.size; simpa using this
  have hb : Below wr.heap.size wr wp := ((Below.refl _ wr).alloc (Nat.le_refl _) o1).trans (hp.mono (by simp))
  have key : ∀ (b : Nat) (ty : TypeId) (m : Nat) (f : Nat → Value), wr.rowIs b ty m f → wp.rowIs b ty m f := fun b ty m f hr => hr.of_block (hb.block b hr.lt)
  refine ⟨?_, ?_, ?_, ?_, ?_, ?_⟩
  · refine (((((key _ _ _ _ h.names).set j (.string s)).setOther (a := ⟨N + 1, j, none⟩) (by show N ≠ N + 1; omega) _).setOther (a := ⟨N + 1 + 1, j, none⟩) (by show N ≠ N + 1 + 1; omega) _).alloc _).congr fun i _ => ?_
    unfold nmf
    by_cases e : i = j
    · subst e; simp
    · by_cases e2 : i < j
      · simp [e, e2, show i < j + 1 by omega]
      · simp [e, e2, show ¬ i < j + 1 by omega]
  · refine (((((key _ _ _ _ h.list).setOther (a := ⟨N, j, none⟩) (by show N + 1 ≠ N; omega) (.string s)).set j (.pointer (some ⟨wp.heap.size, 0, none⟩))).setOther (a := ⟨N + 1 + 1, j, none⟩) (by show N + 1 ≠ N + 1 + 1; omega) _).alloc _).congr fun i _ => ?_
    unfold ebf
    by_cases e : i = j
    · subst e; simp
    · by_cases e2 : i < j
      · simp [e, e2, show i < j + 1 by omega]
      · simp [e, e2, show ¬ i < j + 1 by omega]
  · refine (((((key _ _ _ _ h.snap).setOther (a := ⟨N, j, none⟩) (by show N + 1 + 1 ≠ N; omega) (.string s)).setOther (a := ⟨N + 1, j, none⟩) (by show N + 1 + 1 ≠ N + 1; omega) (.pointer (some ⟨wp.heap.size, 0, none⟩))).set j _).alloc _).congr fun i _ => ?_
    unfold ebf
    by_cases e : i = j
    · subst e; simp
    · by_cases e2 : i < j
      · simp [e, e2, show i < j + 1 by omega]
      · simp [e, e2, show ¬ i < j + 1 by omega]
  · intro i hi
    by_cases e : i = j
    · subst e
      simp only [if_pos]
      refine ⟨by omega, ?_⟩
      have h1 := en_new (((wp.setCell ⟨N, i, none⟩ (.string s)).setCell ⟨N + 1, i, none⟩ (.pointer (some ⟨wp.heap.size, 0, none⟩))).setCell ⟨N + 1 + 1, i, none⟩ (.pointer (some ⟨wp.heap.size, 0, none⟩))) s (holder t o (ot i)) (mo i % 6 + 1)
      rw [World.size_setCell, World.size_setCell, World.size_setCell] at h1
      exact h1
    · simp only [if_neg e]
      obtain ⟨h1, h2⟩ := h.ent i (by omega)
      refine ⟨h1, ?_⟩
      exact ((((key _ _ _ _ h2).setOther (a := ⟨N, j, none⟩) (by show eb i ≠ N; omega) _).setOther (a := ⟨N + 1, j, none⟩) (by show eb i ≠ N + 1; omega) _).setOther (a := ⟨N + 1 + 1, j, none⟩) (by show eb i ≠ N + 1 + 1; omega) _).alloc _
  · have h1 := h.bel.trans (hb.mono (by omega))
    exact (((h1.setCell (p := ⟨N, j, none⟩) (Nat.le_refl _) _).setCell (p := ⟨N + 1, j, none⟩) (by show N ≤ N + 1; omega) _).setCell (p := ⟨N + 1 + 1, j, none⟩) (by show N ≤ N + 1 + 1; omega) _).alloc (by simp; omega) _
  · simp; omega
end Go.Proofs.YbulkcuyeFmt
