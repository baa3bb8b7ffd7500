import Derived.Test.YbulkcuyeFmtFmt
import Derived.WalkKit
import Derived.WalkSpells
import Derived.WalkLawsBesides
import Derived.Handy
import Derived.BigQuiet
import Derived.Deep.QuietTactic
import Derived.Deep.OwnRows
import Derived.Deep.RegionHeld3
import Derived.Laws.BytesString
import Derived.LaidEqlPtr
namespace Go.Proofs.YbulkcuyeFmt
open Go.RowKit Go.Extern.Stop Go.Stop Go.Extern

/-- r lies strictly below a. -/
def below (r a : ByteArray) : Bool := if h : a.size < r.size then (if (r[a.size].toNat : Int) = 47 then (r.extract 0 a.size).toList == a.toList else false) else false

theorem zzbelow_any (r a : ByteArray) (w : World) : Calls Ybaf.prog 6 #[.string r, .string a] w fun e w' => e = .returned (.bool (below r a)) ∧ w' = w := by
  by_cases h : a.size < r.size
  · have hb : below r a = if (r[a.size].toNat : Int) = 47 then (r.extract 0 a.size).toList == a.toList else false := by simp [below, h]
    rw [hb]
    clear hb
    by_cases h2 : (r[a.size].toNat : Int) = 47
    · rw [if_pos h2]
      go_enter Ybaf.func6, Ybaf.ntmps6
      go_wp2
      go_ret
      exact ⟨rfl, rfl⟩
    · rw [if_neg h2]
      go_enter Ybaf.func6, Ybaf.ntmps6
      go_wp2
      go_ret
      exact ⟨rfl, rfl⟩
  · have hb : below r a = false := by simp [below, h]
    rw [hb]
    clear hb
    go_enter Ybaf.func6, Ybaf.ntmps6
    go_wp2
    go_ret
    exact ⟨rfl, rfl⟩

theorem prefixL_any (r a : ByteArray) (w : World) (h : a.size ≤ r.size) : Calls Ybaf.prog 18 #[.string r, .string a] w fun e w' => e = .returned (.bool ((r.extract 0 a.size).toList == a.toList)) ∧ w' = w := by
  go_enter Ybaf.func18, Ybaf.ntmps18
  go_wp2
  go_ret
  exact ⟨rfl, rfl⟩
theorem prefix_any (r a : ByteArray) (w : World) (h : a.size ≤ r.size) : Calls Ybaf.prog 14 #[.string r, .string a] w fun e w' => e = .returned (.bool ((r.extract 0 a.size).toList == a.toList)) ∧ w' = w := by
  go_enter Ybaf.func14, Ybaf.ntmps14
  go_wp2_with (go_at_call 18; refine (prefixL_any r a _ h).mono ?_; rintro e w' ⟨rfl, rfl⟩)
  go_ret
  exact ⟨rfl, rfl⟩
theorem below_any (r a : ByteArray) (w : World) : Calls Ybaf.prog 9 #[.string r, .string a] w fun e w' => e = .returned (.bool (below r a)) ∧ w' = w := by
  by_cases h : a.size < r.size
  · have hb : below r a = if (r[a.size].toNat : Int) = 47 then (r.extract 0 a.size).toList == a.toList else false := by simp [below, h]
    rw [hb]
    clear hb
    by_cases h2 : (r[a.size].toNat : Int) = 47
    · rw [if_pos h2]
      go_enter Ybaf.func9, Ybaf.ntmps9
      go_wp2_with (go_at_call 14; refine (prefix_any r a _ (by omega)).mono ?_; rintro e w' ⟨rfl, rfl⟩)
      go_ret
      exact ⟨rfl, rfl⟩
    · rw [if_neg h2]
      go_enter Ybaf.func9, Ybaf.ntmps9
      go_wp2
      go_ret
      exact ⟨rfl, rfl⟩
  · have hb : below r a = false := by simp [below, h]
    rw [hb]
    clear hb
    go_enter Ybaf.func9, Ybaf.ntmps9
    go_wp2
    go_ret
    exact ⟨rfl, rfl⟩

/-- A transaction's cells that are read. -/
structure TxnAt (w : World) (b m : Nat) (r st : Int) (held : Value) (pend : Option Addr) : Prop where
  man : w.cell? ⟨b, 0, none⟩ = some (.pointer (some ⟨m, 0, none⟩))
  rule : w.cell? ⟨m, 1, none⟩ = some (.int .u8 r)
  held : w.cell? ⟨b, 2, none⟩ = some held
  pend : w.cell? ⟨b, 7, none⟩ = some (.pointer pend)
  state : w.cell? ⟨b, 12, none⟩ = some (.int .u8 st)
  ltb : b < w.heap.size
  ltm : m < w.heap.size
theorem TxnAt.below {w w' : World} {B b m : Nat} {r st : Int} {held : Value} {pend : Option Addr} (h : TxnAt w b m r st held pend) (k : Below B w w') (hb : b < B) (hm : m < B) : TxnAt w' b m r st held pend :=
  ⟨(k.cell (p := ⟨b, 0, none⟩) hb).trans h.man, (k.cell (p := ⟨m, 1, none⟩) hm).trans h.rule, (k.cell (p := ⟨b, 2, none⟩) hb).trans h.held, (k.cell (p := ⟨b, 7, none⟩) hb).trans h.pend, (k.cell (p := ⟨b, 12, none⟩) hb).trans h.state,
    Nat.lt_of_lt_of_le h.ltb k.size, Nat.lt_of_lt_of_le h.ltm k.size⟩

/-- The four sentinels. -/
structure Sent (w : World) (x0 x1 x2 x3 : Addr) : Prop where
  g0 : w.cell? ⟨0, 0, none⟩ = some (.iface 121 (.pointer (some x0)))
  g1 : w.cell? ⟨1, 0, none⟩ = some (.iface 121 (.pointer (some x1)))
  g2 : w.cell? ⟨2, 0, none⟩ = some (.iface 121 (.pointer (some x2)))
  g3 : w.cell? ⟨3, 0, none⟩ = some (.iface 121 (.pointer (some x3)))

theorem ended_any (b : Nat) (st : Int) (x0 x1 : Addr) (w : World) (hs : w.cell? ⟨b, 12, none⟩ = some (.int .u8 st)) (g0 : w.cell? ⟨0, 0, none⟩ = some (.iface 121 (.pointer (some x0)))) (g1 : w.cell? ⟨1, 0, none⟩ = some (.iface 121 (.pointer (some x1)))) :
    Calls Ybaf.prog 12 #[.pointer (some ⟨b, 0, none⟩)] w fun e w' => e = .returned (.iface 121 (.pointer (some (if st = 2 then x0 else x1)))) ∧ w' = w := by
  by_cases h : st = 2
  · rw [if_pos h]
    subst h
    go_enter Ybaf.func12, Ybaf.ntmps12
    go_wp2
    go_ret
    exact ⟨rfl, rfl⟩
  · rw [if_neg h]
    go_enter Ybaf.func12, Ybaf.ntmps12
    go_wp2
    go_ret
    exact ⟨rfl, rfl⟩

/-- What checkRunning answers. -/
def running (st : Int) (pend : Option Addr) (x0 x1 x2 : Addr) : Value :=
  if st = 0 then (if pend = none then .nilIface else .iface 121 (.pointer (some x2))) else .iface 121 (.pointer (some (if st = 2 then x0 else x1)))

theorem running_any (b m : Nat) (r st : Int) (held : Value) (pend : Option Addr) (x0 x1 x2 x3 : Addr) (w : World) (ht : TxnAt w b m r st held pend) (hs : Sent w x0 x1 x2 x3) :
    Calls Ybaf.prog 7 #[.pointer (some ⟨b, 0, none⟩)] w fun e w' => e = .returned (running st pend x0 x1 x2) ∧ w' = w := by
  have c7 := ht.pend
  have c12 := ht.state
  have g2 := hs.g2
  by_cases h : st = 0
  · subst h
    cases pend with
    | none =>
      simp only [running, if_pos]
      go_enter Ybaf.func7, Ybaf.ntmps7
      go_wp2
      go_ret
      exact ⟨rfl, rfl⟩
    | some p =>
      simp only [running, if_pos]
      go_enter Ybaf.func7, Ybaf.ntmps7
      go_wp2
      go_ret
      exact ⟨rfl, rfl⟩
  · simp only [running, if_neg h]
    go_enter Ybaf.func7, Ybaf.ntmps7
    go_wp2_with (go_at_call 12; refine (ended_any b st x0 x1 _ c12 hs.g0 hs.g1).mono ?_; rintro e w' ⟨rfl, rfl⟩)
    all_goals (go_ret; exact ⟨rfl, rfl⟩)

theorem errorf_none (F : Interp) (s : ByteArray) (b : Nat) (w : World) (hF : F.answers w.tape) (hc : w.cell? ⟨b, 0, none⟩ = some (.iface 9 (.string s))) :
    Calls Ybaf.prog 10 #[.string ⟨#[116, 105, 100, 101, 108, 111, 99, 107, 58, 32, 116, 114, 97, 110, 115, 97, 99, 116, 105, 111, 110, 32, 104, 111, 108, 100, 115, 32, 110, 111, 32, 108, 111, 99, 107, 32, 111, 102, 32, 105, 116, 115, 32, 111, 119, 110, 32, 111, 110, 32, 37, 113]⟩, .slice (some ⟨b, 0, none⟩) 1 1] w
      fun e w' => (∃ p, e = .returned (.iface 121 (.pointer (some p)))) ∧ Below w.heap.size w w' := by
  have hF' := answers_open hF
  go_enter Ybaf.func10, Ybaf.ntmps10
  go_wp2
  go_ret
  exact ⟨⟨_, rfl⟩, ((Below.refl _ w).alloc (Nat.le_refl _) _).drew⟩

theorem errorf_strict (F : Interp) (s : ByteArray) (b : Nat) (w : World) (hF : F.answers w.tape) (hc : w.cell? ⟨b, 0, none⟩ = some (.iface 9 (.string s))) :
    Calls Ybaf.prog 10 #[.string ⟨#[116, 105, 100, 101, 108, 111, 99, 107, 58, 32, 115, 116, 114, 105, 99, 116, 32, 116, 119, 111, 45, 112, 104, 97, 115, 101, 32, 108, 111, 99, 107, 105, 110, 103, 32, 107, 101, 101, 112, 115, 32, 116, 104, 101, 32, 108, 111, 99, 107, 32, 105, 110, 32, 88, 32, 111, 110, 32, 37, 113, 32, 117, 110, 116, 105, 108, 32, 116, 104, 101, 32, 116, 114, 97, 110, 115, 97, 99, 116, 105, 111, 110, 32, 101, 110, 100, 115]⟩, .slice (some ⟨b, 0, none⟩) 1 1] w
      fun e w' => (∃ p, e = .returned (.iface 121 (.pointer (some p)))) ∧ Below w.heap.size w w' := by
  have hF' := answers_open hF
  go_enter Ybaf.func10, Ybaf.ntmps10
  go_wp2
  go_ret
  exact ⟨⟨_, rfl⟩, ((Below.refl _ w).alloc (Nat.le_refl _) _).drew⟩

theorem errorf_below (F : Interp) (s t : ByteArray) (b : Nat) (w : World) (hF : F.answers w.tape) (hc : w.cell? ⟨b, 0, none⟩ = some (.iface 9 (.string s))) (hd : w.cell? ⟨b, 1, none⟩ = some (.iface 9 (.string t))) :
    Calls Ybaf.prog 10 #[.string ⟨#[116, 105, 100, 101, 108, 111, 99, 107, 58, 32, 116, 114, 97, 110, 115, 97, 99, 116, 105, 111, 110, 32, 104, 111, 108, 100, 115, 32, 97, 32, 108, 111, 99, 107, 32, 98, 101, 108, 111, 119, 32, 37, 113, 44, 32, 111, 110, 32, 37, 113, 44, 32, 116, 111, 32, 98, 101, 32, 114, 101, 108, 101, 97, 115, 101, 100, 32, 102, 105, 114, 115, 116]⟩, .slice (some ⟨b, 0, none⟩) 2 2] w
      fun e w' => (∃ p, e = .returned (.iface 121 (.pointer (some p)))) ∧ Below w.heap.size w w' := by
  have hF' := answers_open hF
  go_enter Ybaf.func10, Ybaf.ntmps10
  go_wp2
  go_ret
  exact ⟨⟨_, rfl⟩, ((Below.refl _ w).alloc (Nat.le_refl _) _).drew⟩

theorem equal_self (w : World) (t te : TypeId) (j : TypeInfo) (x : Option Addr) (hp : Ybaf.prog.underlying t = some (.pointer te)) (hte : Ybaf.prog.info? te = some j) (d : Nat) :
    (Op.equalIn (d + 1) t (.pointer x) (.pointer x)).run Ybaf.prog w = .ok true w := by
  cases x with
  | none => simp [Op.equalIn, run_underlying hp]
  | some a => simp [Op.equalIn, run_underlying hp, sizeOf, typeInfo, hte, run_sameAddr_same]
theorem neq_self (w : World) (t te : TypeId) (j : TypeInfo) (x : Option Addr) (hp : Ybaf.prog.underlying t = some (.pointer te)) (hte : Ybaf.prog.info? te = some j) :
    (binOp .neq t (.pointer x) (.pointer x)).run Ybaf.prog w = .ok (.bool false) w := by
  simp only [binOp]
  simp [Op.equal, Op.maxDepth, equal_self w t te j x hp hte 9999]
theorem eql_self (w : World) (t te : TypeId) (j : TypeInfo) (x : Option Addr) (hp : Ybaf.prog.underlying t = some (.pointer te)) (hte : Ybaf.prog.info? te = some j) :
    (binOp .eql t (.pointer x) (.pointer x)).run Ybaf.prog w = .ok (.bool true) w := by
  simp only [binOp]
  simp [Op.equal, Op.maxDepth, equal_self w t te j x hp hte 9999]
theorem has83 : (Ybaf.prog.info? 83).isSome = true := by kernel_rfl
theorem has96 : (Ybaf.prog.info? 96).isSome = true := by kernel_rfl
theorem size83 : (Ybaf.prog.info? 83).map (·.size) = some 17 := by kernel_rfl
theorem eql71 (w : World) (x : Option Addr) : (binOp .eql 71 (.pointer x) (.pointer x)).run Ybaf.prog w = .ok (.bool true) w := by
  obtain ⟨j, hj⟩ := Option.isSome_iff_exists.1 has83
  exact eql_self w 71 83 j x Ybaf.underlying71 hj
theorem neq57 (w : World) (x : Option Addr) : (binOp .neq 57 (.pointer x) (.pointer x)).run Ybaf.prog w = .ok (.bool false) w := by
  obtain ⟨j, hj⟩ := Option.isSome_iff_exists.1 has96
  exact neq_self w 57 96 j x Ybaf.underlying57 hj
/-- Two transactions lie in two blocks of their own: '==' says no. -/
theorem eql71_other {w : World} {c b : Nat} {x y : Array Value} (hc : w.heap[c]? = some (.cells x 83)) (hb : w.heap[b]? = some (.cells y 83)) (hne : c ≠ b) :
    (binOp .eql 71 (.pointer (some ⟨c, 0, none⟩)) (.pointer (some ⟨b, 0, none⟩))).run Ybaf.prog w = .ok (.bool false) w := by
  obtain ⟨j, hj⟩ := Option.isSome_iff_exists.1 has83
  have hsz := size83
  have : j.size ≠ 0 := by rw [hj] at hsz; simp at hsz; omega
  exact run_eql_ptr_other w Ybaf.underlying71 hj this (fun h => hne (by injection h)) hc hb

theorem eql71_nil (w : World) (a : Addr) : (binOp .eql 71 (.pointer none) (.pointer (some a))).run Ybaf.prog w = .ok (.bool false) w := by
  have h : ∀ d, (Op.equalIn (d + 1) 71 (.pointer none) (.pointer (some a))).run Ybaf.prog w = .ok false w := fun d => by simp [Op.equalIn, run_underlying Ybaf.underlying71]
  simp only [binOp]
  simp [Op.equal, Op.maxDepth, h 9999]
/-- modeOf where t holds e: the mode; where another does: none. -/
theorem mode_own (e t : Nat) (md : Int) (w : World) (c4 : w.cell? ⟨e, 4, none⟩ = some (.pointer none)) (c2 : w.cell? ⟨e, 2, none⟩ = some (.pointer (some ⟨t, 0, none⟩))) (c6 : w.cell? ⟨e, 6, none⟩ = some (.int .u8 md)) :
    Calls Ybaf.prog 11 #[.pointer (some ⟨e, 0, none⟩), .pointer (some ⟨t, 0, none⟩)] w fun e w' => e = .returned (.int .u8 md) ∧ w' = w := by
  have h71 := eql71
  go_enter Ybaf.func11, Ybaf.ntmps11
  go_wp2
  go_ret
  exact ⟨rfl, rfl⟩
set_option maxRecDepth 20000 in
theorem mode_other (e t o : Nat) (x y : Array Value) (w : World) (c4 : w.cell? ⟨e, 4, none⟩ = some (.pointer none)) (c2 : w.cell? ⟨e, 2, none⟩ = some (.pointer (some ⟨o, 0, none⟩))) (c3 : w.cell? ⟨e, 3, none⟩ = some (.pointer none))
    (hc : w.heap[o]? = some (.cells x 83)) (hb : w.heap[t]? = some (.cells y 83)) (hne : o ≠ t) :
    Calls Ybaf.prog 11 #[.pointer (some ⟨e, 0, none⟩), .pointer (some ⟨t, 0, none⟩)] w fun e w' => e = .returned (.int .u8 0) ∧ w' = w := by
  have h71 := eql71_other hc hb hne
  have h71n := eql71_nil
  clear hc hb
  go_enter Ybaf.func11, Ybaf.ntmps11
  go_wp2
  go_ret
  exact ⟨rfl, rfl⟩

theorem info5 : (Ybaf.prog.info? 5).map (fun i => (i.zero, i.size, i.bytes)) = some (some (.int .u8 0), 1, 1) := by kernel_rfl
/-- A row of bytes of the call's own is turned to a string. -/
theorem conv_row (W : World) (g n : Nat) (z : Nat → Int) (hr : W.rowIs g 5 n (fun j => .int .u8 (z j))) : ∃ s : ByteArray, s.size = n ∧ (convert 23 9 (.slice (some ⟨g, 0, none⟩) n n)).run Ybaf.prog W = .ok (.string s) W := by
  have h : (convert 23 9 (.slice (some ⟨g, 0, none⟩) n n)).run Ybaf.prog W = .ok (.string (((List.range n).map z).foldl (fun r n => r.push (UInt8.ofNat n.toNat)) ByteArray.empty)) W := by
    rw [run_convert_bytes_string _ 23 9 5 _ n n Ybaf.underlying23 Ybaf.underlying5 Ybaf.underlying9]
    refine run_bytesToString _ ⟨g, 0, none⟩ n n ((List.range n).map z) ?_
    have := run_loadCells_list (P := Ybaf.prog) W ⟨g, 0, none⟩ (((List.range n).map z).map (Value.int .u8)) (fun j v hj => by
      simp only [List.getElem?_map, Option.map_eq_some_iff] at hj
      obtain ⟨y, ⟨x, hx, rfl⟩, rfl⟩ := hj
      simp only [List.getElem?_eq_some_iff, List.getElem_range] at hx
      obtain ⟨hlt, rfl⟩ := hx
      simp at hlt
      have hadd : (⟨g, 0, none⟩ : Addr).add j = ⟨g, j, none⟩ := by unfold Addr.add; split <;> simp_all
      rw [hadd]; exact hr.cell hlt)
    simpa using this
  refine ⟨_, ?_, h⟩
  have : ∀ (l : List Int) (r : ByteArray), (l.foldl (fun r n => r.push (UInt8.ofNat n.toNat)) r).size = r.size + l.length := by
    intro l
    induction l with
    | nil => intro r; rfl
    | cons x l ih => intro r; rw [List.foldl_cons, ih, ByteArray.size_push, List.length_cons]; omega
  rw [this]; simp

def ab (x : Int) : Int := if x % 3 = 0 then 97 else if x % 3 = 1 then 98 else 47
theorem abx0 (W : World) : (Instr.index 9 (.string ⟨#[97, 98, 47]⟩) (.int .u8 0)).run Ybaf.prog W = .ok (.int .u8 97) W := by kernel_rfl
theorem abx1 (W : World) : (Instr.index 9 (.string ⟨#[97, 98, 47]⟩) (.int .u8 1)).run Ybaf.prog W = .ok (.int .u8 98) W := by kernel_rfl
theorem abx2 (W : World) : (Instr.index 9 (.string ⟨#[97, 98, 47]⟩) (.int .u8 2)).run Ybaf.prog W = .ok (.int .u8 47) W := by kernel_rfl
theorem abx (W : World) (x : Int) : (Instr.index 9 (.string ⟨#[97, 98, 47]⟩) (.int .u8 (x % 3))).run Ybaf.prog W = .ok (.int .u8 (ab x)) W := by
  have h1 := Int.emod_nonneg x (show (3 : Int) ≠ 0 by omega)
  have h2 := Int.emod_lt_of_pos x (show (0 : Int) < 3 by omega)
  rcases (by omega : x % 3 = 0 ∨ x % 3 = 1 ∨ x % 3 = 2) with h | h | h
  · rw [h, show ab x = 97 by simp [ab, h]]; exact abx0 W
  · rw [h, show ab x = 98 by simp [ab, h]]; exact abx1 W
  · rw [h, show ab x = 47 by simp [ab, h]]; exact abx2 W

set_option maxRecDepth 20000 in
theorem path_any (a : Option Addr) (n cap : Nat) (z : Nat → Int) (w : World) (hn : n ≤ 1024) (hz : ∀ j, j < n → 0 ≤ z j ∧ z j ≤ 255) (hc : 0 < n → ∃ b off, a = some ⟨b, off, none⟩ ∧ ∀ j, j < n → w.cell? ⟨b, off + j, none⟩ = some (.int .u8 (z j))) :
    Calls Ybaf.prog 4 #[.slice a n cap] w fun e w' => (∃ s : ByteArray, s.size ≤ 1024 ∧ e = .returned (.string s)) ∧ Below w.heap.size w w' := by
  have hmk := run_make_row' (P := Ybaf.prog) 23 5 (.int .u8 0) 1 Ybaf.underlying23 info5 rfl .i64 .i64 n (by omega) (by omega)
  have HC : Hid _ := hc
  have HZ : Hid _ := hz
  clear hc hz
  go_enter Ybaf.func4, Ybaf.ntmps4
  go_wp2
  go_loopw [11] (fun i wr => ∃ k : Nat, k ≤ n ∧ i = .int .i64 (k : Int) ∧ wr.rowIs w.heap.size 5 n (fun j => .int .u8 (if j < k then ab (z j) else 0)) ∧ Below w.heap.size w wr) (fun i _ => n - (intOf i).toNat)
  case atStart => exact ⟨0, by omega, rfl, (World.rowIs_made _ _ _ _).congr fun j _ => by simp, (Below.refl _ w).alloc (Nat.le_refl _) _⟩
  case round =>
    obtain ⟨k, hk, rfl, hr, hb⟩ := hrel
    by_cases hlt : k < n
    · obtain ⟨b, off, rfl, hcell⟩ := HC.out (by omega)
      have ck : wr.cell? ⟨b, off + k, none⟩ = some (.int .u8 (z k)) := cell_later hb (hcell k hlt)
      have hz0 := (HZ.out k hlt).1
      have hz1 := (HZ.out k hlt).2
      have hix := abx wr (z k)
      have f0 := hr.frozen k
      have q0 := hr.cell hlt
      clear hcell
      go_wp2
      go_roundw
      case rel => exact ⟨k + 1, by omega, by go_num, (hr.set k _).congr fun j _ => by
          by_cases e : j = k
          · subst e; simp
          · by_cases e2 : j < k
            · simp [e, e2, show j < k + 1 by omega]
            · simp [e, e2, show ¬ j < k + 1 by omega], hb.setCell (Nat.le_refl _) _⟩
      case measure => simp [intOf]; omega
    · obtain rfl : k = n := by omega
      obtain ⟨s, hs, hcv⟩ := conv_row wr w.heap.size k _ hr
      have HS : Hid _ := hs
      clear hs
      go_wp2
      go_ret
      exact ⟨⟨s, by have := HS.out; omega, rfl⟩, hb⟩
end Go.Proofs.YbulkcuyeFmt
