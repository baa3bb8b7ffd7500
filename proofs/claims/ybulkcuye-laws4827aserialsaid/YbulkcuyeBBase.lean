import Derived.Test.YbulkcuyeRows
import Derived.WalkKit
import Derived.WalkSpells
import Derived.WalkLawsBesides
import Derived.Handy
import Derived.BigQuiet
import Derived.Deep.QuietTactic
import Derived.Deep.OwnRows
import Derived.Laws.CopyOwn
import Derived.LaidEqlPtr
namespace Go.Proofs.Ybulkcuye
open Go.RowKit

theorem info32 : (Yba.prog.info? 32).map (fun i => (i.zero, i.size, i.bytes)) = some (some (.pointer none), 1, 8) := by kernel_rfl
theorem size32 : (Yba.prog.info? 32).map (·.size) = some 1 := by kernel_rfl

/-- '!=' and '==' between a pointer and itself. -/
theorem equal_self (w : World) (t te : TypeId) (j : TypeInfo) (x : Option Addr) (hp : Yba.prog.underlying t = some (.pointer te)) (hte : Yba.prog.info? te = some j) (d : Nat) :
    (Op.equalIn (d + 1) t (.pointer x) (.pointer x)).run Yba.prog w = .ok true w := by
  cases x with
  | none => simp [Op.equalIn, run_underlying hp]
  | some a => simp [Op.equalIn, run_underlying hp, sizeOf, typeInfo, hte, run_sameAddr_same]
theorem neq_self (w : World) (t te : TypeId) (j : TypeInfo) (x : Option Addr) (hp : Yba.prog.underlying t = some (.pointer te)) (hte : Yba.prog.info? te = some j) :
    (binOp .neq t (.pointer x) (.pointer x)).run Yba.prog w = .ok (.bool false) w := by
  simp only [binOp]
  simp [Op.equal, Op.maxDepth, equal_self w t te j x hp hte 9999]
theorem eql_self (w : World) (t te : TypeId) (j : TypeInfo) (x : Option Addr) (hp : Yba.prog.underlying t = some (.pointer te)) (hte : Yba.prog.info? te = some j) :
    (binOp .eql t (.pointer x) (.pointer x)).run Yba.prog w = .ok (.bool true) w := by
  simp only [binOp]
  simp [Op.equal, Op.maxDepth, equal_self w t te j x hp hte 9999]
theorem has52 : (Yba.prog.info? 52).isSome = true := by kernel_rfl
theorem has32 : (Yba.prog.info? 32).isSome = true := by kernel_rfl
theorem neq32 (w : World) (x : Option Addr) : (binOp .neq 32 (.pointer x) (.pointer x)).run Yba.prog w = .ok (.bool false) w := by
  obtain ⟨j, hj⟩ := Option.isSome_iff_exists.1 has52
  exact neq_self w 32 52 j x Yba.underlying32 hj
theorem eql32 (w : World) (x : Option Addr) : (binOp .eql 32 (.pointer x) (.pointer x)).run Yba.prog w = .ok (.bool true) w := by
  obtain ⟨j, hj⟩ := Option.isSome_iff_exists.1 has52
  exact eql_self w 32 52 j x Yba.underlying32 hj
theorem neq40 (w : World) (x : Option Addr) : (binOp .neq 40 (.pointer x) (.pointer x)).run Yba.prog w = .ok (.bool false) w := by
  obtain ⟨j, hj⟩ := Option.isSome_iff_exists.1 has32
  exact neq_self w 40 32 j x Yba.underlying40 hj

/-- All blocks but c are as they were. -/
structure Only (c : Nat) (w w' : World) : Prop where
  os : w'.os = w.os
  tape : w'.tape = w.tape
  output : w'.output = w.output
  size : w'.heap.size = w.heap.size
  block : ∀ k, k ≠ c → w'.heap[k]? = w.heap[k]?

theorem Only.refl (c : Nat) (w : World) : Only c w w := ⟨rfl, rfl, rfl, rfl, fun _ _ => rfl⟩
theorem Only.trans {c : Nat} {a b d : World} (h : Only c a b) (k : Only c b d) : Only c a d :=
  ⟨k.os.trans h.os, k.tape.trans h.tape, k.output.trans h.output, k.size.trans h.size, fun i hi => (k.block i hi).trans (h.block i hi)⟩
theorem Only.setCell {c : Nat} {a w : World} (h : Only c a w) (o : Nat) (v : Value) : Only c a (w.setCell ⟨c, o, none⟩ v) :=
  h.trans ⟨rfl, rfl, rfl, by simp [World.setCell], fun k hk => Below.heap_setCell _ _ _ _ hk⟩
theorem Only.drewN {c : Nat} {a w : World} (h : Only c a w) (n : Nat) : Only c a (w.drewN n) := ⟨h.os, h.tape, h.output, h.size, h.block⟩
theorem Only.setRow {c : Nat} {a w : World} (h : Only c a w) (cs : Array Value) : Only c a (w.setRow c cs) :=
  h.trans ⟨rfl, rfl, rfl, by simp [World.setRow], fun k hk => setRow_other w c k cs (by omega)⟩
theorem Only.below {c B : Nat} {w w' : World} (h : Only c w w') (hB : B ≤ c) : Below B w w' :=
  ⟨h.os, h.tape, h.output, Nat.le_of_eq h.size.symm, fun k hk => h.block k (by omega)⟩
theorem Only.row {c b : Nat} {w w' : World} {t : TypeId} {n : Nat} {f : Nat → Value} (h : Only c w w') (hb : b ≠ c) (hr : w.rowIs b t n f) : w'.rowIs b t n f := hr.of_block (h.block b hb)
theorem below_row {B b : Nat} {w w' : World} {t : TypeId} {n : Nat} {f : Nat → Value} (h : Below B w w') (hb : b < B) (hr : w.rowIs b t n f) : w'.rowIs b t n f := hr.of_block (h.block b hb)
theorem below_drewN {B : Nat} {a w : World} (h : Below B a w) (n : Nat) : Below B a (w.drewN n) := ⟨h.os, h.tape, h.output, h.size, h.block⟩

/-- 'copy(dst, src)', dst lying in a row from place o on, src in a row of the call's own. -/
theorem copy_rows (w : World) (c o n dLen dCap : Nat) (t : TypeId) (f : Nat → Value) (hr : w.rowIs c t n f) (hfit : o + dLen ≤ n)
    (g sLen sCap : Nat) (t' : TypeId) (h : Nat → Value) (hs : w.rowIs g t' sLen h) (h1 : ∀ j, j < sLen → (h j).oneCell' = true) (ty : TypeId) (m : Nat) (hm : m = min sLen dLen) :
    ∃ w', (Builtin.copy_ #[36, 36] ty #[.slice (some ⟨c, o, none⟩) dLen dCap, .slice (some ⟨g, 0, none⟩) sLen sCap]).run Yba.prog w = .ok (.int .i64 m) w' ∧
      w'.rowIs c t n (fun j => if o ≤ j ∧ j < o + m then h (j - o) else f j) ∧ Only c w w' := by
  subst hm
  obtain ⟨cur, hb, hn, hc⟩ := hr
  obtain ⟨cur2, hb2, hn2, hc2⟩ := hs
  have hrun := run_copy_row Yba.prog w 36 36 ty 32 c o dLen dCap ⟨g, 0, none⟩ sLen sCap cur t ((List.range (min sLen dLen)).map h) Yba.underlying36 size32 hb (by simp)
    (fun j v hj => by
      simp only [List.getElem?_map, Option.map_eq_some_iff] at hj
      obtain ⟨x, hx, rfl⟩ := hj
      simp only [List.getElem?_eq_some_iff, List.getElem_range] at hx
      obtain ⟨hlt, rfl⟩ := hx
      simp at hlt
      have := hc2 j (by omega)
      have hadd : (⟨g, 0, none⟩ : Addr).add j = ⟨g, j, none⟩ := by unfold Addr.add; split <;> simp_all
      rw [hadd]
      simp [World.cell?, hb2, this]) (by simp; omega)
    (fun v hv => by
      simp only [List.mem_map, List.mem_range] at hv
      obtain ⟨j, hj, rfl⟩ := hv
      exact h1 j (by omega))
  have hlm : (List.map h (List.range (min sLen dLen))).length = min sLen dLen := by simp
  rw [hlm] at hrun
  refine ⟨_, hrun, ⟨_, setRow_heap w c _ _ t _ hb, by simp; omega, fun i hi => ?_⟩, (Only.refl c w).setRow _⟩
  have hci := hc i hi
  have hlen : (cur.toList.take o).length = o := by simp; omega
  simp only [List.getElem?_toArray, List.append_assoc]
  rcases Nat.lt_or_ge i o with h3 | h3
  · rw [List.getElem?_append_left (by omega), if_neg (by omega), List.getElem?_take, if_pos h3]
    simpa using hci
  · rw [List.getElem?_append_right (by omega), hlen]
    rcases Nat.lt_or_ge i (o + min sLen dLen) with h4 | h4
    · rw [List.getElem?_append_left (by rw [hlm]; omega), if_pos ⟨h3, h4⟩, List.getElem?_map, List.getElem?_range (by omega)]
      rfl
    · rw [List.getElem?_append_right (by rw [hlm]; omega), if_neg (by omega)]
      simp only [List.length_map, List.length_range, List.getElem?_drop]
      rw [show o + min sLen dLen + (i - o - min sLen dLen) = i by omega]
      simpa using hci

/-- The pointers that 'mk' lays. -/
def entP (B k j : Nat) : Option Addr := if j < k then some ⟨B + 1 + j, 0, none⟩ else none
/-- A row of pointers. -/
def ptrs (h : Nat → Option Addr) (j : Nat) : Value := .pointer (h j)

theorem mk_zero (tag : Int) (w : World) :
    Calls Yba.prog 11 #[.int .i64 0, .int .u32 tag] w fun e w' => e = .returned (.slice none 0 0) ∧ w' = w := by
  go_enter Yba.func11, Yba.ntmps11
  go_wp2
  go_ret
  exact ⟨rfl, rfl⟩

theorem mk_start (w : World) (k : Nat) :
    (w.alloc (.cells (madeCells #[.pointer none] k) 32)).rowIs w.heap.size 32 k (ptrs (entP w.heap.size 0)) ∧
    (w.alloc (.cells (madeCells #[.pointer none] k) 32)).heap.size = w.heap.size + 1 + 0 ∧ Below w.heap.size w (w.alloc (.cells (madeCells #[.pointer none] k) 32)) :=
  ⟨World.rowIs_made _ _ _ _, by simp, (Below.refl _ _).alloc (Nat.le_refl _) _⟩

theorem mk_step {w wr : World} {k n : Nat} (o : Obj) (hlt : n < k) (hrow : wr.rowIs w.heap.size 32 k (ptrs (entP w.heap.size n))) (hsz : wr.heap.size = w.heap.size + 1 + n) (hb : Below w.heap.size w wr) :
    ((wr.setCell ⟨w.heap.size, n, none⟩ (.pointer (some ⟨wr.heap.size, 0, none⟩))).alloc o).rowIs w.heap.size 32 k (ptrs (entP w.heap.size (n + 1))) ∧
    ((wr.setCell ⟨w.heap.size, n, none⟩ (.pointer (some ⟨wr.heap.size, 0, none⟩))).alloc o).heap.size = w.heap.size + 1 + (n + 1) ∧
    Below w.heap.size w ((wr.setCell ⟨w.heap.size, n, none⟩ (.pointer (some ⟨wr.heap.size, 0, none⟩))).alloc o) := by
  refine ⟨((hrow.set n _).congr fun j hj => ?_).alloc _, by simp [hsz]; omega, (hb.setCell (Nat.le_refl _) _).alloc (by simp [hsz]; omega) _⟩
  unfold ptrs entP
  by_cases h : j = n
  · subst h; simp [hsz]
  · by_cases h2 : j < n
    · simp [h, h2, show j < n + 1 by omega]
    · simp [h, h2, show ¬ j < n + 1 by omega]

theorem mk_pos (k : Nat) (tag : Int) (w : World) (hk : k ≤ 63) (hk0 : 0 < k) :
    Calls Yba.prog 11 #[.int .i64 k, .int .u32 tag] w fun e w' => e = .returned (.slice (some ⟨w.heap.size, 0, none⟩) k k) ∧ w'.rowIs w.heap.size 32 k (ptrs (entP w.heap.size k)) ∧ w'.heap.size = w.heap.size + 1 + k ∧ Below w.heap.size w w' := by
  have h0 : ((k : Int) == 0) = false := by simp; omega
  have hmk := run_make_row' (P := Yba.prog) 36 32 (.pointer none) 8 Yba.underlying36 info32 rfl .i64 .i64 k (by omega) (by omega)
  go_enter Yba.func11, Yba.ntmps11
  go_wp2
  go_loopw [6] (fun i wr => ∃ n : Nat, n ≤ k ∧ i = .int .i64 n ∧ wr.rowIs w.heap.size 32 k (ptrs (entP w.heap.size n)) ∧ wr.heap.size = w.heap.size + 1 + n ∧ Below w.heap.size w wr) (fun i _ => k - (intOf i).toNat)
  case atStart => exact ⟨0, by omega, rfl, mk_start w k⟩
  case round =>
    obtain ⟨n, hn, rfl, hrow, hsz, hb⟩ := hrel
    have HS : Hid (wr.heap.size = w.heap.size + 1 + n) := hsz
    have hBlt : w.heap.size < wr.heap.size := by omega
    clear hsz
    by_cases hlt : n < k
    · have hcell := hrow.cell hlt
      have hfz := hrow.frozen n
      go_wp2
      go_roundw
      case rel => exact ⟨n + 1, by omega, by go_num, mk_step _ hlt hrow HS.out hb⟩
      case measure => simp [intOf]; omega
    · go_wp2
      go_ret
      obtain rfl : n = k := by omega
      exact ⟨rfl, hrow, HS.out, hb⟩

/-- What lies in a path cache: parent, eight entries, n. -/
def pc (p : ByteArray) (ents : Nat → Option Addr) (n : Int) (j : Nat) : Value := if j = 0 then .string p else if j = 9 then .int .i64 n else .pointer (ents (j - 1))

theorem keep_fn (p p0 : ByteArray) (ents h : Nat → Option Addr) (n0 : Int) (m i : Nat) (_hm : m ≤ 8) (_hi : i < 10) :
    (if i = 9 then .int .i64 m else if 1 ≤ i ∧ i < 1 + m then ptrs h (i - 1) else if i = 0 then .string p else pc p0 ents n0 i) = pc p (fun j => if j < m then h j else ents j) m i := by
  unfold pc
  by_cases h0 : i = 0
  · subst h0; simp
  · by_cases h9 : i = 9
    · simp [h9]
    · simp only [h0, h9, if_false]
      by_cases h1 : i < 1 + m
      · rw [if_pos ⟨by omega, h1⟩, if_pos (by omega)]; rfl
      · rw [if_neg (by omega), if_neg (by omega)]

theorem sl33 (c m : Nat) (hm : m ≤ 8) (w : World) : (Instr.sliceAt 33 (.pointer (some ⟨c, 1, none⟩)) none (some (.int .i64 m)) none).run Yba.prog w = .ok (.slice (some ⟨c, 1, none⟩) m 8) w := by
  have u33 : Yba.prog.underlying 33 = some (.array (Yba.prog.arrayLen 33) (Yba.prog.elem 33)) := by kernel_rfl
  have h8 : Yba.prog.arrayLen 33 = 8 := by kernel_rfl
  have hs : (sizeOf (Yba.prog.elem 33)).run Yba.prog w = .ok 1 w := by kernel_rfl
  have h := run_sliceAt_array_h (P := Yba.prog) w 33 ⟨c, 1, none⟩ u33 .i64 (m : Int) (by omega) (by rw [h8]; omega)
  rw [h, h8, hs]
  simp [slicedAt, Addr.add]

set_option maxHeartbeats 400000 in
theorem keep_pos (c : Nat) (p0 p : ByteArray) (ents : Nat → Option Addr) (n0 : Int) (w : World) (hr : w.rowIs c 35 10 (pc p0 ents n0))
    (g sLen sCap : Nat) (hg : g ≠ c) (h : Nat → Option Addr) (hs : w.rowIs g 32 sLen (ptrs h)) (m : Nat) (hm : Hid (m = min sLen 8)) (hm8 : m ≤ 8) :
    Calls Yba.prog 12 #[.pointer (some ⟨c, 0, none⟩), .string p, .slice (some ⟨g, 0, none⟩) sLen sCap] w fun e w' =>
      e = .returned (.slice (some ⟨c, 1, none⟩) m 8) ∧ w'.rowIs c 35 10 (pc p (fun j => if j < m then h j else ents j) m) ∧ Only c w w' := by
  obtain ⟨w2, hcp, hr2, ho2⟩ := copy_rows (w.setCell ⟨c, 0, none⟩ (.string p)) c 1 10 8 8 35 _ (hr.set 0 (.string p)) (by omega) g sLen sCap 32 (ptrs h) (hs.setOther hg _) (fun _ _ => rfl) 3 m hm
  have c0 := hr.cell (i := 0) (by omega)
  have f0 := hr.frozen 0
  have c9 := hr2.cell (i := 9) (by omega)
  have f9 := hr2.frozen 9
  have hsl := sl33 c m hm8
  go_enter Yba.func12, Yba.ntmps12
  go_wp2
  go_quiet (fail)
  go_wp2
  go_ret
  exact ⟨rfl, ((hr2.set 9 _).congr fun i hi => keep_fn p p0 ents h n0 m i hm8 hi), ((((Only.refl c w).setCell 0 _).trans ho2).setCell 9 _).drewN _⟩

set_option maxHeartbeats 400000 in
theorem keep_nil (c : Nat) (p0 p : ByteArray) (ents : Nat → Option Addr) (n0 : Int) (w : World) (hr : w.rowIs c 35 10 (pc p0 ents n0)) :
    Calls Yba.prog 12 #[.pointer (some ⟨c, 0, none⟩), .string p, .slice none 0 0] w fun e w' =>
      e = .returned (.slice (some ⟨c, 1, none⟩) 0 8) ∧ w'.rowIs c 35 10 (pc p ents 0) ∧ Only c w w' := by
  have hcp := run_copy_none (P := Yba.prog) (w.setCell ⟨c, 0, none⟩ (.string p)) 36 36 3 32 (some ⟨c, 1, none⟩) none 8 8 0 0 Yba.underlying36 size32 rfl
  have c0 := hr.cell (i := 0) (by omega)
  have f0 := hr.frozen 0
  have hr2 := hr.set 0 (.string p)
  have c9 := hr2.cell (i := 9) (by omega)
  have f9 := hr2.frozen 9
  go_enter Yba.func12, Yba.ntmps12
  go_wp2
  go_quiet (fail)
  go_wp2
  go_ret
  refine ⟨rfl, ((hr2.set 9 _).congr fun i hi => ?_), ((((Only.refl c w).setCell 0 _)).setCell 9 _).drewN _⟩
  unfold pc
  by_cases h0 : i = 0
  · subst h0; rfl
  · by_cases h9 : i = 9
    · subst h9; rfl
    · simp only [h0, h9, if_false]
end Go.Proofs.Ybulkcuye
