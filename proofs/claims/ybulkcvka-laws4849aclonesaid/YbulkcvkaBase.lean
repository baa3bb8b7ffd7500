import Derived.Test.YbulkcvkaRows
import Derived.WalkKit
import Derived.WalkSpells
import Derived.WalkLawsBesides
import Derived.Handy
import Derived.BigQuiet
import Derived.Deep.QuietTactic
import Derived.Deep.OwnRows
import Derived.Deep.RegionHeld3
import Derived.LaidEqlPtr
import Derived.Test.YbulkcvkaPlain
namespace Go.Proofs.Ybulkcvka
open Go.RowKit Go.Maps

theorem law9 : Keyed Yba.prog 9 := string_keyed Yba.underlying9
theorem zero3 (w : World) : (zeroValue 3).run Yba.prog w = .ok (.int .i64 0) w := by kernel_rfl
theorem mkmap (w : World) (x : Int) : (Instr.makeMap 27 (some (.int .i64 x))).run Yba.prog w = .ok (.map (some w.heap.size)) (w.alloc (.map #[] 0)) := by
  simp [Instr.makeMap, run_underlying Yba.underlying27, asInt, asIntOf, newObj, Result.andThen]
  rfl

/-- The builtin append, by its run. -/
theorem wpList_append_run {P : Program} {w w' : World} {ops : Array Oper} {rest : List Oper} {o : Oper} {a : Act} {Q : Exit → Act → World → Prop} (hgd : o.guard = none) (s x : Operand) (t : TypeId)
    (ho : o.op = .call { callee := .builtin .append, args := #[s, x], argTypes := #[t, t] }) {v u v' : Value} (hs : a.eval s = v) (hx : a.eval x = u)
    (hrun : (Builtin.append_ #[t, t] o.type #[v, u]).run P w = .ok v' w') (h : wpList P ops Q rest (a.put o.dst v') w') : wpList P ops Q (o :: rest) a w := by
  refine wpList_plain hgd fun K hK => ?_
  unfold Oper.wp
  simp only [execOp]
  simp only [ho, resolve, invoke, builtin, Sem.run_bind, Sem.run_pure, Result.andThen_ok, List.map_toArray, List.map_cons, List.map_nil, hs, hx, hrun]
  exact hK _ _ h

/-- n strings lie at the head of block g. -/
def Strs (w : World) (g n : Nat) (K : Nat → ByteArray) : Prop := ∀ j, j < n → w.cell? ⟨g, j, none⟩ = some (.string (K j))
theorem Strs.of_block {w w' : World} {g n : Nat} {K : Nat → ByteArray} (h : Strs w g n K) (e : w'.heap[g]? = w.heap[g]?) : Strs w' g n K := fun j hj => (World.cell?_of_block (a := ⟨g, j, none⟩) e).trans (h j hj)

/-- A mapping's six cells. -/
def mp (ks vs ix : Value) (pend : Bool) (sz mg : Int) (j : Nat) : Value :=
  match j with
  | 0 => ks
  | 1 => vs
  | 2 => ix
  | 3 => .bool pend
  | 4 => .int .i64 sz
  | _ => .int .i64 mg
theorem mp_new (w : World) (ks vs ix : Value) (pend : Bool) (sz mg : Int) : (w.alloc (.cells #[ks, vs, ix, .bool pend, .int .i64 sz, .int .i64 mg] 29)).rowIs w.heap.size 29 6 (mp ks vs ix pend sz mg) :=
  World.rowIs_alloc w _ 29 _ (fun i hi => by
    match i, hi with
    | 0, _ => rfl
    | 1, _ => rfl
    | 2, _ => rfl
    | 3, _ => rfl
    | 4, _ => rfl
    | 5, _ => rfl)
theorem mp_index {w : World} {b : Nat} {ks vs ix : Value} {pend : Bool} {sz mg : Int} (h : w.rowIs b 29 6 (mp ks vs ix pend sz mg)) (ix' : Value) : (w.setCell ⟨b, 2, none⟩ ix').rowIs b 29 6 (mp ks vs ix' pend sz mg) :=
  (h.set 2 ix').congr fun i hi => by
    match i, hi with
    | 0, _ => rfl
    | 1, _ => rfl
    | 2, _ => rfl
    | 3, _ => rfl
    | 4, _ => rfl
    | 5, _ => rfl

/-- Below 'base' nothing but block b has turned. -/
structure But (b base : Nat) (w w' : World) : Prop where
  os : w'.os = w.os
  tape : w'.tape = w.tape
  output : w'.output = w.output
  size : w.heap.size ≤ w'.heap.size
  block : ∀ k, k < base → k ≠ b → w'.heap[k]? = w.heap[k]?
theorem But.refl (b base : Nat) (w : World) : But b base w w := ⟨rfl, rfl, rfl, Nat.le_refl _, fun _ _ _ => rfl⟩
theorem But.trans {b base : Nat} {u v w : World} (h : But b base u v) (k : But b base v w) : But b base u w :=
  ⟨k.os.trans h.os, k.tape.trans h.tape, k.output.trans h.output, Nat.le_trans h.size k.size, fun i hi hb => (k.block i hi hb).trans (h.block i hi hb)⟩
theorem But.below {b base B : Nat} {w w' : World} (h : But b base w w') (hB : B ≤ b) (hb : B ≤ base) : Below B w w' :=
  ⟨h.os, h.tape, h.output, h.size, fun k hk => h.block k (by omega) (by omega)⟩

set_option maxRecDepth 20000 in
theorem last_any (g n cap i : Nat) (K : Nat → ByteArray) (w : World) (hs : Strs w g n K) (hi : i < n) (hn : n ≤ 2000) :
    Calls Yba.prog 5 #[.slice (some ⟨g, 0, none⟩) n cap, .int .i64 (i : Int)] w fun e w' => e = .returned (.int .i64 (lastTo K i (n - 1 - i) : Nat)) ∧ ∃ q, w' = w.drewN q := by
  have HS : Hid _ := hs
  have ci := hs i hi
  clear hs
  go_enter Yba.func5, Yba.ntmps5
  go_wp2
  go_loopw [5, 6] (fun l j wr => ∃ m q : Nat, i + 1 + m ≤ n ∧ j = .int .i64 ((i + 1 + m : Nat) : Int) ∧ l = .int .i64 (lastTo K i m : Nat) ∧ wr = w.drewN q) (fun _ j _ => n - (intOf j).toNat)
  case atStart => exact ⟨0, 0, by omega, by go_num, rfl, rfl⟩
  case round =>
    obtain ⟨m, q, hm, rfl, rfl, rfl⟩ := hrel
    obtain ⟨j, hj⟩ : ∃ j, j = i + 1 + m := ⟨_, rfl⟩
    have hlb := lastTo_bd K i m
    by_cases hlt : i + 1 + m < n
    · have cj := HS.out (i + 1 + m) hlt
      rw [← hj] at cj hlt hm ⊢
      have HJ : Hid _ := hj
      have hstep : lastTo K i (m + 1) = if sameB K j i then j else lastTo K i m := by rw [hj]; rfl
      have HST : Hid _ := hstep
      clear hj hstep
      by_cases he : sameB K j i = true
      · have he' : ((K j).toList == (K i).toList) = true := he
        go_wp2_with fail
        go_quiet (fail)
        go_wp2
        go_roundw
        case rel => exact ⟨m + 1, _, by have := HJ.out; omega, by have := HJ.out; go_num, by rw [HST.out, if_pos he], rfl⟩
        case measure => simp [intOf]; omega
      · have he' : ((K j).toList == (K i).toList) = false := by simpa [sameB] using he
        go_wp2_with fail
        go_quiet (fail)
        go_wp2
        go_roundw
        case rel => exact ⟨m + 1, _, by have := HJ.out; omega, by have := HJ.out; go_num, by rw [HST.out, if_neg he], rfl⟩
        case measure => simp [intOf]; omega
    · obtain rfl : m = n - 1 - i := by omega
      go_wp2
      go_ret
      exact ⟨rfl, _, rfl⟩

/-- Few keys: nothing is made. -/
theorem index_few (b n cap : Nat) (vs ix : Value) (pend : Bool) (sz mg : Int) (w : World) (ao : Option Addr) (hr : w.rowIs b 29 6 (mp (.slice ao n cap) vs ix pend sz mg)) (hn : n < 16) :
    Calls Yba.prog 6 #[.pointer (some ⟨b, 0, none⟩)] w fun e w' => e = .returned (.tuple #[]) ∧ w' = w := by
  have c0 : w.cell? ⟨b, 0, none⟩ = some (.slice ao n cap) := hr.cell (i := 0) (by omega)
  go_enter Yba.func6, Yba.ntmps6
  go_wp2
  go_returns
  exact ⟨rfl, rfl⟩

set_option maxRecDepth 20000 in
set_option maxHeartbeats 400000 in
theorem index_many (b g n cap : Nat) (vs : Value) (pend : Bool) (sz mg : Int) (w : World) (K : Nat → ByteArray) (hr : w.rowIs b 29 6 (mp (.slice (some ⟨g, 0, none⟩) n cap) vs (.map none) pend sz mg)) (hn : 16 ≤ n) (hn2 : n ≤ 2000)
    (hs : Strs w g n K) (hgb : g ≠ b) (hgw : g < w.heap.size) (hK : ∀ j, j < n → (K j).size ≤ maxLen) :
    Calls Yba.prog 6 #[.pointer (some ⟨b, 0, none⟩)] w fun e w' => e = .returned (.tuple #[]) ∧ w'.rowIs b 29 6 (mp (.slice (some ⟨g, 0, none⟩) n cap) vs (.map (some w.heap.size)) pend sz mg) ∧
      w'.ownsMap Yba.prog 9 (plainElem (H := Unit) Yba.prog 3) w.heap.size n (idxD K n) ∧ But b w.heap.size w w' := by
  have c0 : w.cell? ⟨b, 0, none⟩ = some (.slice (some ⟨g, 0, none⟩) n cap) := hr.cell (i := 0) (by omega)
  have c2 : w.cell? ⟨b, 2, none⟩ = some (.map none) := hr.cell (i := 2) (by omega)
  have f2 := hr.frozen 2
  have hbw : b < w.heap.size := hr.lt
  have hmm := mkmap
  have HS : Hid _ := hs
  have HK : Hid _ := hK
  clear hs hK
  go_enter Yba.func6, Yba.ntmps6
  go_wp2
  go_loopw [25] (fun i wr => ∃ k : Nat, k ≤ n ∧ i = .int .i64 (k : Int) ∧ wr.rowIs b 29 6 (mp (.slice (some ⟨g, 0, none⟩) n cap) vs (.map (some w.heap.size)) pend sz mg) ∧
      wr.ownsMap Yba.prog 9 (plainElem (H := Unit) Yba.prog 3) w.heap.size k (idxD K k) ∧ But b w.heap.size w wr) (fun i _ => n - (intOf i).toNat)
  case atStart =>
    refine ⟨0, by omega, rfl, (mp_index hr _).alloc _, ?_, ⟨rfl, rfl, rfl, by simp, fun k hk hkb => ?_⟩⟩
    · have := World.ownsMap_made (w.setCell ⟨b, 2, none⟩ (.map (some w.heap.size))) Yba.prog 9 (plainElem (H := Unit) Yba.prog 3)
      rw [World.size_setCell] at this
      exact this
    · rw [Below.heap_alloc _ _ _ (by simp; exact hk), Below.heap_setCell _ _ _ _ hkb]
  case round =>
    obtain ⟨k, hk, rfl, hrr, hown, hbut⟩ := hrel
    by_cases hlt : k < n
    · have cx : wr.cell? ⟨g, k, none⟩ = some (.string (K k)) := (World.cell?_of_block (a := ⟨g, k, none⟩) (hbut.block g hgw hgb)).trans (HS.out k hlt)
      have d2 : wr.cell? ⟨b, 2, none⟩ = some (.map (some w.heap.size)) := hrr.cell (i := 2) (by omega)
      have wf : (Lit.int .i64 (k : Int)).wf = true := WalkArith.wf_i64 (by omega)
      obtain ⟨w1, hup, hown1, hgrow⟩ := hown.update law9 Yba.underlying27 (by unfold maxLen; omega) (Go.WideMaps.keyOf_string_mk Yba.underlying9 (HK.out k hlt)) (plainElem_int Yba.underlying3 wf)
      have HO : Hid _ := hown1
      have HG : Hid _ := hgrow
      clear hown1 hgrow
      go_wp2
      go_roundw
      case rel => exact ⟨k + 1, by omega, by go_num, hrr.of_block (HG.out.block b hrr.lt (by simp; omega)), HO.out, hbut.trans ⟨HG.out.os, HG.out.tape, HG.out.output, HG.out.size, fun i hi hib => HG.out.block i (by have := hbut.size; omega) (by simp; omega)⟩⟩
      case measure => simp [intOf]; omega
    · obtain rfl : k = n := by omega
      go_wp2
      go_returns
      exact ⟨rfl, hrr, hown, hbut⟩
end Go.Proofs.Ybulkcvka
