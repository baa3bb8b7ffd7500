import Derived.Test.YbulkcvfeRows
import Derived.WalkKit
import Derived.WalkSpells
import Derived.WalkLawsBesides
import Derived.Handy
import Derived.BigQuiet
import Derived.Deep.QuietTactic
import Derived.Deep.OwnRows
import Derived.LaidEqlPtr
import Derived.Laws.EntriesVeiled
import Derived.Test.YbulkcvfePlain
namespace Go.Proofs.Ybulkcvfe
open Go.RowKit

theorem info38 : (Yba.prog.info? 38).map (fun i => (i.zero, i.size, i.bytes)) = some (some (.agg #[.int .u64 0, .pointer none]), 2, 16) := by kernel_rfl

/-- The builtin append, by its run. -/
theorem wpList_append_run {P : Program} {w w' : World} {ops : Array Oper} {rest : List Oper} {o : Oper} {a : Act} {Q : Exit → Act → World → Prop} (hgd : o.guard = none) (s x : Operand) (t : TypeId)
    (ho : o.op = .call { callee := .builtin .append, args := #[s, x], argTypes := #[t, t] }) {v u v' : Value} (hs : a.eval s = v) (hx : a.eval x = u)
    (hrun : (Builtin.append_ #[t, t] o.type #[v, u]).run P w = .ok v' w') (h : wpList P ops Q rest (a.put o.dst v') w') : wpList P ops Q (o :: rest) a w := by
  refine wpList_plain hgd fun K hK => ?_
  unfold Oper.wp
  simp only [execOp]
  simp only [ho, resolve, invoke, builtin, Sem.run_bind, Sem.run_pure, Result.andThen_ok, List.map_toArray, List.map_cons, List.map_nil, hs, hx, hrun]
  exact hK _ _ h

/-- What lies in a Builder: only the count and the open nodes are not zero. -/
def bld (cnt : Int) (v : Value) (j : Nat) : Value :=
  match j with
  | 0 => .int .u64 cnt
  | 1 => .int .u64 0
  | 2 => .nilIface
  | 3 => .nilFunc
  | 4 => .bool false
  | 5 => v
  | _ => .pointer none

theorem bld_new (w : World) (cnt : Int) : (w.alloc (.cells #[.int .u64 cnt, .int .u64 0, .nilIface, .nilFunc, .bool false, .slice none 0 0, .pointer none] 31)).rowIs w.heap.size 31 7 (bld cnt (.slice none 0 0)) :=
  World.rowIs_alloc w _ 31 _ (fun i hi => by
    match i, hi with
    | 0, _ => rfl
    | 1, _ => rfl
    | 2, _ => rfl
    | 3, _ => rfl
    | 4, _ => rfl
    | 5, _ => rfl
    | 6, _ => rfl)

theorem bld_set {w : World} {b : Nat} {cnt : Int} {v : Value} (h : w.rowIs b 31 7 (bld cnt v)) (v' : Value) : (w.setCell ⟨b, 5, none⟩ v').rowIs b 31 7 (bld cnt v') :=
  (h.set 5 v').congr fun i hi => by
    match i, hi with
    | 0, _ => rfl
    | 1, _ => rfl
    | 2, _ => rfl
    | 3, _ => rfl
    | 4, _ => rfl
    | 5, _ => rfl
    | 6, _ => rfl

/-- The pending nodes' cells. -/
def flat : List (Nat × Option Addr) → List Value
  | [] => []
  | p :: r => .int .u64 (p.1 : Int) :: .pointer p.2 :: flat r
theorem flat_append (a b : List (Nat × Option Addr)) : flat (a ++ b) = flat a ++ flat b := by
  induction a with
  | nil => rfl
  | cons p r ih => simp [flat, ih]
theorem flat_length (a : List (Nat × Option Addr)) : (flat a).length = a.length * 2 := by
  induction a with
  | nil => rfl
  | cons p r ih => simp [flat, ih]; omega
theorem flat_count : ∀ (a : List (Nat × Option Addr)) (i : Nat) (p : Nat × Option Addr), a[i]? = some p → (flat a)[i * 2]? = some (.int .u64 (p.1 : Int)) ∧ (flat a)[i * 2 + 1]? = some (.pointer p.2)
  | [], i, p, h => by simp at h
  | q :: r, 0, p, h => by simp at h; subst h; exact ⟨rfl, rfl⟩
  | q :: r, i + 1, p, h => by
    have := flat_count r i p (by simpa using h)
    rw [show (i + 1) * 2 = i * 2 + 1 + 1 by omega]
    simpa [flat] using this

/-- Below 'base' nothing but block b has turned. -/
structure But (b base : Nat) (w w' : World) : Prop where
  os : w'.os = w.os
  tape : w'.tape = w.tape
  output : w'.output = w.output
  size : w.heap.size ≤ w'.heap.size
  block : ∀ k, k < base → k ≠ b → w'.heap[k]? = w.heap[k]?
theorem But.refl (b base : Nat) (w : World) : But b base w w := ⟨rfl, rfl, rfl, Nat.le_refl _, fun _ _ _ => rfl⟩
theorem But.trans {b base : Nat} {u v w : World} (h : But b base u v) (k : But b base v w) : But b base u w :=
  ⟨k.os.trans h.os, k.tape.trans h.tape, k.output.trans h.output, Nat.le_trans h.size k.size, fun i hi hb => (k.block i hi hb).trans (h.block i hi hb)⟩
theorem But.below {b base B : Nat} {w w' : World} (h : But b base w w') (hB : B ≤ b) (hb : B ≤ base) : Below B w w' :=
  ⟨h.os, h.tape, h.output, h.size, fun k hk => h.block k (by omega) (by omega)⟩

/-- The slice in the field 'open': what it owns. -/
def Own (w : World) (b base : Nat) (cnt : Int) (v : Value) (ps : List (Nat × Option Addr)) : Prop :=
  w.rowIs b 31 7 (bld cnt v) ∧ w.ownsRow base 38 2 v ps.length (flat ps)

/-- b.open = append(b.open, pending{c, l}): in the world 'w' with the one-element array laid. -/
theorem open_append (w : World) (b base : Nat) (cnt : Int) (v : Value) (ps : List (Nat × Option Addr)) (hO : Own w b base cnt v ps) (hb : b < base) (hbase : base ≤ w.heap.size) (hlen : ps.length ≤ 2000) (c : Nat) (l : Option Addr) :
    ∃ (g cap : Nat) (w1 : World), (Builtin.append_ #[28, 28] 28 #[v, .slice (some ⟨w.heap.size, 0, none⟩) 1 1]).run Yba.prog (w.alloc (.cells #[.int .u64 (c : Int), .pointer l] 38)) = .ok (.slice (some ⟨g, 0, none⟩) (ps.length + 1) cap) w1 ∧
      w1.rowIs b 31 7 (bld cnt v) ∧ base ≤ w1.heap.size ∧
      Own (w1.setCell ⟨b, 5, none⟩ (.slice (some ⟨g, 0, none⟩) (ps.length + 1) cap)) b base cnt (.slice (some ⟨g, 0, none⟩) (ps.length + 1) cap) (ps ++ [(c, l)]) ∧
      But b base w (w1.setCell ⟨b, 5, none⟩ (.slice (some ⟨g, 0, none⟩) (ps.length + 1) cap)) := by
  obtain ⟨hr, hown⟩ := hO
  obtain ⟨i0, hi, hz0, hz1, hz2⟩ := info_parts info38
  have hcell : ∀ j u, [Value.int .u64 (c : Int), .pointer l][j]? = some u → (w.alloc (.cells #[.int .u64 (c : Int), .pointer l] 38)).cell? ((⟨w.heap.size, 0, none⟩ : Addr).add j) = some u := by
    intro j u hj
    match j, hj with
    | 0, hj => simp at hj; subst hj; simp [Addr.add, go_sem]
    | 1, hj => simp at hj; subst hj; simp [Addr.add, go_sem]
  obtain ⟨v', w1, hrun, hown', hgrow, hnil⟩ := run_append_own (P := Yba.prog) (w.alloc (.cells #[.int .u64 (c : Int), .pointer l] 38)) base 28 28 38 i0 (.agg #[.int .u64 0, .pointer none]) 2 16 Yba.underlying28 hi hz0 hz1 hz2 rfl (by decide)
    v ps.length (flat ps) (hown.alloc _) ⟨w.heap.size, 0, none⟩ 1 1 [.int .u64 (c : Int), .pointer l] rfl hcell (by intro u hu; simp at hu; rcases hu with rfl | rfl <;> rfl) (by unfold maxLen; omega) (by omega) (by simp; omega)
  obtain ⟨hl', hc'⟩ := hown'
  rcases hc' with ⟨rfl, h0⟩ | ⟨g, cap, cur, rfl, hg, hh, r⟩
  · omega
  · have hbne : some b ≠ v.ownBlock := fun e => by have := (hown.lt b e.symm).1; omega
    have hbk : ∀ k, k < base → w1.heap[k]? = w.heap[k]? := fun k hk =>
      (hgrow.block k (by simp; omega) (fun e => by have := (hown.lt k e.symm).1; omega)).trans (Below.heap_alloc _ _ _ (by omega))
    have hr1 : w1.rowIs b 31 7 (bld cnt v) := hr.of_block (hbk b hb)
    have hs1 : base ≤ w1.heap.size := by have := hgrow.size; simp at this; omega
    refine ⟨g, cap, w1, hrun, hr1, hs1, ⟨bld_set hr1 _, ?_⟩, ⟨hgrow.os, hgrow.tape, hgrow.output, ?_, fun k hk hkb => ?_⟩⟩
    · have := ownsRow_setCell_below (w := w1) (base := base) (e := 38) (size := 2) (v := .slice (some ⟨g, 0, none⟩) (ps.length + 1) cap) (n := ps.length + 1) (xs := flat ps ++ [.int .u64 (c : Int), .pointer l]) ⟨hl', .inr ⟨g, cap, cur, rfl, hg, hh, r⟩⟩ (a := ⟨b, 5, none⟩) hb (.slice (some ⟨g, 0, none⟩) (ps.length + 1) cap)
      rw [flat_append, List.length_append]
      exact this
    · have := hgrow.size; simp at this; simp [World.setCell]; omega
    · rw [Below.heap_setCell _ _ _ _ hkb]; exact hbk k hk

theorem desc_step (f c : Nat) (done full : List Nat) (h : done ++ chain f c = full) (hc : ¬ c ≤ 1) (hf : c ≤ 2 ^ f) :
    ∃ f', done ++ [c] ++ chain f' ((c + 1) % 18446744073709551616 / 2) = full ∧ (c + 1) % 18446744073709551616 / 2 ≤ 2 ^ f' := by
  cases f with
  | zero => simp at hf; omega
  | succ f =>
    refine ⟨f, ?_, ?_⟩
    · rw [← h, chain_big f c hc]; simp
    · have : 2 ^ (f + 1) = 2 * 2 ^ f := by rw [Nat.pow_succ]; omega
      omega

theorem half_num (c : Nat) : IntKind.u64.wrap ((IntKind.u64.wrap ((c : Int) + 1)).tdiv 2) = (((c + 1) % 18446744073709551616 / 2 : Nat) : Int) := by
  rw [IntKind.wrap_u64, IntKind.wrap_u64, Int.tdiv_eq_ediv_of_nonneg (by omega)]
  omega
theorem half_val (c : Nat) : Value.int IntKind.u64 (IntKind.u64.wrap ((IntKind.u64.wrap ((c : Int) + 1)).tdiv 2)) = .int .u64 (((c + 1) % 18446744073709551616 / 2 : Nat) : Int) := by
  rw [half_num]
theorem half_lt (c : Nat) : (c + 1) % 18446744073709551616 / 2 < 18446744073709551616 := by omega
theorem half_meas (c : Nat) (h : 1 < c) : (intOf (Value.int IntKind.u64 (IntKind.u64.wrap ((IntKind.u64.wrap ((c : Int) + 1)).tdiv 2)))).toNat < (intOf (Value.int IntKind.u64 (c : Int))).toNat := by
  rw [half_num]
  simp only [intOf]
  omega

set_option maxHeartbeats 400000 in
theorem descend_any (b base : Nat) (cnt : Int) (v : Value) (ps : List (Nat × Option Addr)) (c0 : Nat) (w : World) (hO : Own w b base cnt v ps) (hb : b < base) (hbase : base ≤ w.heap.size) (hlen : ps.length ≤ 1900) (hc0 : c0 < 18446744073709551616) :
    Calls Yba.prog 5 #[.pointer (some ⟨b, 0, none⟩), .int .u64 (c0 : Int)] w fun e w' =>
      e = .returned (.tuple #[]) ∧ ∃ v', Own w' b base cnt v' (ps ++ (chain 64 c0).map (fun c => (c, none))) ∧ But b base w w' := by
  go_enter Yba.func5, Yba.ntmps5
  go_wp2
  go_loopw [1] (fun i wr => ∃ (c f : Nat) (done : List Nat) (v : Value), c < 18446744073709551616 ∧ i = .int .u64 (c : Int) ∧ done ++ chain f c = chain 64 c0 ∧ c ≤ 2 ^ f ∧
      Own wr b base cnt v (ps ++ done.map (fun c => (c, none))) ∧ base ≤ wr.heap.size ∧ But b base w wr) (fun i _ => (intOf i).toNat)
  case atStart => exact ⟨c0, 64, [], v, hc0, rfl, rfl, by omega, by simpa using hO, hbase, But.refl _ _ _⟩
  case round =>
    obtain ⟨c, f, done, v, hc, rfl, hd, hf, hO, hs, hbut⟩ := hrel
    have HD : Hid _ := hd
    have HF : Hid _ := hf
    have HO : Hid _ := hO
    clear hd hf hO
    by_cases hlt : 1 < c
    · obtain ⟨f', hd', hf'⟩ := desc_step f c done _ HD.out (by omega) HF.out
      have hl : (ps ++ done.map (fun c => (c, (none : Option Addr)))).length ≤ 2000 := by
        have := chain_len_le 64 c0
        rw [← HD.out] at this
        simp at this ⊢; omega
      obtain ⟨g, cap, w1, hap, hr1, hs1, hO1, hb1⟩ := open_append wr b base cnt v _ HO.out hb hs hl c none
      have c5 : wr.cell? ⟨b, 5, none⟩ = some v := HO.out.1.cell (i := 5) (by omega)
      have c51 : w1.cell? ⟨b, 5, none⟩ = some v := hr1.cell (i := 5) (by omega)
      have f51 := hr1.frozen 5
      obtain ⟨N, hN⟩ : ∃ N, N = (ps ++ done.map (fun c => (c, (none : Option Addr)))).length := ⟨_, rfl⟩
      rw [← hN] at hap hO1 hb1
      have HD' : Hid _ := hd'
      have HF' : Hid _ := hf'
      have HO1 : Hid _ := hO1
      clear hd' hf' hO1 hN hl
      go_wp2_with (at_builtin; refine wpList_append_run rfl (.tmp 13) (.tmp 16) 28 rfl rfl rfl hap ?_)
      go_roundw
      case rel => exact ⟨(c + 1) % 18446744073709551616 / 2, f', done ++ [c], _, half_lt c, half_val c, HD'.out, HF'.out, by rw [List.map_append, ← List.append_assoc]; exact HO1.out, by simp; exact hs1, hbut.trans hb1⟩
      case measure => exact half_meas c hlt
    · go_wp2
      go_end0
      refine ⟨rfl, v, ?_, hbut⟩
      have := HD.out
      rw [chain_small f c (by omega), List.append_nil] at this
      rw [← this]; exact HO.out
end Go.Proofs.Ybulkcvfe
