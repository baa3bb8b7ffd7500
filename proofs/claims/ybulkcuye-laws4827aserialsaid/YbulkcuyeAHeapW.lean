/- container/heap over txnHeap, walked: the methods 21, 51, 52, 53, 54; up (26), down (27), Push (20), Pop (22). -/
import Derived.Test.YbulkcuyeACompB
import Derived.Deep.CutRange
import Derived.Deep.RegionLaw
namespace Go.Proofs.Ybulkcuye.A
open Go.RowKit

/-- The same members, and no two alike if none were. -/
def Mix (n : Nat) (f g : Nat → Nat) : Prop := (∀ v, (∃ b, b < n ∧ g b = v) ↔ (∃ b, b < n ∧ f b = v)) ∧ ((∀ a b, a < b → b < n → f a ≠ f b) → ∀ a b, a < b → b < n → g a ≠ g b)
theorem Mix.refl (n : Nat) (f : Nat → Nat) : Mix n f f := ⟨fun _ => Iff.rfl, fun h => h⟩
theorem Mix.trans {n : Nat} {f g h : Nat → Nat} (a : Mix n f g) (b : Mix n g h) : Mix n f h := ⟨fun v => (b.1 v).trans (a.1 v), fun k => b.2 (a.2 k)⟩
def sw (i j b : Nat) : Nat := if b = j then i else if b = i then j else b
theorem sw_sw (i j b : Nat) : sw i j (sw i j b) = b := by
  unfold sw
  by_cases e1 : b = j
  · rw [if_pos e1]
    by_cases e2 : i = j
    · rw [if_pos e2]; omega
    · rw [if_neg e2, if_pos rfl]; omega
  · rw [if_neg e1]
    by_cases e2 : b = i
    · rw [if_pos e2, if_pos rfl]; omega
    · rw [if_neg e2, if_neg e1, if_neg e2]
theorem Mix.swap {n : Nat} (f : Nat → Nat) {i j : Nat} (hi : i < n) (hj : j < n) : Mix n f (upd (upd f i (f j)) j (f i)) := by
  have at_ : ∀ b, upd (upd f i (f j)) j (f i) b = f (if b = j then i else if b = i then j else b) := by
    intro b
    unfold upd
    by_cases e1 : b = j
    · simp [e1]
    · by_cases e2 : b = i
      · subst e2; simp [e1]
      · simp [e1, e2]
  have slt : ∀ b, b < n → (if b = j then i else if b = i then j else b) < n := by
    intro b hb
    by_cases e1 : b = j
    · rw [if_pos e1]; exact hi
    · by_cases e2 : b = i
      · rw [if_neg e1, if_pos e2]; exact hj
      · rw [if_neg e1, if_neg e2]; exact hb
  constructor
  · intro v
    constructor
    · rintro ⟨b, hb, e⟩
      rw [at_] at e
      exact ⟨_, slt b hb, e⟩
    · rintro ⟨b, hb, e⟩
      by_cases e1 : b = i
      · exact ⟨j, hj, by rw [at_, if_pos rfl, ← e1]; exact e⟩
      · by_cases e2 : b = j
        · by_cases e3 : i = j
          · exact absurd (e2.trans e3.symm) e1
          · exact ⟨i, hi, by rw [at_, if_neg e3, if_pos rfl, ← e2]; exact e⟩
        · exact ⟨b, hb, by rw [at_, if_neg e2, if_neg e1]; exact e⟩
  · intro h
    have h' : ∀ a b, a < n → b < n → a ≠ b → f a ≠ f b := fun a b ha hb hab => by
      rcases Nat.lt_or_ge a b with c | c
      · exact h a b c hb
      · exact fun e => h b a (by omega) ha e.symm
    intro a b hab hb
    rw [at_, at_]
    refine h' _ _ (slt a (by omega)) (slt b hb) ?_
    intro e
    have e' : sw i j a = sw i j b := e
    have := congrArg (sw i j) e'
    rw [sw_sw, sw_sw] at this
    omega

/-- A heap: its box, its slice. -/
structure HP (B hb : Nat) (w : World) (v : Value) (hl : Nat) (hq : Nat → Nat) : Prop where
  box : w.rowIs hb 68 1 (fun _ => v)
  sl : Slc w B 3 1 v hl (nv hq)
  lt : hb < B

theorem len_any (a : Option Addr) (n c : Nat) (w : World) : Calls Yba.prog 21 #[.slice a n c] w fun e w' => e = .returned (.int .i64 (n : Int)) ∧ w' = w := by
  go_enter Yba.func21, Yba.ntmps21
  go_wp2
  go_ret
  exact ⟨rfl, rfl⟩

set_option maxRecDepth 20000 in
theorem less_any (B b n cap : Nat) (q : Nat → Nat) (w : World) (h : Slc w B 3 1 (.slice (some ⟨b, 0, none⟩) n cap) n (nv q)) (i j : Nat) (hi : i < n) (hj : j < n) :
    Calls Yba.prog 51 #[.slice (some ⟨b, 0, none⟩) n cap, .int .i64 (i : Int), .int .i64 (j : Int)] w fun e w' => (∃ r : Bool, e = .returned (.bool r)) ∧ ∃ k, w' = w.drewN k := by
  have c1 : w.cell? ⟨b, i, none⟩ = some (.int .i64 (q i : Int)) := h.cell (i := i) (by omega)
  have c2 : w.cell? ⟨b, j, none⟩ = some (.int .i64 (q j : Int)) := h.cell (i := j) (by omega)
  clear h
  go_enter Yba.func51, Yba.ntmps51
  go_upto_region 1 with fail
  go_quiet (fail)
  go_wp2
  go_ret
  exact ⟨⟨_, rfl⟩, _, rfl⟩

set_option maxRecDepth 20000 in
theorem swap_any (B b n cap : Nat) (q : Nat → Nat) (w : World) (h : Slc w B 3 1 (.slice (some ⟨b, 0, none⟩) n cap) n (nv q)) (i j : Nat) (hi : i < n) (hj : j < n) :
    Calls Yba.prog 54 #[.slice (some ⟨b, 0, none⟩) n cap, .int .i64 (i : Int), .int .i64 (j : Int)] w fun e w' => e = .returned (.tuple #[]) ∧ Slc w' B 3 1 (.slice (some ⟨b, 0, none⟩) n cap) n (nv (upd (upd q i (q j)) j (q i))) ∧ Only b w w' := by
  have c1 : w.cell? ⟨b, i, none⟩ = some (.int .i64 (q i : Int)) := h.cell (i := i) (by omega)
  have c2 : w.cell? ⟨b, j, none⟩ = some (.int .i64 (q j : Int)) := h.cell (i := j) (by omega)
  have f1 := h.frozen i
  have f2 := h.frozen j
  have HN : Hid (Slc ((w.setCell ⟨b, i, none⟩ (.int .i64 (q j : Int))).setCell ⟨b, j, none⟩ (.int .i64 (q i : Int))).drew B 3 1 (.slice (some ⟨b, 0, none⟩) n cap) n (nv (upd (upd q i (q j)) j (q i)))) :=
    ((h.set i (nv q j)).set j (nv q i)).congr fun x _ => by
      unfold nv upd
      by_cases e1 : x = j
      · simp [e1]
      · by_cases e2 : x = i
        · have e3 : ¬ i = j := fun c => e1 (e2.trans c)
          simp [e2, e3]
        · simp [e1, e2]
  have HO : Hid (Only b w ((w.setCell ⟨b, i, none⟩ (.int .i64 (q j : Int))).setCell ⟨b, j, none⟩ (.int .i64 (q i : Int))).drew) := by
    have := ((Only.refl b w).setCell i (.int .i64 (q j : Int))).setCell j (.int .i64 (q i : Int))
    exact ⟨this.os, this.tape, this.output, this.size, this.block⟩
  clear h
  by_cases hij : i = j
  · subst hij
    go_enter Yba.func54, Yba.ntmps54
    go_upto_region 0 with fail
    go_region
    go_wp2
    go_end0
    exact ⟨rfl, HN.out, HO.out⟩
  · go_enter Yba.func54, Yba.ntmps54
    go_upto_region 0 with fail
    go_region
    go_wp2
    go_end0
    exact ⟨rfl, HN.out, HO.out⟩

/-- What a step of the heap leaves as it was. -/
structure HK (hb : Nat) (v v' : Value) (w w' : World) : Prop where
  os : w'.os = w.os
  tape : w'.tape = w.tape
  output : w'.output = w.output
  size : w.heap.size ≤ w'.heap.size
  block : ∀ b, b < w.heap.size → b ≠ hb → v.ownBlock ≠ some b → w'.heap[b]? = w.heap[b]?
  own : ∀ b, v'.ownBlock = some b → v.ownBlock = some b ∨ w.heap.size ≤ b

theorem HK.refl (hb : Nat) (v : Value) (w : World) : HK hb v v w w := ⟨rfl, rfl, rfl, Nat.le_refl _, fun _ _ _ _ => rfl, fun _ h => .inl h⟩
theorem HK.trans {hb : Nat} {v v1 v2 : Value} {w w1 w2 : World} (a : HK hb v v1 w w1) (b : HK hb v1 v2 w1 w2) : HK hb v v2 w w2 := by
  refine ⟨b.os.trans a.os, b.tape.trans a.tape, b.output.trans a.output, Nat.le_trans a.size b.size, fun k hk hne hown => ?_, fun k hk => ?_⟩
  · rw [b.block k (Nat.lt_of_lt_of_le hk a.size) hne (fun e => ?_), a.block k hk hne hown]
    rcases a.own k e with c | c
    · exact hown c
    · omega
  · rcases b.own k hk with c | c
    · exact a.own k c
    · exact .inr (Nat.le_trans a.size c)
theorem HK.of_only {hb sb n c m c' : Nat} {w w' : World} (h : Only sb w w') : HK hb (.slice (some ⟨sb, 0, none⟩) n c) (.slice (some ⟨sb, 0, none⟩) m c') w w' :=
  ⟨h.os, h.tape, h.output, Nat.le_of_eq h.size.symm, fun b _ _ hne => h.block b (fun e => hne (by rw [e]; rfl)), fun _ h => .inl h⟩
theorem HP.of_only {B hb sb n c : Nat} {w w' : World} {q q' : Nat → Nat} (h : HP B hb w (.slice (some ⟨sb, 0, none⟩) n c) n q) (ho : Only sb w w') (hs : Slc w' B 3 1 (.slice (some ⟨sb, 0, none⟩) n c) n (nv q')) : HP B hb w' (.slice (some ⟨sb, 0, none⟩) n c) n q' :=
  ⟨h.box.of_block (ho.block hb (fun e => by have := (h.sl.lt sb rfl).1; have := h.lt; omega)), hs, h.lt⟩

/-- One whole number is appended (to a heap). -/
theorem Slc.app68 {w : World} {B : Nat} {v : Value} {n : Nat} {f : Nat → Value} (h : Slc w B 3 1 v n f) (hB : B ≤ w.heap.size) (hn : n ≤ 100000) (x : Int) :
    ∃ (b cap : Nat) (w' : World), (Builtin.append_ #[68, 68] 68 #[v, .slice (some ⟨w.heap.size, 0, none⟩) 1 1]).run Yba.prog (w.alloc (.cells #[.int .i64 x] 3)) = .ok (.slice (some ⟨b, 0, none⟩) (n + 1) cap) w' ∧
      Slc w' B 3 1 (.slice (some ⟨b, 0, none⟩) (n + 1) cap) (n + 1) (upd f n (.int .i64 x)) ∧ (w.alloc (.cells #[.int .i64 x] 3)).grownBy w' v.ownBlock ∧ (v.ownBlock = some b ∨ w.heap.size < b) := by
  obtain ⟨i0, hi, hz0, hz1, hz2⟩ := info_parts info3
  have hcell : ∀ j u, [Value.int .i64 x][j]? = some u → (w.alloc (.cells #[.int .i64 x] 3)).cell? ((⟨w.heap.size, 0, none⟩ : Addr).add j) = some u := by
    intro j u hj
    match j, hj with
    | 0, hj => simp at hj; subst hj; simp [Addr.add, go_sem]
  have h0 : (w.alloc (.cells #[.int .i64 x] 3)).ownsRow B 3 1 v n ((List.range (n * 1)).map f) := World.ownsRow.alloc h _
  obtain ⟨v', w1, hrun, hown', hgrow, _, hblk⟩ := run_append_own_at (P := Yba.prog) (w.alloc (.cells #[.int .i64 x] 3)) B 68 68 3 i0 (.int .i64 0) 1 8 Yba.underlying68 hi hz0 hz1 hz2 rfl (by decide)
    v n _ h0 ⟨w.heap.size, 0, none⟩ 1 1 [.int .i64 x] rfl hcell (by intro u hu; simp at hu; subst hu; rfl) (by unfold maxLen; omega) (by omega) (by simp; omega)
  obtain ⟨hl', hc'⟩ := hown'
  rcases hc' with ⟨_, h1⟩ | ⟨b, cap, cur, rfl, hg, hh, r1, r2, r3, r4⟩
  · omega
  · refine ⟨b, cap, w1, hrun, ⟨by simp, .inr ⟨b, cap, cur, rfl, hg, hh, r1, r2, r3, ?_⟩⟩, hgrow, ?_⟩
    · rw [r4, Nat.mul_one, Nat.mul_one, range_upd]
    · rcases hblk with c | c
      · exact .inl (c.symm.trans rfl)
      · right
        have : b = (w.alloc (.cells #[.int .i64 x] 3)).heap.size := by simpa [Value.ownBlock] using c
        simp at this
        omega

theorem assert3 (x : Int) (w : World) : (Instr.typeAssert (.iface 3 (.int .i64 x)) 20 3 false).run Yba.prog w = .ok (.int .i64 x) w := by
  simp [Instr.typeAssert, run_underlying Yba.underlying3]

theorem step_append_run68 {P : Program} {ops : Array Oper} {o : Oper} {a : Act} {w w' : World} {K : Act → World → Prop} {Q : Exit → Act → World → Prop} {E : Prop} (hgd : o.guard = none) (s x : Operand) (t : TypeId)
    (ho : o.op = .call { callee := .builtin .append, args := #[s, x], argTypes := #[t, t] }) {v u v' : Value} (hs : a.eval s = v) (hx : a.eval x = u)
    (hrun : (Builtin.append_ #[t, t] o.type #[v, u]).run P w = .ok v' w') (h : K (a.put o.dst v') w') : if Region.wanted o (yielded ops a.tmps) = true then Oper.wp P o a w K Q else E := by
  have hw : Region.wanted o (yielded ops a.tmps) = true := by simp [Region.wanted, hgd]
  rw [if_pos hw]
  unfold Oper.wp
  simp only [execOp]
  simp only [ho, resolve, invoke, builtin, Sem.run_bind, Sem.run_pure, Result.andThen_ok, List.map_toArray, List.map_cons, List.map_nil, hs, hx, hrun]
  exact h

set_option maxRecDepth 20000 in
set_option maxHeartbeats 2000000 in
theorem mpush_any (B hb hl : Nat) (v : Value) (q : Nat → Nat) (x : Nat) (w : World) (h : HP B hb w v hl q) (hB : B ≤ w.heap.size) (hl5 : hl ≤ 1000) :
    Calls Yba.prog 53 #[.pointer (some ⟨hb, 0, none⟩), .iface 3 (.int .i64 (x : Int))] w fun e w' => e = .returned (.tuple #[]) ∧ (∃ b cap, HP B hb w' (.slice (some ⟨b, 0, none⟩) (hl + 1) cap) (hl + 1) (upd q hl x) ∧ HK hb v (.slice (some ⟨b, 0, none⟩) (hl + 1) cap) w w') := by
  have c0 := h.box.cell (i := 0) (by omega)
  have hlt := h.lt
  obtain ⟨b, cap, w1, hap, hsl, hgrow, hb1⟩ := Slc.app68 (w := w.drew) h.sl hB (by omega) (x : Int)
  have hold : ∀ k, k < w.heap.size → v.ownBlock ≠ some k → w1.heap[k]? = w.heap[k]? := fun k hk hne =>
    (hgrow.block k (by show k < (w.alloc _).heap.size; simp; omega) (fun e => hne e.symm)).trans (Below.heap_alloc _ _ _ hk)
  have hbne : v.ownBlock ≠ some hb := fun e => by have := (h.sl.lt hb e).1; omega
  have r1 := h.box.of_block (hold hb h.box.lt hbne)
  have k1 := r1.cell (i := 0) (by omega)
  have f1 := r1.frozen 0
  have hBb : B ≤ b := (hsl.lt b rfl).1
  have HN : Hid (HP B hb (w1.setCell ⟨hb, 0, none⟩ (.slice (some ⟨b, 0, none⟩) (hl + 1) cap)) (.slice (some ⟨b, 0, none⟩) (hl + 1) cap) (hl + 1) (upd q hl x)) := by
    refine ⟨(r1.set 0 _).congr (fun i hi => by simp [show i = 0 by omega]), (hsl.low (by exact hlt) _).congr fun i _ => ?_, hlt⟩
    unfold nv upd
    by_cases e : i = hl <;> simp [e]
  have HF : Hid (HK hb v (.slice (some ⟨b, 0, none⟩) (hl + 1) cap) w (w1.setCell ⟨hb, 0, none⟩ (.slice (some ⟨b, 0, none⟩) (hl + 1) cap))) := by
    refine ⟨hgrow.os, hgrow.tape, hgrow.output, ?_, fun k hk hne hown => ?_, fun k hk => ?_⟩
    · have h1 : (w.alloc (.cells #[.int .i64 (x : Int)] 3)).heap.size ≤ w1.heap.size := hgrow.size
      simp at h1 ⊢
      omega
    · rw [Below.heap_setCell _ _ _ _ hne]; exact hold k hk hown
    · have : b = k := by simpa [Value.ownBlock] using hk
      subst this
      rcases hb1 with c | c
      · exact .inl c
      · exact .inr (Nat.le_of_lt c)
  have hbw := h.box.lt
  have has := assert3
  clear h hsl hgrow hb1 hold r1
  go_enter Yba.func53, Yba.ntmps53
  go_upto_region 0 with fail
  go_region_law (refine step_append_run68 (by rfl) (.tmp 7) (.tmp 10) 68 (by rfl) (by rfl) (by rfl) hap ?_)
  all_goals (go_wp2; go_end0; exact ⟨rfl, _, _, HN.out, HF.out⟩)

set_option maxRecDepth 20000 in
theorem mpop_any (B hb hl cap sb : Nat) (q : Nat → Nat) (w : World) (h : HP B hb w (.slice (some ⟨sb, 0, none⟩) (hl + 1) cap) (hl + 1) q) (hl5 : hl ≤ 1000) (hcap : hl + 1 ≤ cap) :
    Calls Yba.prog 52 #[.pointer (some ⟨hb, 0, none⟩)] w fun e w' => e = .returned (.iface 3 (.int .i64 (q hl : Int))) ∧ HP B hb w' (.slice (some ⟨sb, 0, none⟩) hl cap) hl q ∧ Only hb w w' := by
  have c0 := h.box.cell (i := 0) (by omega)
  have f0 := h.box.frozen 0
  have cl : w.cell? ⟨sb, hl, none⟩ = some (.int .i64 (q hl : Int)) := h.sl.cell (i := hl) (by omega)
  have HN : Hid (HP B hb (w.setCell ⟨hb, 0, none⟩ (.slice (some ⟨sb, 0, none⟩) hl cap)) (.slice (some ⟨sb, 0, none⟩) hl cap) hl q) :=
    ⟨(h.box.set 0 _).congr (fun i hi => by simp [show i = 0 by omega]), (h.sl.take (by omega)).low (by exact h.lt) _, h.lt⟩
  have HO : Hid _ := (Only.refl hb w).setCell 0 (.slice (some ⟨sb, 0, none⟩) hl cap)
  clear h
  go_enter Yba.func52, Yba.ntmps52
  go_wp2
  go_ret
  exact ⟨rfl, HN.out, HO.out⟩
end Go.Proofs.Ybulkcuye.A
