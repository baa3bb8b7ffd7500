/- The seat's base for Cycle and Serial: slices that grow, by the index; append by its run. -/
import Derived.Test.YbulkcuyeBBase
import Derived.Test.YbulkcuyeAKahn
import Derived.Maps.AppendAt
namespace Go.Proofs.Ybulkcuye.A
open Go.RowKit

theorem info3 : (Yba.prog.info? 3).map (fun i => (i.zero, i.size, i.bytes)) = some (some (.int .i64 0), 1, 8) := by kernel_rfl
theorem info76 : (Yba.prog.info? 76).map (fun i => (i.zero, i.size, i.bytes)) = some (some (.agg #[.int .i64 0, .int .i64 0]), 2, 16) := by kernel_rfl
theorem info_parts {P : Program} {e : TypeId} {z : Option Value} {s b : Nat} (h : (P.info? e).map (fun i => (i.zero, i.size, i.bytes)) = some (z, s, b)) : ∃ i, P.info? e = some i ∧ i.zero = z ∧ i.size = s ∧ i.bytes = b := by
  obtain ⟨i, hi, e1⟩ := Option.map_eq_some_iff.1 h
  simp only [Prod.mk.injEq] at e1
  exact ⟨i, hi, e1.1, e1.2.1, e1.2.2⟩

/-- The builtin append, by its run. -/
theorem wpList_append_run {P : Program} {w w' : World} {ops : Array Oper} {rest : List Oper} {o : Oper} {a : Act} {Q : Exit → Act → World → Prop} (hgd : o.guard = none) (s x : Operand) (t : TypeId)
    (ho : o.op = .call { callee := .builtin .append, args := #[s, x], argTypes := #[t, t] }) {v u v' : Value} (hs : a.eval s = v) (hx : a.eval x = u)
    (hrun : (Builtin.append_ #[t, t] o.type #[v, u]).run P w = .ok v' w') (h : wpList P ops Q rest (a.put o.dst v') w') : wpList P ops Q (o :: rest) a w := by
  refine wpList_plain hgd fun K hK => ?_
  unfold Oper.wp
  simp only [execOp]
  simp only [ho, resolve, invoke, builtin, Sem.run_bind, Sem.run_pure, Result.andThen_ok, List.map_toArray, List.map_cons, List.map_nil, hs, hx, hrun]
  exact hK _ _ h

/-- A slice of the call's own in blocks from B on, by the index: element type e of sz cells, n elements, cell i holds 'f i'. -/
def Slc (w : World) (B : Nat) (e : TypeId) (sz : Nat) (v : Value) (n : Nat) (f : Nat → Value) : Prop := w.ownsRow B e sz v n ((List.range (n * sz)).map f)

theorem range_upd (f : Nat → Value) (n : Nat) (x : Value) : (List.range (n + 1)).map (upd f n x) = (List.range n).map f ++ [x] := by
  rw [List.range_succ, List.map_append, List.map_cons, List.map_nil, upd_same]
  congr 1
  exact List.map_congr_left fun i hi => upd_ne _ _ _ (by have := List.mem_range.1 hi; omega)

section
variable {w : World} {B : Nat} {e : TypeId} {sz : Nat} {v : Value} {n : Nat} {f g : Nat → Value}

theorem Slc.congr (h : Slc w B e sz v n f) (hfg : ∀ i, i < n * sz → f i = g i) : Slc w B e sz v n g := by
  unfold Slc at h ⊢
  rw [List.map_congr_left (g := g) (fun i hi => hfg i (List.mem_range.1 hi))] at h
  exact h

theorem Slc.form (h : Slc w B e sz v n f) : ∃ a cap, v = .slice a n cap ∧ (0 < n → ∃ b, a = some ⟨b, 0, none⟩) := by
  rcases h.2 with ⟨hv, h0⟩ | ⟨b, cap, cur, hv, _⟩
  · subst h0; exact ⟨none, 0, hv, fun h => absurd h (by omega)⟩
  · exact ⟨_, cap, hv, fun _ => ⟨b, rfl⟩⟩

theorem Slc.at (h : Slc w B e sz v n f) (hn : 0 < n) : ∃ b cap, v = .slice (some ⟨b, 0, none⟩) n cap ∧ B ≤ b ∧ b < w.heap.size ∧ n ≤ cap ∧ cap ≤ maxLen := by
  rcases h.2 with ⟨_, h0⟩ | ⟨b, cap, cur, hv, hb, hg, hnc, hm, _⟩
  · omega
  · refine ⟨b, cap, hv, hb, ?_, hnc, hm⟩
    rcases Nat.lt_or_ge b w.heap.size with c | c
    · exact c
    · rw [Array.getElem?_eq_none c] at hg; cases hg

theorem Slc.cell {b cap : Nat} (h : Slc w B e sz (.slice (some ⟨b, 0, none⟩) n cap) n f) {i : Nat} (hi : i < n * sz) : w.cell? ⟨b, i, none⟩ = some (f i) := by
  rw [World.ownsRow.cellAt h i hi, List.getElem?_map, List.getElem?_range hi]
  rfl

theorem Slc.frozen {b cap : Nat} (h : Slc w B e sz (.slice (some ⟨b, 0, none⟩) n cap) n f) (i : Nat) : w.frozen? ⟨b, i, none⟩ = false := World.ownsRow.frozenAt h i

theorem Slc.take {b cap k : Nat} (h : Slc w B e sz (.slice (some ⟨b, 0, none⟩) n cap) n f) (hk : k ≤ n) : Slc w B e sz (.slice (some ⟨b, 0, none⟩) k cap) k f := by
  rcases h.2 with ⟨hv, _⟩ | ⟨b', cap', cur, hv, hb, hg, hnc, hm, hs, ht⟩
  · cases hv
  · cases hv
    refine ⟨by simp, .inr ⟨b, cap, cur, rfl, hb, hg, by omega, hm, hs, ?_⟩⟩
    have hle : k * sz ≤ n * sz := Nat.mul_le_mul_right _ hk
    have : (cur.toList.take (n * sz)).take (k * sz) = ((List.range (n * sz)).map f).take (k * sz) := by rw [ht]
    rw [List.take_take, Nat.min_eq_left hle, ← List.map_take, List.take_range, Nat.min_eq_left hle] at this
    exact this

theorem Slc.set {b cap : Nat} (h : Slc w B e sz (.slice (some ⟨b, 0, none⟩) n cap) n f) (i : Nat) (u : Value) : Slc (w.setCell ⟨b, i, none⟩ u) B e sz (.slice (some ⟨b, 0, none⟩) n cap) n (upd f i u) := by
  have := (World.ownsRow.stored h i u).1
  unfold Slc
  rw [show (List.range (n * sz)).map (upd f i u) = ((List.range (n * sz)).map f).set i u by
    apply List.ext_getElem?
    intro j
    rw [List.getElem?_set]
    by_cases hj : j < n * sz
    · rw [List.getElem?_map, List.getElem?_range hj]
      by_cases e : i = j
      · subst e; simp [upd, hj]
      · have e' : j ≠ i := fun c => e c.symm
        simp [upd, e, e', hj]
    · rw [List.getElem?_eq_none (by simpa using hj)]
      by_cases e : i = j
      · simp [e, hj]
      · simp [e, hj]]
  exact this

theorem Slc.of {w' : World} (h : Slc w B e sz v n f) (hk : ∀ b, v.ownBlock = some b → w'.heap[b]? = w.heap[b]?) : Slc w' B e sz v n f := by
  refine ⟨h.1, ?_⟩
  rcases h.2 with c | ⟨b, cap, cur, hv, hb, hg, r⟩
  · exact .inl c
  · exact .inr ⟨b, cap, cur, hv, hb, by rw [hk b (by rw [hv]; rfl)]; exact hg, r⟩

theorem Slc.lt (h : Slc w B e sz v n f) : ∀ b, v.ownBlock = some b → B ≤ b ∧ b < w.heap.size := World.ownsRow.lt h

/-- Rows of different types are different rows. -/
theorem Slc.typed {e' : TypeId} {sz' n' : Nat} {v' : Value} {f' : Nat → Value} (h : Slc w B e sz v n f) (k : Slc w B e' sz' v' n' f') (he : e ≠ e') : ∀ b, v.ownBlock = some b → v'.ownBlock ≠ some b := by
  intro b hb hb'
  rcases h.2 with ⟨hv, _⟩ | ⟨b1, cap, cur, hv, _, hg, _⟩
  · rw [hv] at hb; cases hb
  · rcases k.2 with ⟨hv', _⟩ | ⟨b2, cap', cur', hv', _, hg', _⟩
    · rw [hv'] at hb'; cases hb'
    · rw [hv] at hb; rw [hv'] at hb'
      cases hb; cases hb'
      rw [hg] at hg'
      simp only [Option.some.injEq, Obj.cells.injEq] at hg'
      exact he hg'.2.1

theorem Slc.nil (w : World) (B : Nat) (e : TypeId) (sz : Nat) (f : Nat → Value) : Slc w B e sz (.slice none 0 0) 0 f := by
  refine ⟨by simp, .inl ⟨rfl, rfl⟩⟩

theorem Slc.mono {B' : Nat} (h : Slc w B e sz v n f) (hB : B' ≤ B) : Slc w B' e sz v n f := by
  refine ⟨h.1, ?_⟩
  rcases h.2 with c | ⟨b, cap, cur, hv, hb, r⟩
  · exact .inl c
  · exact .inr ⟨b, cap, cur, hv, by omega, r⟩

/-- A row that was made with room for it. -/
theorem Slc.made {b cap : Nat} (h : w.rowIs b e cap f) (hb : B ≤ b) (hn : n ≤ cap) (hm : cap ≤ maxLen) : Slc w B e 1 (.slice (some ⟨b, 0, none⟩) n cap) n f := by
  obtain ⟨c, hc, hs, hf⟩ := h
  refine ⟨by simp, .inr ⟨b, cap, c, rfl, hb, hc, hn, hm, by omega, ?_⟩⟩
  apply List.ext_getElem?
  intro j
  rw [Nat.mul_one, List.getElem?_take]
  by_cases hj : j < n
  · rw [if_pos hj, List.getElem?_map, List.getElem?_range hj, Array.getElem?_toList, hf j (by omega)]
    rfl
  · rw [if_neg hj, List.getElem?_eq_none (by simpa using hj)]
end

/-- One whole number is appended. -/
theorem Slc.app {w : World} {B : Nat} {v : Value} {n : Nat} {f : Nat → Value} (h : Slc w B 3 1 v n f) (hB : B ≤ w.heap.size) (hn : n ≤ 100000) (x : Int) :
    ∃ (b cap : Nat) (w' : World), (Builtin.append_ #[25, 25] 25 #[v, .slice (some ⟨w.heap.size, 0, none⟩) 1 1]).run Yba.prog (w.alloc (.cells #[.int .i64 x] 3)) = .ok (.slice (some ⟨b, 0, none⟩) (n + 1) cap) w' ∧
      Slc w' B 3 1 (.slice (some ⟨b, 0, none⟩) (n + 1) cap) (n + 1) (upd f n (.int .i64 x)) ∧ (w.alloc (.cells #[.int .i64 x] 3)).grownBy w' v.ownBlock ∧ (v.ownBlock = some b ∨ w.heap.size < b) := by
  obtain ⟨i0, hi, hz0, hz1, hz2⟩ := info_parts info3
  have hcell : ∀ j u, [Value.int .i64 x][j]? = some u → (w.alloc (.cells #[.int .i64 x] 3)).cell? ((⟨w.heap.size, 0, none⟩ : Addr).add j) = some u := by
    intro j u hj
    match j, hj with
    | 0, hj => simp at hj; subst hj; simp [Addr.add, go_sem]
  have h0 : (w.alloc (.cells #[.int .i64 x] 3)).ownsRow B 3 1 v n ((List.range (n * 1)).map f) := World.ownsRow.alloc h _
  obtain ⟨v', w1, hrun, hown', hgrow, _, hblk⟩ := run_append_own_at (P := Yba.prog) (w.alloc (.cells #[.int .i64 x] 3)) B 25 25 3 i0 (.int .i64 0) 1 8 Yba.underlying25 hi hz0 hz1 hz2 rfl (by decide)
    v n _ h0 ⟨w.heap.size, 0, none⟩ 1 1 [.int .i64 x] rfl hcell (by intro u hu; simp at hu; subst hu; rfl) (by unfold maxLen; omega) (by omega) (by simp; omega)
  obtain ⟨hl', hc'⟩ := hown'
  rcases hc' with ⟨_, h1⟩ | ⟨b, cap, cur, rfl, hg, hh, r1, r2, r3, r4⟩
  · omega
  · refine ⟨b, cap, w1, hrun, ⟨by simp, .inr ⟨b, cap, cur, rfl, hg, hh, r1, r2, r3, ?_⟩⟩, hgrow, ?_⟩
    · rw [r4, Nat.mul_one, Nat.mul_one, range_upd]
    · rcases hblk with c | c
      · exact .inl (c.symm.trans rfl)
      · right
        have : b = (w.alloc (.cells #[.int .i64 x] 3)).heap.size := by simpa [Value.ownBlock] using c
        simp at this
        omega

/-- One call is appended. -/
theorem Slc.app2 {w : World} {B : Nat} {v : Value} {n : Nat} {f : Nat → Value} (h : Slc w B 76 2 v n f) (hB : B ≤ w.heap.size) (hn : n ≤ 100000) (x y : Int) :
    ∃ (b cap : Nat) (w' : World), (Builtin.append_ #[74, 74] 74 #[v, .slice (some ⟨w.heap.size, 0, none⟩) 1 1]).run Yba.prog (w.alloc (.cells #[.int .i64 x, .int .i64 y] 76)) = .ok (.slice (some ⟨b, 0, none⟩) (n + 1) cap) w' ∧
      Slc w' B 76 2 (.slice (some ⟨b, 0, none⟩) (n + 1) cap) (n + 1) (upd (upd f (n * 2) (.int .i64 x)) (n * 2 + 1) (.int .i64 y)) ∧ (w.alloc (.cells #[.int .i64 x, .int .i64 y] 76)).grownBy w' v.ownBlock ∧ (v.ownBlock = some b ∨ w.heap.size < b) := by
  obtain ⟨i0, hi, hz0, hz1, hz2⟩ := info_parts info76
  have hcell : ∀ j u, [Value.int .i64 x, .int .i64 y][j]? = some u → (w.alloc (.cells #[.int .i64 x, .int .i64 y] 76)).cell? ((⟨w.heap.size, 0, none⟩ : Addr).add j) = some u := by
    intro j u hj
    match j, hj with
    | 0, hj => simp at hj; subst hj; simp [Addr.add, go_sem]
    | 1, hj => simp at hj; subst hj; simp [Addr.add, go_sem]
  have h0 : (w.alloc (.cells #[.int .i64 x, .int .i64 y] 76)).ownsRow B 76 2 v n ((List.range (n * 2)).map f) := World.ownsRow.alloc h _
  obtain ⟨v', w1, hrun, hown', hgrow, _, hblk⟩ := run_append_own_at (P := Yba.prog) (w.alloc (.cells #[.int .i64 x, .int .i64 y] 76)) B 74 74 76 i0 (.agg #[.int .i64 0, .int .i64 0]) 2 16 Yba.underlying74 hi hz0 hz1 hz2 rfl (by decide)
    v n _ h0 ⟨w.heap.size, 0, none⟩ 1 1 [.int .i64 x, .int .i64 y] rfl hcell (by intro u hu; simp at hu; rcases hu with rfl | rfl <;> rfl) (by unfold maxLen; omega) (by omega) (by simp; omega)
  obtain ⟨hl', hc'⟩ := hown'
  rcases hc' with ⟨_, h1⟩ | ⟨b, cap, cur, rfl, hg, hh, r1, r2, r3, r4⟩
  · omega
  · refine ⟨b, cap, w1, hrun, ⟨by simp, .inr ⟨b, cap, cur, rfl, hg, hh, r1, r2, r3, ?_⟩⟩, hgrow, ?_⟩
    · rw [r4, show (n + 1) * 2 = n * 2 + 1 + 1 by omega, range_upd, range_upd, List.append_assoc]
      rfl
    · rcases hblk with c | c
      · exact .inl (c.symm.trans rfl)
      · right
        have : b = (w.alloc (.cells #[.int .i64 x, .int .i64 y] 76)).heap.size := by simpa [Value.ownBlock] using c
        simp at this
        omega

end Go.Proofs.Ybulkcuye.A
