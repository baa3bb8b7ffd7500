/- 'edge' (func 15). -/
import Derived.Test.YbulkcuyeACompB
import Derived.Deep.RegionLaw
import Derived.Stop.LaidErr
namespace Go.Proofs.Ybulkcuye.A
open Go.RowKit

theorem step_append_run {P : Program} {ops : Array Oper} {o : Oper} {a : Act} {w w' : World} {K : Act → World → Prop} {Q : Exit → Act → World → Prop} {E : Prop} (hgd : o.guard = none) (s x : Operand) (t : TypeId)
    (ho : o.op = .call { callee := .builtin .append, args := #[s, x], argTypes := #[t, t] }) {v u v' : Value} (hs : a.eval s = v) (hx : a.eval x = u)
    (hrun : (Builtin.append_ #[t, t] o.type #[v, u]).run P w = .ok v' w') (h : K (a.put o.dst v') w') : if Region.wanted o (yielded ops a.tmps) = true then Oper.wp P o a w K Q else E := by
  have hw : Region.wanted o (yielded ops a.tmps) = true := by simp [Region.wanted, hgd]
  rw [if_pos hw]
  unfold Oper.wp
  simp only [execOp]
  simp only [ho, resolve, invoke, builtin, Sem.run_bind, Sem.run_pure, Result.andThen_ok, List.map_toArray, List.map_cons, List.map_nil, hs, hx, hrun]
  exact h

/-- A list's numbers as cells. -/
def lv (l : List Nat) (j : Nat) : Value := .int .i64 (l.getD j 0 : Int)

/-- The graph while it is built. -/
structure ER (B : Nat) (w : World) (G X1 X2 n : Nat) (nx : Nat → List Nat) (vl : Nat → Value) (inn : Nat → Nat) : Prop where
  ne1 : G ≠ X1
  ne2 : G ≠ X2
  g1 : w.cell? ⟨G, 1, none⟩ = some (.slice (some ⟨X1, 0, none⟩) n n)
  g2 : w.cell? ⟨G, 2, none⟩ = some (.slice (some ⟨X2, 0, none⟩) n n)
  row1 : w.rowIs X1 25 n vl
  row2 : w.rowIs X2 3 n (nv inn)
  lists : ∀ i, i < n → Slc w B 3 1 (vl i) (nx i).length (lv (nx i))
  apart : ∀ i j, i < n → j < n → i ≠ j → ∀ b, (vl i).ownBlock = some b → (vl j).ownBlock ≠ some b
  off : ∀ i, i < n → (vl i).ownBlock ≠ some X2 ∧ (vl i).ownBlock ≠ some G

theorem ER.x12 {B : Nat} {w : World} {G X1 X2 n : Nat} {nx : Nat → List Nat} {vl : Nat → Value} {inn : Nat → Nat} (h : ER B w G X1 X2 n nx vl inn) : X1 ≠ X2 := by
  intro e
  obtain ⟨c, hc, _⟩ := h.row1
  obtain ⟨d, hd, _⟩ := h.row2
  rw [e, hd] at hc
  cases hc

theorem ER.off1 {B : Nat} {w : World} {G X1 X2 n : Nat} {nx : Nat → List Nat} {vl : Nat → Value} {inn : Nat → Nat} (h : ER B w G X1 X2 n nx vl inn) : ∀ i, i < n → (vl i).ownBlock ≠ some X1 := by
  intro i hi e
  obtain ⟨c, hc, _⟩ := h.row1
  rcases (h.lists i hi).2 with ⟨hv, _⟩ | ⟨b, cap, cur, hv, _, hg, _⟩
  · rw [hv] at e; cases e
  · rw [hv] at e
    simp only [Value.ownBlock, Option.some.injEq] at e
    rw [e, hc] at hg
    cases hg

/-- What 'edge' leaves as it was. -/
structure EK (G X1 X2 : Nat) (v : Value) (w w' : World) : Prop where
  os : w'.os = w.os
  tape : w'.tape = w.tape
  output : w'.output = w.output
  size : w.heap.size ≤ w'.heap.size
  block : ∀ b, b < w.heap.size → b ≠ X1 → b ≠ X2 → v.ownBlock ≠ some b → w'.heap[b]? = w.heap[b]?

theorem lv_app (l : List Nat) (t j : Nat) (hj : j < l.length + 1) : upd (lv l) l.length (.int .i64 (t : Int)) j = lv (l ++ [t]) j := by
  unfold lv
  by_cases e : j = l.length
  · subst e
    rw [upd_same]
    simp
  · rw [upd_ne _ _ _ e]
    have : j < l.length := by omega
    simp [List.getElem?_append_left this]

/-- The list of f has grown by t, its new slice is stored, t's count is one more. -/
theorem ER.step {B : Nat} {w w1 : World} {G X1 X2 n : Nat} {nx : Nat → List Nat} {vl : Nat → Value} {inn : Nat → Nat} {f t b cap : Nat} (h : ER B w G X1 X2 n nx vl inn) (hf : f < n) (_ht : t < n)
    (hsl : Slc w1 B 3 1 (.slice (some ⟨b, 0, none⟩) ((nx f).length + 1) cap) ((nx f).length + 1) (upd (lv (nx f)) (nx f).length (.int .i64 (t : Int))))
    (hgrow : (w.drew.alloc (.cells #[.int .i64 (t : Int)] 3)).grownBy w1 (vl f).ownBlock) (hb : (vl f).ownBlock = some b ∨ w.drew.heap.size < b) :
    ER B ((w1.setCell ⟨X1, f, none⟩ (.slice (some ⟨b, 0, none⟩) ((nx f).length + 1) cap)).setCell ⟨X2, t, none⟩ (.int .i64 ((inn t : Int) + 1))) G X1 X2 n (upd nx f (nx f ++ [t])) (upd vl f (.slice (some ⟨b, 0, none⟩) ((nx f).length + 1) cap)) (upd inn t (inn t + 1)) ∧
      EK G X1 X2 (vl f) w ((w1.setCell ⟨X1, f, none⟩ (.slice (some ⟨b, 0, none⟩) ((nx f).length + 1) cap)).setCell ⟨X2, t, none⟩ (.int .i64 ((inn t : Int) + 1))) := by
  have hold : ∀ k, k < w.heap.size → (vl f).ownBlock ≠ some k → w1.heap[k]? = w.heap[k]? := fun k hk hne =>
    (hgrow.block k (by show k < (w.alloc _).heap.size; simp; omega) (fun e => hne e.symm)).trans (Below.heap_alloc _ _ _ hk)
  obtain ⟨W, hW⟩ : ∃ W, W = (w1.setCell ⟨X1, f, none⟩ (.slice (some ⟨b, 0, none⟩) ((nx f).length + 1) cap)).setCell ⟨X2, t, none⟩ (.int .i64 ((inn t : Int) + 1)) := ⟨_, rfl⟩
  have hWk : ∀ k, k ≠ X1 → k ≠ X2 → W.heap[k]? = w1.heap[k]? := fun k h1 h2 => by
    rw [hW]
    exact (Below.heap_setCell _ _ _ _ h2).trans (Below.heap_setCell _ _ _ _ h1)
  have hG := cell_lt h.g1
  have hbX : b ≠ X1 ∧ b ≠ X2 ∧ b ≠ G := by
    have l1 := h.row1.lt
    have l2 := h.row2.lt
    have l3 : G < w.heap.size := hG
    rcases hb with e | e
    · exact ⟨fun c => h.off1 f hf (c ▸ e), fun c => (h.off f hf).1 (c ▸ e), fun c => (h.off f hf).2 (c ▸ e)⟩
    · have e' : w.heap.size < b := e
      omega
  have r1 : w1.rowIs X1 25 n vl := h.row1.of_block (hold _ h.row1.lt (h.off1 f hf))
  have r2 : w1.rowIs X2 3 n (nv inn) := h.row2.of_block (hold _ h.row2.lt (h.off f hf).1)
  rw [← hW]
  refine ⟨⟨h.ne1, h.ne2, ?_, ?_, ?_, ?_, ?_, ?_, ?_⟩, ⟨?_, ?_, ?_, ?_, ?_⟩⟩
  · rw [World.cell?_of_block (w := w) ((hWk G h.ne1 h.ne2).trans (hold G hG (h.off f hf).2))]; exact h.g1
  · rw [World.cell?_of_block (w := w) ((hWk G h.ne1 h.ne2).trans (hold G hG (h.off f hf).2))]; exact h.g2
  · rw [hW]
    refine ((r1.set f _).setOther (by exact h.x12) _).congr fun j _ => ?_
    unfold upd
    rfl
  · rw [hW]
    refine ((r2.setOther (by exact fun e => h.x12 e.symm) _).set t _).congr fun j _ => ?_
    unfold nv upd
    by_cases e : j = t <;> simp [e]
  · intro i hi
    by_cases e : i = f
    · subst e
      rw [upd_same, upd_same, List.length_append, List.length_singleton]
      refine (hsl.of fun k hk => ?_).congr fun j hj => lv_app _ _ _ (by omega)
      have : b = k := by simpa [Value.ownBlock] using hk
      subst this
      exact hWk b hbX.1 hbX.2.1
    · rw [upd_ne _ _ _ e, upd_ne _ _ _ e]
      refine (h.lists i hi).of fun k hk => ?_
      exact (hWk k (fun c => h.off1 i hi (c ▸ hk)) (fun c => (h.off i hi).1 (c ▸ hk))).trans (hold k ((h.lists i hi).lt k hk).2 (fun c => h.apart f i hf hi (fun c => e c.symm) k c hk))
  · intro i j hi hj hij k hk
    by_cases e : i = f
    · subst e
      rw [upd_same] at hk
      have hkb : b = k := by simpa [Value.ownBlock] using hk
      subst hkb
      rw [upd_ne _ _ _ (fun c => hij c.symm)]
      rcases hb with c | c
      · exact h.apart i j hi hj hij b c
      · intro c2
        have := ((h.lists j hj).lt b c2).2
        have c' : w.heap.size < b := c
        omega
    · rw [upd_ne _ _ _ e] at hk
      by_cases e2 : j = f
      · subst e2
        rw [upd_same]
        intro c2
        have hkb : b = k := by simpa [Value.ownBlock] using c2
        subst hkb
        rcases hb with c | c
        · exact h.apart i j hi hj hij b hk c
        · have := ((h.lists i hi).lt b hk).2
          have c' : w.heap.size < b := c
          omega
      · rw [upd_ne _ _ _ e2]; exact h.apart i j hi hj hij k hk
  · intro i hi
    by_cases e : i = f
    · subst e
      rw [upd_same]
      exact ⟨fun c => hbX.2.1 (by simpa [Value.ownBlock] using c), fun c => hbX.2.2 (by simpa [Value.ownBlock] using c)⟩
    · rw [upd_ne _ _ _ e]; exact h.off i hi
  · rw [hW]; exact hgrow.os
  · rw [hW]; exact hgrow.tape
  · rw [hW]; exact hgrow.output
  · have h1 : (w.alloc (.cells #[.int .i64 (t : Int)] 3)).heap.size ≤ w1.heap.size := hgrow.size
    rw [hW]
    simp at h1 ⊢
    omega
  · intro k hk h1 h2 h3
    exact (hWk k h1 h2).trans (hold k hk h3)

set_option maxRecDepth 20000 in
set_option maxHeartbeats 2000000 in
theorem edge_ne (B : Nat) (w : World) (G X1 X2 n : Nat) (nx : Nat → List Nat) (vl : Nat → Value) (inn : Nat → Nat) (f t : Nat) (h : ER B w G X1 X2 n nx vl inn) (hB : B ≤ w.heap.size) (hf : f < n) (ht : t < n) (hft : f ≠ t) (hlen : (nx f).length ≤ 5000) (hin : inn t ≤ 5000) :
    Calls Yba.prog 15 #[.pointer (some ⟨G, 0, none⟩), .int .i64 (f : Int), .int .i64 (t : Int)] w fun e w' => e = .returned (.tuple #[]) ∧
      (∃ v', ER B w' G X1 X2 n (upd nx f (nx f ++ [t])) (upd vl f v') (upd inn t (inn t + 1))) ∧ EK G X1 X2 (vl f) w w' := by
  have c1 := h.g1
  have cf := h.row1.cell hf
  obtain ⟨b, cap, w1, hap, hsl, hgrow, hb⟩ := Slc.app (w := w.drew) (h.lists f hf) hB (by omega) (t : Int)
  obtain ⟨hend, hkeep⟩ := h.step hf ht hsl hgrow hb
  have hold : ∀ k, k < w.heap.size → (vl f).ownBlock ≠ some k → w1.heap[k]? = w.heap[k]? := fun k hk hne =>
    (hgrow.block k (by show k < (w.alloc _).heap.size; simp; omega) (fun e => hne e.symm)).trans (Below.heap_alloc _ _ _ hk)
  have hG : G < w.heap.size := cell_lt c1
  have k1 : w1.cell? ⟨G, 1, none⟩ = some (.slice (some ⟨X1, 0, none⟩) n n) := (World.cell?_of_block (w := w) (hold G hG (h.off f hf).2)).trans h.g1
  have k2 : w1.cell? ⟨G, 2, none⟩ = some (.slice (some ⟨X2, 0, none⟩) n n) := (World.cell?_of_block (w := w) (hold G hG (h.off f hf).2)).trans h.g2
  have r1 : w1.rowIs X1 25 n vl := h.row1.of_block (hold _ h.row1.lt (h.off1 f hf))
  have r2 : w1.rowIs X2 3 n (nv inn) := h.row2.of_block (hold _ h.row2.lt (h.off f hf).1)
  have f1 := r1.frozen f
  have k4 := r1.cell hf
  have f2 := r2.frozen t
  have k3 : w1.cell? ⟨X2, t, none⟩ = some (.int .i64 (inn t : Int)) := r2.cell ht
  have hx1 : X1 < w.heap.size := h.row1.lt
  have hne1 : ¬ G = X1 := h.ne1
  have hne2 : ¬ X2 = X1 := fun e => h.x12 e.symm
  have HE : Hid _ := hend
  have HK : Hid _ := hkeep
  clear h hend hkeep hsl hgrow hb hold r1 r2
  go_enter Yba.func15, Yba.ntmps15
  go_wp2_with fail
  go_region_law (refine step_append_run (by rfl) (.tmp 24) (.tmp 26) 25 (by rfl) (by rfl) (by rfl) hap ?_)
  all_goals (go_wp2; go_end0; exact ⟨rfl, ⟨_, HE.out⟩, HK.out⟩)

theorem edge_eq (w : World) (G f : Nat) : Calls Yba.prog 15 #[.pointer (some ⟨G, 0, none⟩), .int .i64 (f : Int), .int .i64 (f : Int)] w fun e w' => e = .returned (.tuple #[]) ∧ w' = w := by
  go_enter Yba.func15, Yba.ntmps15
  go_wp2
  go_end0
  exact ⟨rfl, rfl⟩
end Go.Proofs.Ybulkcuye.A
