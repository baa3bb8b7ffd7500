/- The state of Tarjan's search as it lies in memory, and the closure 'reach' (func 24). -/
import Derived.Test.YbulkcuyeABase
namespace Go.Proofs.Ybulkcuye.A
open Go.RowKit

/-- Numbers as cells. -/
def nv (f : Nat → Nat) (i : Nat) : Value := .int .i64 (f i : Int)
/-- The calls' cells: two to a call. -/
def callf (ct pr : Nat → Nat) (j : Nat) : Value := if j % 2 = 0 then .int .i64 (ct (j / 2) : Int) else .int .i64 (pr (ct (j / 2)) : Int)

structure Rep (B n : Nat) (s : TS) (w : World) (vo vc vs : Value) : Prop where
  ix : w.rowIs B 3 n (nv s.idx)
  bi : w.rowIs (B + 1) 25 1 (fun _ => .slice (some ⟨B, 0, none⟩) n n)
  lo : w.rowIs (B + 2) 3 n (nv s.low)
  bl : w.rowIs (B + 3) 25 1 (fun _ => .slice (some ⟨B + 2, 0, none⟩) n n)
  co : w.rowIs (B + 4) 3 n (fun i => .int .i64 (s.comp i))
  bo : w.rowIs (B + 5) 25 1 (fun _ => vo)
  bc : w.rowIs (B + 6) 74 1 (fun _ => vc)
  br : w.rowIs (B + 7) 3 1 (fun _ => .int .i64 (s.cnt : Int))
  ro : Slc w (B + 8) 3 1 vo s.ol (nv s.op)
  rc : Slc w (B + 8) 76 2 vc s.cl (callf s.ct s.pr)
  rs : Slc w (B + 8) 3 1 vs s.sl (nv s.sz)
  apart : ∀ b, vo.ownBlock = some b → vs.ownBlock ≠ some b

theorem nv_upd (f : Nat → Nat) (i x j : Nat) : (if j = i then Value.int .i64 (x : Int) else nv f j) = nv (upd f i x) j := by
  unfold nv upd
  by_cases e : j = i <;> simp [e]

theorem Slc.low {w : World} {B : Nat} {e : TypeId} {sz : Nat} {v : Value} {n : Nat} {f : Nat → Value} (h : Slc w B e sz v n f) {a : Addr} (ha : a.block < B) (u : Value) : Slc (w.setCell a u) B e sz v n f :=
  ownsRow_setCell_below h ha u

/-- A cell of one of the eight low blocks is written: the slices stay. -/
theorem Rep.cnt_set {B n : Nat} {s : TS} {w : World} {vo vc vs : Value} (h : Rep B n s w vo vc vs) (x : Nat) : Rep B n { s with cnt := x } (w.setCell ⟨B + 7, 0, none⟩ (.int .i64 (x : Int))) vo vc vs :=
  ⟨h.ix.setOther (by simp) _, h.bi.setOther (by simp) _, h.lo.setOther (by simp) _, h.bl.setOther (by simp) _, h.co.setOther (by simp) _, h.bo.setOther (by simp) _, h.bc.setOther (by simp) _,
    (h.br.set 0 _).congr (fun i hi => by simp [show i = 0 by omega]), h.ro.low (by simp) _, h.rc.low (by simp) _, h.rs.low (by simp) _, h.apart⟩
theorem Rep.idx_set {B n : Nat} {s : TS} {w : World} {vo vc vs : Value} (h : Rep B n s w vo vc vs) (i x : Nat) : Rep B n { s with idx := upd s.idx i x } (w.setCell ⟨B, i, none⟩ (.int .i64 (x : Int))) vo vc vs :=
  ⟨(h.ix.set i _).congr (fun j _ => nv_upd _ _ _ _), h.bi.setOther (by simp) _, h.lo.setOther (by simp) _, h.bl.setOther (by simp) _, h.co.setOther (by simp) _, h.bo.setOther (by simp) _, h.bc.setOther (by simp) _,
    h.br.setOther (by simp) _, h.ro.low (by simp) _, h.rc.low (by simp) _, h.rs.low (by simp) _, h.apart⟩
theorem Rep.low_set {B n : Nat} {s : TS} {w : World} {vo vc vs : Value} (h : Rep B n s w vo vc vs) (i x : Nat) : Rep B n { s with low := upd s.low i x } (w.setCell ⟨B + 2, i, none⟩ (.int .i64 (x : Int))) vo vc vs :=
  ⟨h.ix.setOther (by simp) _, h.bi.setOther (by simp) _, (h.lo.set i _).congr (fun j _ => nv_upd _ _ _ _), h.bl.setOther (by simp) _, h.co.setOther (by simp) _, h.bo.setOther (by simp) _, h.bc.setOther (by simp) _,
    h.br.setOther (by simp) _, h.ro.low (by simp) _, h.rc.low (by simp) _, h.rs.low (by simp) _, h.apart⟩
theorem Rep.comp_set {B n : Nat} {s : TS} {w : World} {vo vc vs : Value} (h : Rep B n s w vo vc vs) (i : Nat) (x : Int) : Rep B n { s with comp := upd s.comp i x } (w.setCell ⟨B + 4, i, none⟩ (.int .i64 x)) vo vc vs :=
  ⟨h.ix.setOther (by simp) _, h.bi.setOther (by simp) _, h.lo.setOther (by simp) _, h.bl.setOther (by simp) _, (h.co.set i _).congr (fun j _ => by unfold upd; by_cases e : j = i <;> simp [e]), h.bo.setOther (by simp) _, h.bc.setOther (by simp) _,
    h.br.setOther (by simp) _, h.ro.low (by simp) _, h.rc.low (by simp) _, h.rs.low (by simp) _, h.apart⟩

/-- A world that differs in no block of the state. -/
theorem Rep.of {B n : Nat} {s : TS} {w w' : World} {vo vc vs : Value} (h : Rep B n s w vo vc vs) (hk : ∀ b, b < w.heap.size → w'.heap[b]? = w.heap[b]?) : Rep B n s w' vo vc vs :=
  ⟨h.ix.of_block (hk _ h.ix.lt), h.bi.of_block (hk _ h.bi.lt), h.lo.of_block (hk _ h.lo.lt), h.bl.of_block (hk _ h.bl.lt), h.co.of_block (hk _ h.co.lt), h.bo.of_block (hk _ h.bo.lt), h.bc.of_block (hk _ h.bc.lt), h.br.of_block (hk _ h.br.lt),
    h.ro.of (fun b hb => hk _ (h.ro.lt b hb).2), h.rc.of (fun b hb => hk _ (h.rc.lt b hb).2), h.rs.of (fun b hb => hk _ (h.rs.lt b hb).2), h.apart⟩

/-- The open ones grow by one: appended, and stored in their box. -/
theorem Rep.open_app {B n : Nat} {s : TS} {w : World} {vo vc vs : Value} (h : Rep B n s w vo vc vs) (hl : s.ol ≤ 100000) (u : Nat) :
    ∃ (b cap : Nat) (w1 : World), (Builtin.append_ #[25, 25] 25 #[vo, .slice (some ⟨w.heap.size, 0, none⟩) 1 1]).run Yba.prog (w.alloc (.cells #[.int .i64 (u : Int)] 3)) = .ok (.slice (some ⟨b, 0, none⟩) (s.ol + 1) cap) w1 ∧
      w1.frozen? ⟨B + 5, 0, none⟩ = false ∧ w1.cell? ⟨B + 5, 0, none⟩ = some vo ∧
      Rep B n { s with op := upd s.op s.ol u, ol := s.ol + 1 } (w1.setCell ⟨B + 5, 0, none⟩ (.slice (some ⟨b, 0, none⟩) (s.ol + 1) cap)) (.slice (some ⟨b, 0, none⟩) (s.ol + 1) cap) vc vs ∧
      Below B w (w1.setCell ⟨B + 5, 0, none⟩ (.slice (some ⟨b, 0, none⟩) (s.ol + 1) cap)) := by
  have hsz : B + 8 ≤ w.heap.size := h.br.lt
  obtain ⟨b, cap, w1, hrun, hsl, hgrow, hb⟩ := h.ro.app hsz hl (u : Int)
  have hlow : ∀ k, k < B + 8 → w1.heap[k]? = w.heap[k]? := fun k hk =>
    (hgrow.block k (by simp; omega) (fun e => by have := (h.ro.lt k e.symm).1; omega)).trans (Below.heap_alloc _ _ _ (by omega))
  have hother : ∀ k, k < w.heap.size → vo.ownBlock ≠ some k → w1.heap[k]? = w.heap[k]? := fun k hk hne =>
    (hgrow.block k (by simp; omega) (fun e => hne e.symm)).trans (Below.heap_alloc _ _ _ (by omega))
  have h5 := h.bo.of_block (hlow (B + 5) (by omega))
  refine ⟨b, cap, w1, hrun, h5.frozen 0, h5.cell (by omega), ?_, ?_⟩
  · refine ⟨(h.ix.of_block (hlow _ (by omega))).setOther (by simp) _, (h.bi.of_block (hlow _ (by omega))).setOther (by simp) _, (h.lo.of_block (hlow _ (by omega))).setOther (by simp) _, (h.bl.of_block (hlow _ (by omega))).setOther (by simp) _,
      (h.co.of_block (hlow _ (by omega))).setOther (by simp) _, (h5.set 0 _).congr (fun i hi => by simp [show i = 0 by omega]), (h.bc.of_block (hlow _ (by omega))).setOther (by simp) _, (h.br.of_block (hlow _ (by omega))).setOther (by simp) _, ?_, ?_, ?_, ?_⟩
    · refine (hsl.low (by simp) _).congr fun i hi => ?_
      unfold nv upd
      by_cases e : i = s.ol <;> simp [e]
    · exact (h.rc.of fun k hk => hother k (h.rc.lt k hk).2 (fun e => h.ro.typed h.rc (by decide) k e hk)).low (by simp) _
    · exact (h.rs.of fun k hk => hother k (h.rs.lt k hk).2 (fun e => h.apart k e hk)).low (by simp) _
    · intro k hk hk'
      have hkb : b = k := by simpa [Value.ownBlock] using hk
      subst hkb
      rcases hb with e | e
      · exact h.apart b e hk'
      · have := (h.rs.lt b hk').2; omega
  · refine (Below.setCell ?_ (by show B ≤ B + 5; omega) _)
    exact ⟨hgrow.os, hgrow.tape, hgrow.output, by have := hgrow.size; simp at this; omega, fun k hk => hlow k (by omega)⟩

/-- The calls grow by one. -/
theorem Rep.calls_app {B n : Nat} {s : TS} {w : World} {vo vc vs : Value} (h : Rep B n s w vo vc vs) (hl : s.cl ≤ 100000) (u : Nat) (hne : ∀ i, i < s.cl → s.ct i ≠ u) :
    ∃ (b cap : Nat) (w1 : World), (Builtin.append_ #[74, 74] 74 #[vc, .slice (some ⟨w.heap.size, 0, none⟩) 1 1]).run Yba.prog (w.alloc (.cells #[.int .i64 (u : Int), .int .i64 0] 76)) = .ok (.slice (some ⟨b, 0, none⟩) (s.cl + 1) cap) w1 ∧
      w1.frozen? ⟨B + 6, 0, none⟩ = false ∧ w1.cell? ⟨B + 6, 0, none⟩ = some vc ∧
      Rep B n { s with ct := upd s.ct s.cl u, cl := s.cl + 1, pr := upd s.pr u 0 } (w1.setCell ⟨B + 6, 0, none⟩ (.slice (some ⟨b, 0, none⟩) (s.cl + 1) cap)) vo (.slice (some ⟨b, 0, none⟩) (s.cl + 1) cap) vs ∧
      Below B w (w1.setCell ⟨B + 6, 0, none⟩ (.slice (some ⟨b, 0, none⟩) (s.cl + 1) cap)) := by
  have hsz : B + 8 ≤ w.heap.size := h.br.lt
  obtain ⟨b, cap, w1, hrun, hsl, hgrow, hb⟩ := h.rc.app2 hsz hl (u : Int) 0
  have hlow : ∀ k, k < B + 8 → w1.heap[k]? = w.heap[k]? := fun k hk =>
    (hgrow.block k (by simp; omega) (fun e => by have := (h.rc.lt k e.symm).1; omega)).trans (Below.heap_alloc _ _ _ (by omega))
  have hother : ∀ k, k < w.heap.size → vc.ownBlock ≠ some k → w1.heap[k]? = w.heap[k]? := fun k hk hne =>
    (hgrow.block k (by simp; omega) (fun e => hne e.symm)).trans (Below.heap_alloc _ _ _ (by omega))
  have h6 := h.bc.of_block (hlow (B + 6) (by omega))
  refine ⟨b, cap, w1, hrun, h6.frozen 0, h6.cell (by omega), ?_, ?_⟩
  · refine ⟨(h.ix.of_block (hlow _ (by omega))).setOther (by simp) _, (h.bi.of_block (hlow _ (by omega))).setOther (by simp) _, (h.lo.of_block (hlow _ (by omega))).setOther (by simp) _, (h.bl.of_block (hlow _ (by omega))).setOther (by simp) _,
      (h.co.of_block (hlow _ (by omega))).setOther (by simp) _, (h.bo.of_block (hlow _ (by omega))).setOther (by simp) _, (h6.set 0 _).congr (fun i hi => by simp [show i = 0 by omega]), (h.br.of_block (hlow _ (by omega))).setOther (by simp) _, ?_, ?_, ?_, h.apart⟩
    · exact (h.ro.of fun k hk => hother k (h.ro.lt k hk).2 (h.ro.typed h.rc (by decide) k hk)).low (by simp) _
    · refine (hsl.low (by simp) _).congr fun i hi => ?_
      show upd (upd (callf s.ct s.pr) (s.cl * 2) (.int .i64 (u : Int))) (s.cl * 2 + 1) (.int .i64 0) i = callf (upd s.ct s.cl u) (upd s.pr u 0) i
      by_cases e1 : i = s.cl * 2 + 1
      · subst e1
        rw [upd_same]
        unfold callf
        rw [if_neg (by omega), show (s.cl * 2 + 1) / 2 = s.cl by omega, upd_same, upd_same]
        rfl
      · rw [upd_ne _ _ _ e1]
        by_cases e2 : i = s.cl * 2
        · subst e2
          rw [upd_same]
          unfold callf
          rw [if_pos (by omega), show s.cl * 2 / 2 = s.cl by omega, upd_same]
        · rw [upd_ne _ _ _ e2]
          have hi2 : i / 2 < s.cl := by omega
          unfold callf
          rw [upd_ne s.ct _ _ (show i / 2 ≠ s.cl by omega), upd_ne s.pr _ _ (hne _ hi2)]
    · exact (h.rs.of fun k hk => hother k (h.rs.lt k hk).2 (h.rs.typed h.rc (by decide) k hk)).low (by simp) _
  · refine (Below.setCell ?_ (by show B ≤ B + 6; omega) _)
    exact ⟨hgrow.os, hgrow.tape, hgrow.output, by have := hgrow.size; simp at this; omega, fun k hk => hlow k (by omega)⟩

end Go.Proofs.Ybulkcuye.A
