/- A map from numbers to numbers, by the key. -/
import Derived.Test.YbulkcuyeACompB
import Derived.Maps.Own
import Derived.Maps.Views
namespace Go.Proofs.Ybulkcuye.A
open Go.RowKit Go.Maps

theorem law3 : Keyed Yba.prog 3 := int_keyed Yba.underlying3
theorem zero3 (w : World) : (zeroValue 3).run Yba.prog w = .ok (.int .i64 0) w := by
  have hz : Yba.t3.zero = some (.int .i64 0) := by kernel_rfl
  simp [zeroValue, hz, go_sem]

def MP (w : World) (b n : Nat) (m : Nat → Option Nat) : Prop :=
  ∃ D : DataW Unit, w.ownsMap Yba.prog 3 (plainElem Yba.prog 3) b n D ∧ IsMap D ∧ ∀ v : Nat, v ≤ 1000 → ∀ zd, D.atKey (.int .i64 (v : Int)) zd = match m v with | none => zd | some x => .lit (.int .i64 (x : Int))

theorem wf_nat (v : Nat) (h : v ≤ 1000) : (Lit.int .i64 (v : Int)).wf = true := WalkArith.wf_i64 (by omega)

theorem MP.made (w : World) : MP (w.alloc (.map #[] 0)) w.heap.size 0 (fun _ => none) :=
  ⟨.map [], World.ownsMap_made w _ _ _, isMap_empty, fun v _ zd => Go.WideAt.atKey_none zd (fun p hp => by cases hp)⟩

theorem MP.lt {w : World} {b n : Nat} {m : Nat → Option Nat} (h : MP w b n m) : b < w.heap.size := by
  obtain ⟨D, h1, _⟩ := h
  exact h1.lt

theorem MP.of {w w' : World} {b n : Nat} {m : Nat → Option Nat} (h : MP w b n m) (e : w'.heap[b]? = w.heap[b]?) : MP w' b n m := by
  obtain ⟨D, ⟨es, clock, hb, r⟩, h2⟩ := h
  exact ⟨D, ⟨es, clock, e.trans hb, r⟩, h2⟩

theorem MP.look_none {w : World} {b n : Nat} {m : Nat → Option Nat} (h : MP w b n m) {v : Nat} (hv : v ≤ 1000) (hm : m v = none) :
    (Instr.lookup 62 (.map (some b)) (.int .i64 (v : Int)) true).run Yba.prog w = .ok (.tuple #[.int .i64 0, .bool false]) w := by
  obtain ⟨D, ⟨es, clock, hb, F, _, rfl⟩, _, hat⟩ := h
  have h0 := hat v hv
  rw [hm] at h0
  rcases fit_look true law3 Yba.underlying62 (zero3 w) hb F (keyOf_int_mk Yba.underlying3 (wf_nat v hv)) with ⟨hrun, _, _⟩ | ⟨e0, y, _, _, _, _, h1, _⟩
  · exact hrun
  · have e1 := (h1 (.lit (.bool true))).symm.trans (h0 (.lit (.bool true)))
    have e2 := (h1 (.lit (.bool false))).symm.trans (h0 (.lit (.bool false)))
    rw [e1] at e2
    cases e2

theorem MP.look_some {w : World} {b n : Nat} {m : Nat → Option Nat} (h : MP w b n m) {v x : Nat} (hv : v ≤ 1000) (hm : m v = some x) :
    (Instr.lookup 62 (.map (some b)) (.int .i64 (v : Int)) true).run Yba.prog w = .ok (.tuple #[.int .i64 (x : Int), .bool true]) w ∧ (Instr.lookup 62 (.map (some b)) (.int .i64 (v : Int)) false).run Yba.prog w = .ok (.int .i64 (x : Int)) w := by
  obtain ⟨D, ⟨es, clock, hb, F, _, rfl⟩, _, hat⟩ := h
  have h0 := hat v hv
  rw [hm] at h0
  have one : ∀ c : Bool, (Instr.lookup 62 (.map (some b)) (.int .i64 (v : Int)) c).run Yba.prog w = .ok (if c then .tuple #[.int .i64 (x : Int), .bool true] else .int .i64 (x : Int)) w := by
    intro c
    rcases fit_look c law3 Yba.underlying62 (zero3 w) hb F (keyOf_int_mk Yba.underlying3 (wf_nat v hv)) with ⟨_, _, h1⟩ | ⟨e0, y, _, _, hrun, hR, h1, _⟩
    · have e1 := (h1 (.lit (.bool true))).symm.trans (h0 (.lit (.bool true)))
      cases e1
    · have e1 := (h1 .nil).symm.trans (h0 .nil)
      obtain ⟨a, hv1, hz1, _⟩ := plainElem_int_inv Yba.underlying3 hR
      rw [hz1] at e1
      have e2 : a = (x : Int) := by
        simp only [DataW.lit.injEq, Lit.int.injEq, true_and] at e1
        exact e1
      rw [hrun, hv1, e2]
  exact ⟨one true, one false⟩

theorem MP.put {w : World} {b n : Nat} {m : Nat → Option Nat} (h : MP w b n m) {v x : Nat} (hv : v ≤ 1000) (hx : x ≤ 1000) (hn : n ≤ 1000) :
    ∃ w', (Instr.mapUpdate 62 (.map (some b)) (.int .i64 (v : Int)) (.int .i64 (x : Int))).run Yba.prog w = .ok () w' ∧ MP w' b (n + 1) (upd m v (some x)) ∧ w.grownBy w' (some b) := by
  obtain ⟨D, hown, hmap, hat⟩ := h
  obtain ⟨w', hrun, hown', hg⟩ := hown.update law3 Yba.underlying62 (by unfold maxLen; omega) (keyOf_int_mk Yba.underlying3 (wf_nat v hv)) (plainElem_int Yba.underlying3 (wf_nat x hx))
  refine ⟨w', hrun, ⟨_, hown', ?_, fun u hu zd => ?_⟩, hg⟩
  · exact hmap.put _ _
  · by_cases e : u = v
    · subst e
      rw [atKey_put_same hmap (law3.key (keyOf_int_mk Yba.underlying3 (wf_nat u hv))), upd_same]
    · rw [atKey_put_other (by simp; omega), upd_ne _ _ _ e]
      exact hat u hu zd

end Go.Proofs.Ybulkcuye.A
