/- The list of edges, opened. -/
import Derived.Test.YbulkcuyeABase
import Derived.ProofKit
import Derived.OpenShut
import Derived.Deep.SlicePairs
namespace Go.Proofs.Ybulkcuye.A
open Go.ChangeShapes Go.WideShapes Go.ChangeAt Go.RowKit Go.Deep

theorem open_edges {H : Type} {enc : TypeId × Value → H} {w : World} {fuel : Nat} {a : Option Addr} {L cap : Nat} {x : DataW H × List MemPlace} (h : DataW.trod enc Yba.prog w 0 (fun _ => true) true fuel 22 [.slice a L cap] = some x) :
    ∃ ef et : Nat → Int, (0 < L → ∃ b off, a = some ⟨b, off, none⟩ ∧ ∀ j, j < L → w.cell? ⟨b, off + j * 2, none⟩ = some (.int .u8 (ef j)) ∧ w.cell? ⟨b, off + j * 2 + 1, none⟩ = some (.int .u8 (et j))) ∧ ∀ j, j < L → 0 ≤ ef j ∧ ef j ≤ 255 ∧ 0 ≤ et j ∧ et j ≤ 255 := by
  rcases open_slice_pairs Yba.underlying22 Yba.underlying58 (by kernel_rfl) rfl rfl (by kernel_rfl) (by kernel_rfl) h with ⟨hcs, _⟩ | ⟨a', len, cap', m, n, V0, V1, D0, D1, P0, P1, hcs, _, hl, _, hm, _, hx⟩
  · simp only [List.cons.injEq, Value.slice.injEq, and_true] at hcs
    obtain ⟨_, rfl, _⟩ := hcs
    exact ⟨fun _ => 0, fun _ => 0, fun h => absurd h (by omega), fun j hj => absurd hj (by omega)⟩
  · simp only [List.cons.injEq, Value.slice.injEq, and_true] at hcs
    obtain ⟨rfl, rfl, rfl⟩ := hcs
    simp only [if_true] at hm
    have each : ∀ i, i < L → ∃ q : Int × Int, w.cell? (a'.add (i * 2)) = some (.int .u8 q.1) ∧ w.cell? (a'.add (i * 2 + 1)) = some (.int .u8 q.2) ∧ (0 ≤ q.1 ∧ q.1 ≤ 255) ∧ 0 ≤ q.2 ∧ q.2 ≤ 255 := by
      intro i hi
      obtain ⟨c0, c1, t0, t1⟩ := hx i (by omega)
      obtain ⟨z0, e0, _, w0⟩ := DataW.trod_int Yba.underlying5 t0
      obtain ⟨z1, e1, _, w1⟩ := DataW.trod_int Yba.underlying5 t1
      simp only [List.cons.injEq, and_true] at e0 e1
      have b0 := bounds_u8 w0
      have b1 := bounds_u8 w1
      exact ⟨(z0, z1), by rw [c0, e0], by rw [c1, e1], by omega, by omega⟩
    obtain ⟨q, hq⟩ := choose_lt each
    refine ⟨fun j => (q j).1, fun j => (q j).2, fun hpos => ?_, fun j hj => ?_⟩
    · obtain ⟨b, off, spot⟩ := a'
      have hspot : spot = none := by simpa [Addr.add] using World.cell?_spot (hq 0 hpos).1
      subst hspot
      exact ⟨b, off, rfl, fun j hj => by
        have := hq j hj
        simp only [add_plain] at this
        exact ⟨this.1, by rw [Nat.add_assoc]; exact this.2.1⟩⟩
    · have := hq j hj
      exact ⟨this.2.2.1.1, this.2.2.1.2, this.2.2.2.1, this.2.2.2.2⟩

end Go.Proofs.Ybulkcuye.A
