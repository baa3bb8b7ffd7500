import Derived.RangeFuncNested
import Derived.RangeFuncBound
import Derived.RangeFuncCalls
import Derived.RangeFuncLeaves
import Derived.RangeFuncBox
import Derived.Shelf.Abstract
import Derived.Shelf.RegionOpen
import Derived.OwnWalkIn
import Derived.TacticsInMore
import Derived.LoopNIn
import Derived.LoopIn
import Derived.Test.YbulkcuyeFmtBase
namespace Go.Proofs.YbulkcuyeFmt
open Go.RowKit Go.Extern.Stop Go.Stop Go.Extern Go.Shelf
attribute [local go_sem] Oper.semAt_some

/-- The indices of n entries. -/
abbrev Ix (n : Nat) := { i : Nat // i < n }
/-- All from k on have come. -/
def From {n : Nat} (k : Nat) (pre : List (Ix n)) : Prop := ∀ j, (h : j < n) → k ≤ j → (⟨j, h⟩ : Ix n) ∈ pre
def enc (n : Nat) (eb : Nat → Nat) (x : Ix n) : Array Value := #[.int .i64 (x.1 : Int), .pointer (some ⟨eb x.1, 0, none⟩)]

set_option maxRecDepth 100000 in
set_option maxHeartbeats 2000000 in
theorem back1_in (F : Fence) (m : Nat) (h13 : F.fn 13) (hro : F.round = none) (hm : 1 ≤ m) (l Bs n₀ g n cap : Nat) (eb : Nat → Nat) (hn : n ≤ 512) (hg : g < n₀) (J Jx : List (Ix n) → World → Prop)
    (hY : ∀ pre (x : Ix n) W, J pre W → pre.length < n → YieldAt F (m - 1) Ybaf.prog l #[.int .i64 (x.1 : Int), .pointer (some ⟨eb x.1, 0, none⟩)] W fun e W' =>
      (e = .returned (.bool true) ∧ J (pre ++ [x]) W' ∧ Below n₀ W W') ∨ (e = .returned (.bool false) ∧ Jx (pre ++ [x]) W'))
    (W : World) (hBs : W.cell? ⟨Bs, 0, none⟩ = some (.slice (some ⟨g, 0, none⟩) n cap)) (hB0 : Bs < n₀) (hc : ∀ j, j < n → W.cell? ⟨g, j, none⟩ = some (.pointer (some ⟨eb j, 0, none⟩))) (h0 : J [] W) :
    CallsIn F m Ybaf.prog 13 #[.func (.yield l) #[] #[], .pointer (some ⟨Bs, 0, none⟩)] W fun e W' => (∃ v, e = .returned v) ∧
      ((∃ ys, From 0 ys ∧ J ys W') ∨ (∃ pre, (∃ ini, ∃ last : Ix n, pre = ini ++ [last] ∧ From (last.1 + 1) ini) ∧ Jx pre W')) := by
  refine callsIn_of_wp Ybaf.func13 rfl h13 ?_ hro
  simp only [Ybaf.ntmps13, List.size_toArray, List.length_cons, List.length_nil, Nat.reduceAdd, Nat.reduceSub, Array.replicate_succ, Array.replicate_zero, List.push_toArray, List.append_toArray, List.nil_append, List.cons_append]
  gi_wp2
  gi_loopw [3] (fun i wr => ∃ (k : Nat) (pre : List (Ix n)), k ≤ n ∧ i = .int .i64 ((k : Int) - 1) ∧ pre.length + k = n ∧ From k pre ∧ J pre wr ∧ Below n₀ W wr)
    (fun i _ => (intOf i + 1).toNat)
  case atStart => exact ⟨n, [], Nat.le_refl _, by go_num, by simp, fun j h hk => by omega, h0, Below.refl _ _⟩
  case round =>
    obtain ⟨k, pre, hk, rfl, hlen, hfr, hJs, hnx⟩ := hrel
    have cb : wr.cell? ⟨Bs, 0, none⟩ = some (.slice (some ⟨g, 0, none⟩) n cap) := (hnx.cell (p := ⟨Bs, 0, none⟩) hB0).trans hBs
    by_cases hlt : 0 < k
    · obtain ⟨i, rfl⟩ : ∃ i, k = i + 1 := ⟨k - 1, by omega⟩
      have hi : i < n := by omega
      have ci : wr.cell? ⟨g, i, none⟩ = some (.pointer (some ⟨eb i, 0, none⟩)) := (hnx.cell (p := ⟨g, i, none⟩) hg).trans (hc i hi)
      have e1 : ((i + 1 : Nat) : Int) - 1 = (i : Int) := by omega
      rw [e1]
      obtain ⟨fn, tmps, assign, body, hy, hR⟩ := hY pre ⟨i, hi⟩ wr hJs (by omega)
      dsimp only at hy
      gi_wp2
      refine hR.mono ?_
      rintro e W3 (⟨rfl, hJ3, hk3⟩ | ⟨rfl, hJx3⟩)
      · gi_wp2
        go_roundw
        case rel => exact ⟨i, pre ++ [⟨i, hi⟩], by omega, by go_num, by simp; omega, fun j h hj => by
            rcases Nat.eq_or_lt_of_le hj with e | e
            · subst e; simp
            · exact List.mem_append_left _ (hfr j h e), hJ3, hnx.trans hk3⟩
        case measure => simp [intOf]
      · gi_wp2
        refine bodyPost_ret (results_none rfl _ _ _) rfl ?_
        exact ⟨⟨_, rfl⟩, .inr ⟨_, ⟨pre, ⟨i, hi⟩, rfl, hfr⟩, hJx3⟩⟩
    · obtain rfl : k = 0 := by omega
      gi_wp2
      go_end0
      exact ⟨⟨_, rfl⟩, .inl ⟨_, hfr, hJs⟩⟩

set_option maxHeartbeats 1000000 in
theorem back_in (F : Fence) (m : Nat) (h8 : F.fn 8) (hro : F.round = none) (a : Option Addr) (len cap : Nat) (w : World) :
    CallsIn F m Ybaf.prog 8 #[.slice a len cap] w fun e w' => e = .returned (.func (.func 13) #[] #[.pointer (some ⟨w.heap.size, 0, none⟩)]) ∧ w' = w.alloc (.cells #[.slice a len cap] 54) := by
  refine callsIn_of_wp Ybaf.func8 rfl h8 ?_ hro
  simp only [Ybaf.ntmps8, List.size_toArray, List.length_cons, List.length_nil, Nat.reduceAdd, Nat.reduceSub, Array.replicate_succ, Array.replicate_zero, List.push_toArray, List.append_toArray, List.nil_append, List.cons_append]
  gi_wp2
  go_ret
  exact ⟨rfl, rfl⟩

theorem back_stops (F : Fence) (m : Nat) (h13 : F.fn 13) (hro : F.round = none) (hm : 1 ≤ m) (Bs n₀ g n cap : Nat) (eb : Nat → Nat) (hn : n ≤ 512) (hg : g < n₀) (w : World) (hBn : Bs < n₀) (hn₀ : n₀ ≤ w.heap.size)
    (hc : w.cell? ⟨Bs, 0, none⟩ = some (.slice (some ⟨g, 0, none⟩) n cap)) (hI : ∀ j, j < n → w.cell? ⟨g, j, none⟩ = some (.pointer (some ⟨eb j, 0, none⟩))) :
    SeqStopsK F m Ybaf.prog 13 #[.pointer (some ⟨Bs, 0, none⟩)] (fun x : Ix n => #[.int .i64 (x.1 : Int), .pointer (some ⟨eb x.1, 0, none⟩)]) (Below n₀) (fun ys => From 0 ys)
      (fun pre => ∃ ini, ∃ last : Ix n, pre = ini ++ [last] ∧ From (last.1 + 1) ini) n w := fun l J Jx W hW _ _ hY h0 =>
  back1_in F m h13 hro hm l Bs n₀ g n cap eb hn hg J Jx hY W ((hW.cell (p := ⟨Bs, 0, none⟩) (Nat.lt_of_lt_of_le hBn hn₀)).trans hc) hBn (fun j hj => (hW.cell (p := ⟨g, j, none⟩) (Nat.lt_of_lt_of_le hg hn₀)).trans (hI j hj)) h0
end Go.Proofs.YbulkcuyeFmt
