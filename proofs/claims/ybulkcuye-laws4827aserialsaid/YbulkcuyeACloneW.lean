/- slices.Clone (19), walked. -/
import Derived.Test.YbulkcuyeALawW
namespace Go.Proofs.Ybulkcuye.A
open Go.RowKit

set_option maxRecDepth 20000 in
theorem clone_any (IB n : Nat) (f : Nat → Nat) (w : World) (h : w.rowIs IB 3 n (nv f)) (hn0 : 0 < n) (hn : n ≤ 100) :
    Calls Yba.prog 19 #[.slice (some ⟨IB, 0, none⟩) n n] w fun e w' => ∃ b cap, e = .returned (.slice (some ⟨b, 0, none⟩) n cap) ∧ Slc w' w.heap.size 3 1 (.slice (some ⟨b, 0, none⟩) n cap) n (nv f) ∧ Below w.heap.size w w' := by
  have he := fun w => eql25_some w ⟨IB, 0, none⟩ n n
  obtain ⟨i0, hi, hz0, hz1, hz2⟩ := info_parts info3
  have h0 : (w.alloc (.cells #[] 3)).ownsRow w.heap.size 3 1 (.slice (some ⟨w.heap.size, 0, none⟩) 0 0) 0 [] :=
    ⟨by simp, .inr ⟨w.heap.size, 0, #[], rfl, Nat.le_refl _, (by show (w.heap.push (.cells #[] 3))[w.heap.size]? = _; simp), Nat.le_refl _, Nat.zero_le _, by simp, by simp⟩⟩
  have hr := h.alloc (.cells #[] 3)
  obtain ⟨v', w1, hrun, hown', hgrow, _, hblk⟩ := run_append_own_at (P := Yba.prog) (w.alloc (.cells #[] 3)) w.heap.size 25 25 3 i0 (.int .i64 0) 1 8 Yba.underlying25 hi hz0 hz1 hz2 rfl (by decide)
    (.slice (some ⟨w.heap.size, 0, none⟩) 0 0) 0 [] h0 ⟨IB, 0, none⟩ n n ((List.range n).map (nv f)) (by simp) (by
      intro j u hj
      rw [List.getElem?_map] at hj
      by_cases hjn : j < n
      · rw [List.getElem?_range hjn] at hj
        simp only [Option.map_some, Option.some.injEq] at hj
        rw [← hj]
        have := hr.cell hjn
        rw [Go.WideShapes.add_plain, Nat.zero_add]
        exact this
      · rw [List.getElem?_eq_none (by simpa using hjn)] at hj
        cases hj) (by
      intro u hu
      obtain ⟨j, _, rfl⟩ := List.mem_map.1 hu
      rfl) (by unfold maxLen; omega) (by omega) (by simp)
  obtain ⟨hl', hc'⟩ := hown'
  rcases hc' with ⟨_, h1⟩ | ⟨b, cap, cur, rfl, hg, hh, r1, r2, r3, r4⟩
  · omega
  rw [Nat.zero_add] at hrun r1 r4
  have HS : Hid (Slc w1 w.heap.size 3 1 (.slice (some ⟨b, 0, none⟩) n cap) n (nv f)) := ⟨by simp, .inr ⟨b, cap, cur, rfl, hg, hh, r1, r2, r3, by rw [r4, Nat.mul_one]; simp⟩⟩
  have HB : Hid (Below w.heap.size w w1) := ((Below.refl _ _).alloc (Nat.le_refl _) _).grown hgrow (by simp) (fun k hk => by simp [Value.ownBlock] at hk; omega)
  clear hl' hg hh r1 r2 r3 r4 hgrow hblk h0 hr h hi hz0 hz1 hz2
  go_enter Yba.func19, Yba.ntmps19
  go_wp2_with (at_builtin; refine wpList_append_run rfl (.tmp 5) (.tmp 6) 25 rfl rfl rfl hrun ?_)
  go_ret
  exact ⟨b, cap, rfl, HS.out, HB.out⟩
end Go.Proofs.Ybulkcuye.A
