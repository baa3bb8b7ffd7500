import Derived.Test.YbulkcuyeBBase
namespace Go.Proofs.Ybulkcuye
open Go.RowKit

/-- The entries that 'mk' made lie in blocks of their own. -/
def EntB (w : World) (B n : Nat) : Prop := ∀ j, j < n → ∃ c, w.heap[B + 1 + j]? = some (.cells c 52 (0, 0))
theorem EntB.below {w w' : World} {B n S : Nat} (h : EntB w B n) (hb : Below S w w') (hs : B + 1 + n ≤ S) : EntB w' B n := fun j hj => by
  obtain ⟨c, hc⟩ := h j hj
  exact ⟨c, (hb.block _ (by omega)).trans hc⟩
theorem EntB.only {w w' : World} {B n c : Nat} (h : EntB w B n) (hb : Only c w w') (hs : c ≤ B) : EntB w' B n := fun j hj => by
  obtain ⟨x, hc⟩ := h j hj
  exact ⟨x, (hb.block _ (by omega)).trans hc⟩
theorem EntB.drewN {w : World} {B n : Nat} (h : EntB w B n) (q : Nat) : EntB (w.drewN q) B n := h
theorem EntB.alloc {w : World} {B n : Nat} (h : EntB w B n) (o : Obj) (hs : B + 1 + n ≤ w.heap.size) : EntB (w.alloc o) B n :=
  h.below ((Below.refl _ _).alloc (Nat.le_refl _) o) hs
theorem EntB.step {w : World} {B n : Nat} (h : EntB w B n) (hs : w.heap.size = B + 1 + n) (v : Value) (c : Array Value) : EntB ((w.setCell ⟨B, n, none⟩ v).alloc (.cells c 52)) B (n + 1) := fun j hj => by
  by_cases e : j = n
  · refine ⟨c, ?_⟩
    have := Go.Deep.blk_alloc_new (w.setCell ⟨B, n, none⟩ v) (.cells c 52)
    rw [show (w.setCell ⟨B, n, none⟩ v).heap.size = B + 1 + j by simp [hs, e]] at this
    exact this
  · obtain ⟨x, hx⟩ := h j (by omega)
    refine ⟨x, ?_⟩
    rw [Below.heap_alloc _ _ _ (by simp; omega), Below.heap_setCell _ _ _ _ (by simp; omega)]
    exact hx

theorem mk_ents (k : Nat) (tag : Int) (w : World) (hk : k ≤ 63) (hk0 : 0 < k) :
    Calls Yba.prog 11 #[.int .i64 k, .int .u32 tag] w fun e w' => e = .returned (.slice (some ⟨w.heap.size, 0, none⟩) k k) ∧ w'.rowIs w.heap.size 32 k (ptrs (entP w.heap.size k)) ∧ EntB w' w.heap.size k ∧ w'.heap.size = w.heap.size + 1 + k ∧ Below w.heap.size w w' := by
  have h0 : ((k : Int) == 0) = false := by simp; omega
  have hmk := run_make_row' (P := Yba.prog) 36 32 (.pointer none) 8 Yba.underlying36 info32 rfl .i64 .i64 k (by omega) (by omega)
  go_enter Yba.func11, Yba.ntmps11
  go_wp2
  go_loopw [6] (fun i wr => ∃ n : Nat, n ≤ k ∧ i = .int .i64 n ∧ EntB wr w.heap.size n ∧ wr.rowIs w.heap.size 32 k (ptrs (entP w.heap.size n)) ∧ wr.heap.size = w.heap.size + 1 + n ∧ Below w.heap.size w wr) (fun i _ => k - (intOf i).toNat)
  case atStart => exact ⟨0, by omega, rfl, fun j hj => absurd hj (by omega), mk_start w k⟩
  case round =>
    obtain ⟨n, hn, rfl, hen, hrow, hsz, hb⟩ := hrel
    have HS : Hid (wr.heap.size = w.heap.size + 1 + n) := hsz
    have hBlt : w.heap.size < wr.heap.size := by omega
    clear hsz
    have HE : Hid (EntB wr w.heap.size n) := hen
    clear hen
    by_cases hlt : n < k
    · have hcell := hrow.cell hlt
      have hfz := hrow.frozen n
      go_wp2
      go_roundw
      case rel => exact ⟨n + 1, by omega, by go_num, EntB.step HE.out HS.out _ _, mk_step _ hlt hrow HS.out hb⟩
      case measure => simp [intOf]; omega
    · go_wp2
      go_ret
      obtain rfl : n = k := by omega
      exact ⟨rfl, hrow, HE.out, HS.out, hb⟩

theorem eql32_other (w : World) {a b : Addr} {ca cb : Array Value} (hne : a ≠ b) (ha : w.heap[a.block]? = some (.cells ca 52 (0, 0))) (hb : w.heap[b.block]? = some (.cells cb 52 (0, 0))) :
    (binOp .eql 32 (.pointer (some a)) (.pointer (some b))).run Yba.prog w = .ok (.bool false) w := by
  obtain ⟨j, hj⟩ := Option.isSome_iff_exists.1 has52
  have hsz : (Yba.prog.info? 52).map (·.size) = some 10 := by kernel_rfl
  have : j.size ≠ 0 := by rw [hj] at hsz; simp at hsz; omega
  exact run_eql_ptr_other w Yba.underlying32 hj this hne ha hb

/-- slices.Index over the cache's first m entries: the place of the pointer, or -1. -/
theorem index_no (c m x : Nat) (f : Nat → Nat) (w : World) (hm : m ≤ 8) (hc : ∀ j, j < m → w.cell? ⟨c, 1 + j, none⟩ = some (.pointer (some ⟨f j, 0, none⟩)))
    (hne : ∀ j, j < m → x ≠ f j) (hx : ∃ cx, w.heap[x]? = some (.cells cx 52 (0, 0))) (hf : ∀ j, j < m → ∃ cx, w.heap[f j]? = some (.cells cx 52 (0, 0))) :
    Calls Yba.prog 28 #[.slice (some ⟨c, 1, none⟩) m 8, .pointer (some ⟨x, 0, none⟩)] w fun e w' => e = .returned (.int .i64 (-1)) ∧ w' = w := by
  have HC : Hid _ := hc
  have HN : Hid _ := hne
  have HF : Hid _ := hf
  clear hc hne hf
  go_enter Yba.func28, Yba.ntmps28
  go_wp2
  go_loop [8] (fun i => ∃ n : Nat, n ≤ m ∧ i = .int .i64 n) (fun i => m - (intOf i).toNat)
  case atStart => exact ⟨0, by omega, rfl⟩
  case round =>
    obtain ⟨n, hn, rfl⟩ := hrel
    by_cases hlt : n < m
    · have h1 := HC.out n hlt
      obtain ⟨cx, hx⟩ := hx
      obtain ⟨cf, hf⟩ := HF.out n hlt
      have hq := eql32_other w (a := ⟨x, 0, none⟩) (b := ⟨f n, 0, none⟩) (fun h => HN.out n hlt (by injection h)) hx hf
      clear hx hf
      go_wp2
      go_round
      case rel => exact ⟨n + 1, by omega, by go_num⟩
      case measure => simp [intOf]; omega
    · go_wp2
      go_ret
      exact ⟨rfl, rfl⟩

theorem index_yes (c m : Nat) (f : Nat → Nat) (w : World) (hm : m ≤ 8) (hc : ∀ j, j < m → w.cell? ⟨c, 1 + j, none⟩ = some (.pointer (some ⟨f j, 0, none⟩)))
    (k : Nat) (hk : k < m) (hinj : ∀ j, j < k → f k ≠ f j) (hf : ∀ j, j < m → ∃ cx, w.heap[f j]? = some (.cells cx 52 (0, 0))) :
    Calls Yba.prog 28 #[.slice (some ⟨c, 1, none⟩) m 8, .pointer (some ⟨f k, 0, none⟩)] w fun e w' => e = .returned (.int .i64 k) ∧ w' = w := by
  have HC : Hid _ := hc
  have HN : Hid _ := hinj
  have HF : Hid _ := hf
  clear hc hinj hf
  go_enter Yba.func28, Yba.ntmps28
  go_wp2
  go_loop [8] (fun i => ∃ n : Nat, n ≤ k ∧ i = .int .i64 n) (fun i => m - (intOf i).toNat)
  case atStart => exact ⟨0, by omega, rfl⟩
  case round =>
    obtain ⟨n, hn, rfl⟩ := hrel
    by_cases hlt : n < k
    · have h1 := HC.out n (by omega)
      obtain ⟨cx, hx⟩ := HF.out k hk
      obtain ⟨cf, hf⟩ := HF.out n (by omega)
      have hq := eql32_other w (a := ⟨f k, 0, none⟩) (b := ⟨f n, 0, none⟩) (fun h => HN.out n hlt (by injection h)) hx hf
      have hlm : n < m := by omega
      clear hx hf
      go_wp2
      go_round
      case rel => exact ⟨n + 1, by omega, by go_num⟩
      case measure => simp [intOf]; omega
    · obtain rfl : n = k := by omega
      have h1 := HC.out n hk
      have hq := eql32 w (some ⟨f n, 0, none⟩)
      go_wp2
      go_ret
      exact ⟨rfl, rfl⟩

theorem contains_no (c m x : Nat) (f : Nat → Nat) (w : World) (hm : m ≤ 8) (hc : ∀ j, j < m → w.cell? ⟨c, 1 + j, none⟩ = some (.pointer (some ⟨f j, 0, none⟩)))
    (hne : ∀ j, j < m → x ≠ f j) (hx : ∃ cx, w.heap[x]? = some (.cells cx 52 (0, 0))) (hf : ∀ j, j < m → ∃ cx, w.heap[f j]? = some (.cells cx 52 (0, 0))) :
    Calls Yba.prog 23 #[.slice (some ⟨c, 1, none⟩) m 8, .pointer (some ⟨x, 0, none⟩)] w fun e w' => e = .returned (.bool false) ∧ w' = w := by
  have H := index_no c m x f w hm hc hne hx hf
  clear hc hne hx hf
  go_enter Yba.func23, Yba.ntmps23
  go_wp2_with fail
  refine H.mono ?_
  rintro e w' ⟨rfl, rfl⟩
  go_wp2
  go_ret
  exact ⟨rfl, rfl⟩

theorem contains_yes (c m : Nat) (f : Nat → Nat) (w : World) (hm : m ≤ 8) (hc : ∀ j, j < m → w.cell? ⟨c, 1 + j, none⟩ = some (.pointer (some ⟨f j, 0, none⟩)))
    (k : Nat) (hk : k < m) (hinj : ∀ j, j < k → f k ≠ f j) (hf : ∀ j, j < m → ∃ cx, w.heap[f j]? = some (.cells cx 52 (0, 0))) :
    Calls Yba.prog 23 #[.slice (some ⟨c, 1, none⟩) m 8, .pointer (some ⟨f k, 0, none⟩)] w fun e w' => e = .returned (.bool true) ∧ w' = w := by
  have H := index_yes c m f w hm hc k hk hinj hf
  clear hc hinj hf
  go_enter Yba.func23, Yba.ntmps23
  go_wp2_with fail
  refine H.mono ?_
  rintro e w' ⟨rfl, rfl⟩
  go_wp2
  go_ret
  exact ⟨rfl, rfl⟩

/-- 'find' where something is kept and the name is the parent's. -/
theorem find_hit (c m : Nat) (p : ByteArray) (ents : Nat → Option Addr) (w : World) (hr : w.rowIs c 35 10 (pc p ents m)) (hm : m ≤ 8) (hm0 : 0 < m) :
    Calls Yba.prog 13 #[.pointer (some ⟨c, 0, none⟩), .string p] w fun e w' => e = .returned (.slice (some ⟨c, 1, none⟩) m 8) ∧ ∃ q, w' = w.drewN q := by
  have cn : w.cell? ⟨c, 9, none⟩ = some (.int .i64 m) := hr.cell (by omega)
  have cp : w.cell? ⟨c, 0, none⟩ = some (.string p) := hr.cell (by omega)
  have h0 : ((m : Int) == 0) = false := by simp; omega
  have hsl := sl33 c m hm
  go_enter Yba.func13, Yba.ntmps13
  go_wp2_with fail
  go_quiet (fail)
  go_wp2
  go_ret
  exact ⟨rfl, _, rfl⟩

theorem find_zero (c : Nat) (p q : ByteArray) (ents : Nat → Option Addr) (w : World) (hr : w.rowIs c 35 10 (pc p ents 0)) :
    Calls Yba.prog 13 #[.pointer (some ⟨c, 0, none⟩), .string q] w fun e w' => e = .returned (.slice none 0 0) ∧ w' = w := by
  have cn : w.cell? ⟨c, 9, none⟩ = some (.int .i64 0) := hr.cell (by omega)
  go_enter Yba.func13, Yba.ntmps13
  go_wp2
  go_ret
  exact ⟨rfl, rfl⟩

theorem find_other (c m : Nat) (p q : ByteArray) (ents : Nat → Option Addr) (w : World) (hr : w.rowIs c 35 10 (pc p ents m)) (hm0 : 0 < m) (hpq : (p.toList == q.toList) = false) :
    Calls Yba.prog 13 #[.pointer (some ⟨c, 0, none⟩), .string q] w fun e w' => e = .returned (.slice none 0 0) ∧ w' = w := by
  have cn : w.cell? ⟨c, 9, none⟩ = some (.int .i64 m) := hr.cell (by omega)
  have cp : w.cell? ⟨c, 0, none⟩ = some (.string p) := hr.cell (by omega)
  have h0 : ((m : Int) == 0) = false := by simp; omega
  go_enter Yba.func13, Yba.ntmps13
  go_wp2
  go_ret
  exact ⟨rfl, rfl⟩

theorem bytes_eq_of {x y : ByteArray} (h : (x.toList == y.toList) = true) : x = y := by
  have h' : x.toList = y.toList := by simpa using h
  rw [ByteArray.toList_eq, ByteArray.toList_eq] at h'
  cases x; cases y; simp_all

set_option maxHeartbeats 400000 in
theorem forget_no (c m x : Nat) (p : ByteArray) (ents : Nat → Option Addr) (f : Nat → Nat) (w : World) (hr : w.rowIs c 35 10 (pc p ents m)) (hm : m ≤ 8) (hc : ∀ j, j < m → w.cell? ⟨c, 1 + j, none⟩ = some (.pointer (some ⟨f j, 0, none⟩)))
    (hne : ∀ j, j < m → x ≠ f j) (hx : ∃ cx, w.heap[x]? = some (.cells cx 52 (0, 0))) (hf : ∀ j, j < m → ∃ cx, w.heap[f j]? = some (.cells cx 52 (0, 0))) :
    Calls Yba.prog 14 #[.pointer (some ⟨c, 0, none⟩), .pointer (some ⟨x, 0, none⟩)] w fun e w' => e = .returned (.tuple #[]) ∧ ∃ q, w' = w.drewN q := by
  have H := fun q => contains_no c m x f (w.drewN q) hm hc hne hx hf
  have cn : w.cell? ⟨c, 9, none⟩ = some (.int .i64 m) := hr.cell (by omega)
  have hsl := sl33 c m hm
  clear hc hne hx hf
  go_enter Yba.func14, Yba.ntmps14
  go_wp2_with fail
  go_quiet ((go_at_call 23; exact Calls.quiet_of_same (H _)))
  go_wp2
  go_end0
  exact ⟨rfl, _, rfl⟩

set_option maxHeartbeats 400000 in
theorem forget_yes (c m : Nat) (p : ByteArray) (ents : Nat → Option Addr) (f : Nat → Nat) (w : World) (hr : w.rowIs c 35 10 (pc p ents m)) (hm : m ≤ 8) (hc : ∀ j, j < m → w.cell? ⟨c, 1 + j, none⟩ = some (.pointer (some ⟨f j, 0, none⟩)))
    (k : Nat) (hk : k < m) (hinj : ∀ j, j < k → f k ≠ f j) (hf : ∀ j, j < m → ∃ cx, w.heap[f j]? = some (.cells cx 52 (0, 0))) :
    Calls Yba.prog 14 #[.pointer (some ⟨c, 0, none⟩), .pointer (some ⟨f k, 0, none⟩)] w fun e w' => e = .returned (.tuple #[]) ∧ w'.rowIs c 35 10 (pc p ents 0) ∧ Only c w w' := by
  have H := fun q => contains_yes c m f (w.drewN q) hm hc k hk hinj hf
  have cn : w.cell? ⟨c, 9, none⟩ = some (.int .i64 m) := hr.cell (by omega)
  have f9 := hr.frozen 9
  have hsl := sl33 c m hm
  clear hc hinj hf
  go_enter Yba.func14, Yba.ntmps14
  go_wp2_with fail
  go_quiet ((go_at_call 23; exact Calls.quiet_of_same (H _)))
  go_wp2
  go_end0
  refine ⟨rfl, ((hr.set 9 _).congr fun i hi => ?_), ((Only.refl c w).setCell 9 _).drewN _⟩
  unfold pc
  by_cases h0 : i = 0
  · subst h0; rfl
  · by_cases h9 : i = 9
    · subst h9; rfl
    · simp only [h0, h9, if_false]
end Go.Proofs.Ybulkcuye
