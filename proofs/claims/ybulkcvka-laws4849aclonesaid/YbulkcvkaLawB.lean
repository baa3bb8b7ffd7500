import Derived.Test.YbulkcvkaCloneW
import Derived.Laws.BytesString
namespace Go.Proofs.Ybulkcvka
open Go.RowKit Go.Maps

theorem info2 : (Yba.prog.info? 2).map (fun i => (i.zero, i.size, i.bytes)) = some (some (.int .i64 0), 1, 8) := by kernel_rfl

/-- All blocks but c are as they were. -/
structure Only (c : Nat) (w w' : World) : Prop where
  os : w'.os = w.os
  tape : w'.tape = w.tape
  output : w'.output = w.output
  size : w'.heap.size = w.heap.size
  block : ∀ k, k ≠ c → w'.heap[k]? = w.heap[k]?
theorem Only.below {c B : Nat} {w w' : World} (h : Only c w w') (hB : B ≤ c) : Below B w w' :=
  ⟨h.os, h.tape, h.output, Nat.le_of_eq h.size.symm, fun k hk => h.block k (by omega)⟩

/-- append within the capacity, out of a slice that came in (nil too) or a row of the call's own. -/
theorem append_fit (W : World) (g cap k : Nat) (f : Nat → Value) (hr : W.rowIs g 9 cap f) (ao : Option Addr) (n c : Nat) (src : Nat → Value)
    (hs : 0 < n → ∃ b off, ao = some ⟨b, off, none⟩ ∧ ∀ j, j < n → W.cell? ⟨b, off + j, none⟩ = some (src j)) (hn : ao = none → n = 0 ∧ c = 0) (h1 : ∀ j, j < n → (src j).oneCell' = true) (hfit : k + n ≤ cap) :
    ∃ w', (Builtin.append_ #[22, 22] 22 #[.slice (some ⟨g, 0, none⟩) k cap, .slice ao n c]).run Yba.prog W = .ok (.slice (some ⟨g, 0, none⟩) (k + n) cap) w' ∧
      w'.rowIs g 9 cap (fun j => if k ≤ j ∧ j < k + n then src (j - k) else f j) ∧ Only g W w' := by
  obtain ⟨i9, hi9, hz9, hs9, hb9⟩ := info_parts info9
  obtain ⟨cur, hb, hsz, hc⟩ := hr
  cases ao with
  | none =>
    obtain ⟨rfl, rfl⟩ := hn rfl
    refine ⟨W, ?_, ⟨cur, hb, hsz, fun i hi => by show _ = some (if k ≤ i ∧ i < k + 0 then src (i - k) else f i); rw [if_neg (by omega)]; exact hc i hi⟩, ⟨rfl, rfl, rfl, rfl, fun _ _ => rfl⟩⟩
    simp [Builtin.append_, run_underlying Yba.underlying22, sizeOf, typeInfo, hi9, Builtin.lenOf, Builtin.firstCells, show k ≤ cap by omega, storeCells]
  | some a =>
    have hnews : ∀ j u, ((List.range n).map src)[j]? = some u → W.cell? (a.add j) = some u := by
      intro j u hj
      simp only [List.getElem?_map, Option.map_eq_some_iff] at hj
      obtain ⟨x, hx, rfl⟩ := hj
      simp only [List.getElem?_eq_some_iff, List.getElem_range] at hx
      obtain ⟨hlt, rfl⟩ := hx
      simp at hlt
      obtain ⟨b, off, ha, hcell⟩ := hs (by omega)
      injection ha with ha; subst ha
      have hadd : (⟨b, off, none⟩ : Addr).add j = ⟨b, off + j, none⟩ := by unfold Addr.add; split <;> simp_all
      rw [hadd]; exact hcell j hlt
    have hlen : ((List.range n).map src).length = n := by simp
    have hrun := run_append_room (P := Yba.prog) W 22 22 9 i9 Yba.underlying22 hi9 g k cap cur hb a n c ((List.range n).map src) (by rw [hlen, hs9]; omega) hnews
      (by intro u hu; simp only [List.mem_map, List.mem_range] at hu; obtain ⟨j, hj, rfl⟩ := hu; exact h1 j hj) hfit (by rw [hlen, hs9]; omega)
    rw [hlen, hs9, Nat.mul_one] at hrun
    refine ⟨_, hrun, ⟨_, setRow_heap W g _ _ 9 _ hb, by simp; omega, fun i hi => ?_⟩, ⟨rfl, rfl, rfl, by simp [World.setRow], fun j hj => setRow_other W g j _ (by omega)⟩⟩
    have hci := hc i hi
    have hl0 : (cur.toList.take k).length = k := by simp; omega
    simp only [List.getElem?_toArray, List.append_assoc]
    rcases Nat.lt_or_ge i k with h3 | h3
    · rw [List.getElem?_append_left (by omega), if_neg (by omega), List.getElem?_take, if_pos h3]
      simpa using hci
    · rw [List.getElem?_append_right (by omega), hl0]
      rcases Nat.lt_or_ge i (k + n) with h4 | h4
      · rw [List.getElem?_append_left (by rw [hlen]; omega), if_pos ⟨h3, h4⟩, List.getElem?_map, List.getElem?_range (by omega)]
        rfl
      · rw [List.getElem?_append_right (by rw [hlen]; omega), if_neg (by omega), hlen, List.getElem?_drop, show k + n + (i - k - n) = i by omega]
        simpa using hci

/-- string([]byte{'x', x, y}). -/
def ex3 (x y : Int) : ByteArray := [120, x, y].foldl (fun r n => r.push (UInt8.ofNat n.toNat)) ByteArray.empty
theorem ex3_size (x y : Int) : (ex3 x y).size = 3 := by simp [ex3, ByteArray.size_push]
theorem conv3 (W : World) (x y : Int) : (convert 24 9 (.slice (some ⟨W.heap.size, 0, none⟩) 3 3)).run Yba.prog (W.alloc (.cells #[.int .u8 120, .int .u8 x, .int .u8 y] 5)) = .ok (.string (ex3 x y)) (W.alloc (.cells #[.int .u8 120, .int .u8 x, .int .u8 y] 5)) := by
  rw [run_convert_bytes_string _ 24 9 5 _ 3 3 Yba.underlying24 Yba.underlying5 Yba.underlying9]
  refine run_bytesToString _ ⟨W.heap.size, 0, none⟩ 3 3 [120, x, y] ?_
  exact run_loadCells_list (P := Yba.prog) _ ⟨W.heap.size, 0, none⟩ [.int .u8 120, .int .u8 x, .int .u8 y] (fun j v hj => by
    match j, hj with
    | 0, hj => simp at hj; subst hj; simp [Addr.add, go_sem]
    | 1, hj => simp at hj; subst hj; simp [Addr.add, go_sem]
    | 2, hj => simp at hj; subst hj; simp [Addr.add, go_sem])

/-- make([]string, 0, c). -/
theorem make_keys (c : Nat) (hc : c ≤ 2000) (W : World) : (Instr.makeSlice 22 (.int .i64 0) (.int .i64 (c : Int))).run Yba.prog W = .ok (.slice (some ⟨W.heap.size, 0, none⟩) 0 c) (W.alloc (.cells (madeCells #[.string ByteArray.empty] c) 9)) := by
  obtain ⟨i9, hi9, hz9, hs9, hb9⟩ := info_parts info9
  have h := run_make (P := Yba.prog) W 22 9 i9 _ Yba.underlying22 hi9 hz9 .i64 .i64 0 (c : Int) (by omega) (by omega) (by rw [hb9]; omega) (by omega)
  rw [hs9] at h
  simp only [Int.toNat_zero, Int.toNat_natCast, Nat.mul_one] at h
  exact h

/-- The keys' row while it is filled. -/
def krow (K : Nat → ByteArray) (n j : Nat) : Value := if j < n then .string (K j) else .string ByteArray.empty
theorem krow_step (K : Nat → ByteArray) (n : Nat) (s : ByteArray) (j : Nat) : (if n ≤ j ∧ j < n + 1 then .string s else krow K n j) = krow (fun i => if i = n then s else K i) (n + 1) j := by
  unfold krow
  by_cases h : j = n
  · subst h; simp
  · by_cases h2 : j < n
    · rw [if_neg (by omega), if_pos h2, if_pos (by omega)]; simp [h]
    · rw [if_neg (by omega), if_neg h2, if_neg (by omega)]
end Go.Proofs.Ybulkcvka
