import Derived.Test.YbulkcuyeFmtLawB
namespace Go.Proofs.YbulkcuyeFmt
open Go.RowKit Go.Extern.Stop Go.Stop Go.Extern

/-- What lies when the entries begin to be laid. -/
structure Base0 (w W1 : World) (m t o N : Nat) (r st : Int) (p : Option Addr) (n : Nat) : Prop where
  bel : Below w.heap.size w W1
  tx : W1.rowIs t 83 17 (txf m 0 st (.slice none 0 0) p)
  ox : W1.rowIs o 83 17 (txf m 1 0 (.slice none 0 0) none)
  rule : W1.cell? ⟨m, 1, none⟩ = some (.int .u8 r)
  ltm : m < N
  ltt : t < N
  lto : o < N
  ne : o ≠ t
  gem : w.heap.size ≤ m
  get : w.heap.size ≤ t
  geN : w.heap.size ≤ N
  names : W1.rowIs N 9 n (fun _ => .string ByteArray.empty)
  list : W1.rowIs (N + 1) 57 n (fun _ => .pointer none)
  snap : W1.rowIs (N + 1 + 1) 57 n (fun _ => .pointer none)
  size : N + 3 ≤ W1.heap.size
theorem Base0.bld {w W1 : World} {m t o N : Nat} {r st : Int} {p : Option Addr} {n : Nat} (h : Base0 w W1 m t o N r st p n) (mo : Nat → Int) (ot : Nat → Bool) (nm : Nat → ByteArray) (eb : Nat → Nat) : Bld W1 W1 t o N n 0 mo ot nm eb :=
  ⟨h.names.congr fun i _ => by simp [nmf], h.list.congr fun i _ => by simp [ebf], h.snap.congr fun i _ => by simp [ebf], fun i hi => by omega, Below.refl _ _, h.size⟩

theorem man_cell (wk : World) (Z : Array Value) (hZ : Z.size = 673) (r : Int) : (wk.alloc (.cells (Z.setIfInBounds 1 (.int .u8 r)) 70)).cell? ⟨wk.heap.size, 1, none⟩ = some (.int .u8 r) := by
  have h1 : (wk.alloc (.cells (Z.setIfInBounds 1 (.int .u8 r)) 70)).heap[wk.heap.size]? = some (.cells (Z.setIfInBounds 1 (.int .u8 r)) 70) := Array.getElem?_push_size
  have h2 : (Z.setIfInBounds 1 (.int .u8 r))[1]? = some (.int .u8 r) := by rw [Array.getElem?_setIfInBounds_self_of_lt (by omega)]
  simp only [World.cell?, h1]
  exact h2

def startT (wk : World) (Z : Array Value) (r st : Int) (k : Nat) : World := (((((((wk.alloc (.cells (Z.setIfInBounds 1 (.int .u8 r)) 70)).alloc (.cells #[.pointer (some ⟨wk.heap.size, 0, none⟩), .int .u64 0, .slice none 0 0, .pointer none, .pointer none, .pointer none, .pointer none, .pointer (some ⟨wk.heap.size + 1 + 1 + 1, 0, none⟩), .map none, .pointer none, .int .u64 0, .int .u32 0, .int .u8 st, .int .u8 0, .int .u8 0, .bool false, .pointer none] 83)).alloc (.cells #[.pointer (some ⟨wk.heap.size, 0, none⟩), .int .u64 1, .slice none 0 0, .pointer none, .pointer none, .pointer none, .pointer none, .pointer none, .map none, .pointer none, .int .u64 0, .int .u32 0, .int .u8 0, .int .u8 0, .int .u8 0, .bool false, .pointer none] 83)).alloc (.cells #[.pointer none, .string ⟨#[]⟩, .pointer none, .int .i64 0, .int .u32 0, .int .u8 0, .bool false, .int .u8 0, .bool false] 87)).alloc (.cells (madeCells #[.string ByteArray.empty] k) 9)).alloc (.cells (madeCells #[.pointer none] k) 57)).alloc (.cells (madeCells #[.pointer none] k) 57))
def startF (wk : World) (Z : Array Value) (r st : Int) (k : Nat) : World := ((((((wk.alloc (.cells (Z.setIfInBounds 1 (.int .u8 r)) 70)).alloc (.cells #[.pointer (some ⟨wk.heap.size, 0, none⟩), .int .u64 0, .slice none 0 0, .pointer none, .pointer none, .pointer none, .pointer none, .pointer none, .map none, .pointer none, .int .u64 0, .int .u32 0, .int .u8 st, .int .u8 0, .int .u8 0, .bool false, .pointer none] 83)).alloc (.cells #[.pointer (some ⟨wk.heap.size, 0, none⟩), .int .u64 1, .slice none 0 0, .pointer none, .pointer none, .pointer none, .pointer none, .pointer none, .map none, .pointer none, .int .u64 0, .int .u32 0, .int .u8 0, .int .u8 0, .int .u8 0, .bool false, .pointer none] 83)).alloc (.cells (madeCells #[.string ByteArray.empty] k) 9)).alloc (.cells (madeCells #[.pointer none] k) 57)).alloc (.cells (madeCells #[.pointer none] k) 57))

theorem rowIs_at {W : World} {b b' : Nat} {t : TypeId} {n : Nat} {f : Nat → Value} (h : W.rowIs b t n f) (e : b = b') : W.rowIs b' t n f := e ▸ h

theorem base_T {w wk : World} (hb : Below w.heap.size w wk) (Z : Array Value) (hZ : Z.size = 673) (r st : Int) (k : Nat) :
    Base0 w (startT wk Z r st k) wk.heap.size (wk.heap.size + 1) (wk.heap.size + 1 + 1) (wk.heap.size + 1 + 1 + 1 + 1) r st (some ⟨wk.heap.size + 1 + 1 + 1, 0, none⟩) k := by
  have hs := hb.size
  refine ⟨?_, ?_, ?_, ?_, by omega, by omega, by omega, by omega, by omega, by omega, by omega, ?_, ?_, ?_, ?_⟩
  · exact ((((((hb.alloc hs _).alloc (by simp; omega) _).alloc (by simp; omega) _).alloc (by simp; omega) _).alloc (by simp; omega) _).alloc (by simp; omega) _).alloc (by simp; omega) _
  · exact (((((rowIs_at (tx_new _ wk.heap.size 0 st (some ⟨wk.heap.size + 1 + 1 + 1, 0, none⟩)) (by simp)).alloc _).alloc _).alloc _).alloc _).alloc _
  · exact ((((rowIs_at (tx_new _ wk.heap.size 1 0 none) (by simp)).alloc _).alloc _).alloc _).alloc _
  · have h1 := man_cell wk Z hZ r
    exact cell_later ((((((((Below.refl _ (wk.alloc (.cells (Z.setIfInBounds 1 (.int .u8 r)) 70)))).alloc (by simp) _).alloc (by simp) _).alloc (by simp) _).alloc (by simp) _).alloc (by simp) _).alloc (by simp) _) h1
  · exact ((rowIs_at (World.rowIs_made _ _ _ _) (by simp)).alloc _).alloc _
  · exact (rowIs_at (World.rowIs_made _ _ _ _) (by simp)).alloc _
  · exact rowIs_at (World.rowIs_made _ _ _ _) (by simp)
  · simp [startT]
theorem base_F {w wk : World} (hb : Below w.heap.size w wk) (Z : Array Value) (hZ : Z.size = 673) (r st : Int) (k : Nat) :
    Base0 w (startF wk Z r st k) wk.heap.size (wk.heap.size + 1) (wk.heap.size + 1 + 1) (wk.heap.size + 1 + 1 + 1) r st none k := by
  have hs := hb.size
  refine ⟨?_, ?_, ?_, ?_, by omega, by omega, by omega, by omega, by omega, by omega, by omega, ?_, ?_, ?_, ?_⟩
  · exact (((((hb.alloc hs _).alloc (by simp; omega) _).alloc (by simp; omega) _).alloc (by simp; omega) _).alloc (by simp; omega) _).alloc (by simp; omega) _
  · exact ((((rowIs_at (tx_new _ wk.heap.size 0 st none) (by simp)).alloc _).alloc _).alloc _).alloc _
  · exact (((rowIs_at (tx_new _ wk.heap.size 1 0 none) (by simp)).alloc _).alloc _).alloc _
  · have h1 := man_cell wk Z hZ r
    exact cell_later (((((((Below.refl _ (wk.alloc (.cells (Z.setIfInBounds 1 (.int .u8 r)) 70)))).alloc (by simp) _).alloc (by simp) _).alloc (by simp) _).alloc (by simp) _).alloc (by simp) _) h1
  · exact ((rowIs_at (World.rowIs_made _ _ _ _) (by simp)).alloc _).alloc _
  · exact (rowIs_at (World.rowIs_made _ _ _ _) (by simp)).alloc _
  · exact rowIs_at (World.rowIs_made _ _ _ _) (by simp)
  · simp [startF]
end Go.Proofs.YbulkcuyeFmt
