/- The state of 'serialOrder' in memory. -/
import Derived.Test.YbulkcuyeASerB
import Derived.Test.YbulkcuyeACloneW
namespace Go.Proofs.Ybulkcuye.A
open Go.RowKit

structure SR (W0 B hb ib icap ob n : Nat) (w wr : World) (v : Value) (hl : Nat) (q : Nat → Nat) (inn : Nat → Int) (o : Nat → Nat) (ol : Nat) : Prop where
  l1 : W0 ≤ ib
  l2 : ib < hb
  l3 : B ≤ ob
  hp : HP B hb wr v hl q
  ir : Slc wr W0 3 1 (.slice (some ⟨ib, 0, none⟩) n icap) n (fun i => .int .i64 (inn i))
  od : Slc wr B 3 1 (.slice (some ⟨ob, 0, none⟩) ol n) ol (nv o)
  ne : v.ownBlock ≠ some ob
  bel : Below W0 w wr

theorem SR.ltB {W0 B hb ib icap ob n : Nat} {w wr : World} {v : Value} {hl : Nat} {q : Nat → Nat} {inn : Nat → Int} {o : Nat → Nat} {ol : Nat} (h : SR W0 B hb ib icap ob n w wr v hl q inn o ol) : B ≤ wr.heap.size := by
  have := (h.od.lt ob rfl).2
  have := h.l3
  omega

theorem SR.heap {W0 B hb ib icap ob n : Nat} {w wr w' : World} {v v' : Value} {hl hl' : Nat} {q q' : Nat → Nat} {inn : Nat → Int} {o : Nat → Nat} {ol : Nat} (h : SR W0 B hb ib icap ob n w wr v hl q inn o ol) (hk : HK hb v v' wr w') (hp : HP B hb w' v' hl' q') :
    SR W0 B hb ib icap ob n w w' v' hl' q' inn o ol := by
  have hlt := h.hp.lt
  have h1 := h.l1
  have h2 := h.l2
  have h3 := h.l3
  have own : ∀ b, b < B → v.ownBlock ≠ some b := fun b hb e => by have := (h.hp.sl.lt b e).1; omega
  refine ⟨h.l1, h.l2, h.l3, hp, h.ir.of fun b hb => ?_, h.od.of fun b hb => ?_, fun e => ?_, h.bel.trans ⟨hk.os, hk.tape, hk.output, hk.size, fun b hb => ?_⟩⟩
  · have : ib = b := by simpa [Value.ownBlock] using hb
    subst this
    exact hk.block ib (h.ir.lt ib rfl).2 (by omega) (own ib (by omega))
  · have : ob = b := by simpa [Value.ownBlock] using hb
    subst this
    exact hk.block ob (h.od.lt ob rfl).2 (by omega) h.ne
  · rcases hk.own ob e with c | c
    · exact h.ne c
    · have := (h.od.lt ob rfl).2; omega
  · exact hk.block b (by have := h.hp.box.lt; omega) (by omega) (own b (by omega))

theorem SR.order {W0 B hb ib icap ob n : Nat} {w wr : World} {v : Value} {hl : Nat} {q : Nat → Nat} {inn : Nat → Int} {o : Nat → Nat} {ol : Nat} (h : SR W0 B hb ib icap ob n w wr v hl q inn o ol) (hol : ol < n) (t : Nat) :
    ∃ w' : World, (Builtin.append_ #[25, 25] 25 #[.slice (some ⟨ob, 0, none⟩) ol n, .slice (some ⟨wr.heap.size, 0, none⟩) 1 1]).run Yba.prog (wr.alloc (.cells #[.int .i64 (t : Int)] 3)) = .ok (.slice (some ⟨ob, 0, none⟩) (ol + 1) n) w' ∧
      SR W0 B hb ib icap ob n w w' v hl q inn (upd o ol t) (ol + 1) := by
  obtain ⟨w', hap, hsl, hg⟩ := h.od.room (by omega) (t : Int)
  have hlt := h.hp.lt
  have h1 := h.l1
  have h2 := h.l2
  have h3 := h.l3
  have hold : ∀ b, b < wr.heap.size → b ≠ ob → w'.heap[b]? = wr.heap[b]? := fun b hb hne =>
    (hg.block b (by simp; omega) (fun e => hne (by simpa using e))).trans (Below.heap_alloc _ _ _ hb)
  refine ⟨w', hap, h.l1, h.l2, h.l3, ⟨h.hp.box.of_block (hold hb h.hp.box.lt (by omega)), h.hp.sl.of (fun b hb => hold b (h.hp.sl.lt b hb).2 (fun e => h.ne (by rw [← e]; exact hb))), h.hp.lt⟩, h.ir.of (fun b hb => ?_), hsl.congr (fun i _ => ?_), h.ne, h.bel.trans ⟨?_, ?_, ?_, ?_, fun b hb => ?_⟩⟩
  · have : ib = b := by simpa [Value.ownBlock] using hb
    subst this
    exact hold ib (h.ir.lt ib rfl).2 (by omega)
  · unfold nv upd
    by_cases e : i = ol <;> simp [e]
  · exact hg.os
  · exact hg.tape
  · exact hg.output
  · have := hg.size; simp at this; omega
  · have := h.hp.box.lt
    exact hold b (by omega) (by omega)

theorem SR.dec {W0 B hb ib icap ob n : Nat} {w wr : World} {v : Value} {hl : Nat} {q : Nat → Nat} {inn : Nat → Int} {o : Nat → Nat} {ol : Nat} (h : SR W0 B hb ib icap ob n w wr v hl q inn o ol) (u : Nat) (x : Int) :
    SR W0 B hb ib icap ob n w (wr.setCell ⟨ib, u, none⟩ (.int .i64 x)) v hl q (upd inn u x) o ol := by
  have hlt := h.hp.lt
  have h1 := h.l1
  have h2 := h.l2
  have h3 := h.l3
  have hold : ∀ b, b ≠ ib → (wr.setCell ⟨ib, u, none⟩ (.int .i64 x)).heap[b]? = wr.heap[b]? := fun b hb => Below.heap_setCell _ _ _ _ hb
  refine ⟨h.l1, h.l2, h.l3, ⟨h.hp.box.of_block (hold hb (by omega)), h.hp.sl.of (fun b hb => hold b (fun e => by have := (h.hp.sl.lt b hb).1; omega)), h.hp.lt⟩, (h.ir.set u _).congr (fun i _ => ?_), h.od.of (fun b hb => hold b (fun e => by have := (h.od.lt b hb).1; omega)), h.ne, h.bel.setCell (by exact h1) _⟩
  unfold upd
  by_cases e : i = u <;> simp [e]

theorem KI.ol_le {n : Nat} {nx : Nat → List Nat} {inn : Nat → Int} {pe hq : Nat → Nat} {hl : Nat} {o : Nat → Nat} {ol : Nat} {cur : Option Nat} (h : KI n nx inn pe hq hl o ol cur) : ol ≤ n := pigeon n ol o h.olt h.oinj
theorem KI.hl_le {n : Nat} {nx : Nat → List Nat} {inn : Nat → Int} {pe hq : Nat → Nat} {hl : Nat} {o : Nat → Nat} {ol : Nat} {cur : Option Nat} (h : KI n nx inn pe hq hl o ol cur) : hl ≤ n := pigeon n hl hq h.hlt h.hinj

/-- The length of a slice. -/
def lenOf : Value → Nat
  | .slice _ n _ => n
  | _ => 0

end Go.Proofs.Ybulkcuye.A
