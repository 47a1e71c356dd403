/- sha256: the block function, whole. -/
import Derived.Test.YthhpmeaajgjdeaaDoorX20

set_option linter.unusedVariables false
set_option linter.unusedSimpArgs false

/- Oh: sha256: the block function (printed by sha.py). -/
namespace Go.Proofs.YthhpmeaajgjdeaaDoor
open Go Go.RowKit

def dgC (s : S8) (r : List Value) : Array Value := (Value.int .u32 s.a :: .int .u32 s.b :: .int .u32 s.c :: .int .u32 s.d :: .int .u32 s.e :: .int .u32 s.f :: .int .u32 s.g :: .int .u32 s.h :: r).toArray

theorem drewHeap (w : World) : w.drew.heap = w.heap := rfl
theorem dg_set8 (W : World) (g : Nat) (s z : S8) (r : List Value) (h : W.heap[g]? = some (.cells (dgC s r) 163 (0, 0))) : ((((((((W.setCell ⟨g, 0, none⟩ (.int .u32 z.a)).setCell ⟨g, 1, none⟩ (.int .u32 z.b)).setCell ⟨g, 2, none⟩ (.int .u32 z.c)).setCell ⟨g, 3, none⟩ (.int .u32 z.d)).setCell ⟨g, 4, none⟩ (.int .u32 z.e)).setCell ⟨g, 5, none⟩ (.int .u32 z.f)).setCell ⟨g, 6, none⟩ (.int .u32 z.g)).setCell ⟨g, 7, none⟩ (.int .u32 z.h)).heap[g]? = some (.cells (dgC z r) 163 (0, 0)) := by
  unfold dgC at h
  have g1 := Lib.heap_setCell_same (i := 0) h (.int .u32 z.a)
  have g2 := Lib.heap_setCell_same (i := 1) g1 (.int .u32 z.b)
  have g3 := Lib.heap_setCell_same (i := 2) g2 (.int .u32 z.c)
  have g4 := Lib.heap_setCell_same (i := 3) g3 (.int .u32 z.d)
  have g5 := Lib.heap_setCell_same (i := 4) g4 (.int .u32 z.e)
  have g6 := Lib.heap_setCell_same (i := 5) g5 (.int .u32 z.f)
  have g7 := Lib.heap_setCell_same (i := 6) g6 (.int .u32 z.g)
  have g8 := Lib.heap_setCell_same (i := 7) g7 (.int .u32 z.h)
  rw [g8]
  simp [dgC]
theorem dg_keeps {a W : World} {S : Nat → Prop} (h : Keeps S a W) (g : Nat) (hg : S g ∨ a.heap.size ≤ g) (z : S8) : Keeps S a ((((((((W.setCell ⟨g, 0, none⟩ (.int .u32 z.a)).setCell ⟨g, 1, none⟩ (.int .u32 z.b)).setCell ⟨g, 2, none⟩ (.int .u32 z.c)).setCell ⟨g, 3, none⟩ (.int .u32 z.d)).setCell ⟨g, 4, none⟩ (.int .u32 z.e)).setCell ⟨g, 5, none⟩ (.int .u32 z.f)).setCell ⟨g, 6, none⟩ (.int .u32 z.g)).setCell ⟨g, 7, none⟩ (.int .u32 z.h)) :=
  ((((((((h.setCell (p := ⟨g, 0, none⟩) (by exact hg) _).setCell (p := ⟨g, 1, none⟩) (by exact hg) _).setCell (p := ⟨g, 2, none⟩) (by exact hg) _).setCell (p := ⟨g, 3, none⟩) (by exact hg) _).setCell (p := ⟨g, 4, none⟩) (by exact hg) _).setCell (p := ⟨g, 5, none⟩) (by exact hg) _).setCell (p := ⟨g, 6, none⟩) (by exact hg) _).setCell (p := ⟨g, 7, none⟩) (by exact hg) _)

set_option maxHeartbeats 8000000 in
set_option maxRecDepth 1000000 in
theorem blockG (db : Nat) (s : S8) (r : List Value) (b o n c : Nat) (p : List UInt8) (K : Nat → Int) (w : World) (hn : p.length = n) (hc : n ≤ c) (hc63 : c ≤ 9223372036854775807) (hp : ∀ k, k < n → w.cell? ⟨b, o + k, none⟩ = some (.int .u8 (byteAt p k))) (hK : Kat w K) (hb : b < w.heap.size) (h7 : 7 < w.heap.size)
    (hd : w.heap[db]? = some (.cells (dgC s r) 163 (0, 0))) :
    Calls Tryd.prog 64 #[.pointer (some ⟨db, 0, none⟩), .slice (some ⟨b, o, none⟩) n c] w fun e w' => e = .returned (.tuple #[]) ∧ w'.heap[db]? = some (.cells (dgC (blkN K p (s, fun _ => 0) (n / 64)).1 r) 163 (0, 0)) ∧ Keeps (fun k => k = db) w w' := by
  have hdb := Lib.lt_of_heap hd
  go_enter Tryd.func64, Tryd.ntmps64
  go_wp2
  have hnW := heap_alloc_new w (.cells (Array.replicate 64 (.int .u32 0)) 189)
  have hkW : Keeps (fun _ => False) w (w.alloc (.cells (Array.replicate 64 (.int .u32 0)) 189)) := (Keeps.refl _ _).alloc _
  have hsW : (w.alloc (.cells (Array.replicate 64 (.int .u32 0)) 189)).heap.size = w.heap.size + 1 := by simp
  obtain ⟨w0, hw0⟩ : ∃ w0, w0 = w.alloc (.cells (Array.replicate 64 (.int .u32 0)) 189) := ⟨_, rfl⟩
  rw [← hw0] at hnW hkW hsW
  change Code.wp _ _ _ _ (w.alloc (.cells (Array.replicate 64 (.int .u32 0)) 189))
  rw [← hw0]
  clear hw0
  have hd0 := hkW.heap hd (fun h => h)
  have g0 : w0.cell? ⟨db, 0, none⟩ = some (.int .u32 s.a) := by rw [Lib.cell_of_heap hd0]; rfl
  have g1 : w0.cell? ⟨db, 1, none⟩ = some (.int .u32 s.b) := by rw [Lib.cell_of_heap hd0]; rfl
  have g2 : w0.cell? ⟨db, 2, none⟩ = some (.int .u32 s.c) := by rw [Lib.cell_of_heap hd0]; rfl
  have g3 : w0.cell? ⟨db, 3, none⟩ = some (.int .u32 s.d) := by rw [Lib.cell_of_heap hd0]; rfl
  have g4 : w0.cell? ⟨db, 4, none⟩ = some (.int .u32 s.e) := by rw [Lib.cell_of_heap hd0]; rfl
  have g5 : w0.cell? ⟨db, 5, none⟩ = some (.int .u32 s.f) := by rw [Lib.cell_of_heap hd0]; rfl
  have g6 : w0.cell? ⟨db, 6, none⟩ = some (.int .u32 s.g) := by rw [Lib.cell_of_heap hd0]; rfl
  have g7 : w0.cell? ⟨db, 7, none⟩ = some (.int .u32 s.h) := by rw [Lib.cell_of_heap hd0]; rfl
  have hWA : WAt w0 w.heap.size (fun _ => 0) := ⟨⟨_, hnW, by simp⟩, fun i hi => by rw [Lib.cell_of_heap hnW]; simp [hi]⟩
  have HWA := Lib.hid hWA
  have HD := Lib.hid hd0
  have HP := Lib.hid hp
  have HK := Lib.hid hK
  have HKW := Lib.hid hkW
  clear hd hd0 hWA hnW hp hK hkW
  go_quiet (fail)
  go_wp2
  refine outerLoop K p b o n c w.heap.size (s, fun _ => 0) _ _ _ _ _ _ _ _ _ _ _ _ _ _ _ _ _ _ _ _ _ _ _ _ _ _ _ _ _ _ _ _ _ _ _ _ _ _ _ _ _ _ _ _ _ _ _ _ _ _ _ _ _ _ _ _ _ _ _ _ _ _ _ _ _ _ _ _ _ _ _ _ _ _ _ _ _ _ _ _ _ _ _ _ _ _ _ _ _ _ _ _ _ _ _ _ _ _ _ _ _ _ _ _ _ _ _ _ _ _ _ _ _ _ _ _ _ _ _ _ _ _ _ _ _ _ _ _ _ _ _ _ _ _ _ _ _ _ _ _ _ _ _ _ _ _ _ _ _ _ _ _ _ _ _ _ _ _ _ _ _ _ _ _ _ _ _ _ _ _ _ _ _ _ _ _ _ _ _ _ _ _ _ _ _ _ _ _ _ _ _ _ _ _ _ _ _ _ _ _ _ _ _ _ _ _ _ _ _ _ _ _ _ _ _ _ _ _ _ _ _ _ _ _ _ _ _ _ _ _ _ _ _ _ _ _ _ _ _ _ _ _ _ _ _ _ _ _ _ _ _ _ _ _ _ _ _ _ _ _ _ _ _ _ _ _ _ _ _ _ _ _ _ _ _ (show WAt (w0.drewN nq) _ _ from ⟨HWA.out.blk, HWA.out.cell⟩) (fun i hi => (HK.out.keeps HKW.out (fun h => h)) i hi) (by omega) (by omega) hc hc63 (fun k hk => HKW.out.cell (HP.out k hk) (fun h => h)) ?_
  intro j o' u w2 hj hj2 hW2 hk2
  have hjn : j = n / 64 := by omega
  have hk02 : Keeps (fun _ => False) w w2 := (HKW.out.drewN nq).trans hk2 fun k h => Or.inr (by omega)
  have hd2 := hk2.heap (show (w0.drewN nq).heap[db]? = _ from HD.out) (by omega)
  clear g0 g1 g2 g3 g4 g5 g6 g7
  have d0 : w2.cell? ⟨db, 0, none⟩ = some (.int .u32 s.a) := by rw [Lib.cell_of_heap hd2]; rfl
  have e0 := Lib.frozen_of_heap hd2 0
  have d1 : w2.cell? ⟨db, 1, none⟩ = some (.int .u32 s.b) := by rw [Lib.cell_of_heap hd2]; rfl
  have e1 := Lib.frozen_of_heap hd2 1
  have d2 : w2.cell? ⟨db, 2, none⟩ = some (.int .u32 s.c) := by rw [Lib.cell_of_heap hd2]; rfl
  have e2 := Lib.frozen_of_heap hd2 2
  have d3 : w2.cell? ⟨db, 3, none⟩ = some (.int .u32 s.d) := by rw [Lib.cell_of_heap hd2]; rfl
  have e3 := Lib.frozen_of_heap hd2 3
  have d4 : w2.cell? ⟨db, 4, none⟩ = some (.int .u32 s.e) := by rw [Lib.cell_of_heap hd2]; rfl
  have e4 := Lib.frozen_of_heap hd2 4
  have d5 : w2.cell? ⟨db, 5, none⟩ = some (.int .u32 s.f) := by rw [Lib.cell_of_heap hd2]; rfl
  have e5 := Lib.frozen_of_heap hd2 5
  have d6 : w2.cell? ⟨db, 6, none⟩ = some (.int .u32 s.g) := by rw [Lib.cell_of_heap hd2]; rfl
  have e6 := Lib.frozen_of_heap hd2 6
  have d7 : w2.cell? ⟨db, 7, none⟩ = some (.int .u32 s.h) := by rw [Lib.cell_of_heap hd2]; rfl
  have e7 := Lib.frozen_of_heap hd2 7
  have HX := Lib.hid (And.intro hd2 (And.intro hk02 hjn))
  clear hd2 hk02 hk2 hW2 hjn hn
  generalize hz : (blkN K p (s, fun _ => 0) j).1 = z at *
  have HZ := Lib.hid hz
  clear hz
  go_wp2
  go_region
  go_end0
  obtain ⟨x1, x2, x3⟩ := HX.out
  refine ⟨rfl, ?_, ?_⟩
  · rw [← x3, HZ.out, drewHeap]
    exact dg_set8 w2 db s z r x1
  · exact (dg_keeps (x2.mono (S' := fun k => k = db) fun _ _ h => h.elim) db (Or.inl rfl) z).drew

end Go.Proofs.YthhpmeaajgjdeaaDoor
