/- sha256: Sum. -/
import Derived.Test.YthhpmeaajgjdeaaDoorX25

set_option linter.unusedVariables false
set_option linter.unusedSimpArgs false

/- Qd: sha256: (*Digest).Sum over this program. -/
namespace Go.Proofs.YthhpmeaajgjdeaaDoor
open Go Go.RowKit

theorem info163 {s : S8} {x : List UInt8} {nx : Nat} {len : Int} (hx : x.length = 64) : (Tryd.prog.info? 163).map (·.size) = some (dgC s (dgRest x nx len)).size := by
  have h : (Tryd.prog.info? 163).map (·.size) = some 75 := by kernel_rfl
  rw [h, dg_size _ _ _ _ hx]
theorem dgC_one (s : S8) (x : List UInt8) (nx : Nat) (len : Int) : (dgC s (dgRest x nx len)).all (·.oneCell') = true := by
  simp [dgC, dgRest, Lib.byteCells, Value.oneCell']

set_option maxHeartbeats 1000000 in
set_option maxRecDepth 10000 in
theorem sumC (db : Nat) (d : Dg) (K : Nat → Int) (w : World) (h : DgAt w db d) (hs : d.s.Ok) (hK : Kat w K) (h7 : 7 < w.heap.size) :
    Calls Tryd.prog 101 #[.pointer (some ⟨db, 0, none⟩), .slice none 0 0] w fun e w' => ∃ g c, e = .returned (.slice (some ⟨g, 0, none⟩) 32 c) ∧ 32 ≤ c ∧ (∀ k, k < 32 → w'.cell? ⟨g, k, none⟩ = some (.int .u8 (byteAt (d.sum K) k))) ∧ w.heap.size ≤ g ∧ Keeps (fun _ => False) w w' := by
  have hx := h.size
  have hb := h.blk
  have hu163 : Tryd.prog.underlying 163 = some (.struct ((match Tryd.prog.underlying 163 with | some (.struct f) => f | _ => #[]))) := by kernel_rfl
  have hu181 : Tryd.prog.underlying 181 = some (.array (Tryd.prog.arrayLen 181) (Tryd.prog.elem 181)) := by kernel_rfl
  have hz : Tryd.zeroCells163.size = 75 := by kernel_rfl
  have hdb := h.blk
  have hdb1 := Lib.lt_of_heap hdb
  have h1 : DgAt ((w.alloc (.cells Tryd.zeroCells163 163)).setRow w.heap.size (dgC d.s (dgRest d.x d.nx d.len))) w.heap.size d := DgAt.mk' h.ok (setRow_heap _ _ _ _ 163 _ (heap_alloc_new w _))
  have hk1 : Keeps (fun _ => False) w ((w.alloc (.cells Tryd.zeroCells163 163)).setRow w.heap.size (dgC d.s (dgRest d.x d.nx d.len))) := ((Keeps.refl _ w).alloc _).setRow (Or.inr (Nat.le_refl _)) _
  have hl := h.ok
  have HB := Lib.hid hb
  have H1 := Lib.hid (And.intro h1 (And.intro hk1 (And.intro hs hK)))
  have hsz1 : w.heap.size < ((w.alloc (.cells Tryd.zeroCells163 163)).setRow w.heap.size (dgC d.s (dgRest d.x d.nx d.len))).heap.size := Lib.lt_of_heap h1.blk
  clear hb h1 hk1 hs hK hdb h hl
  go_enter Tryd.func101, Tryd.ntmps101
  go_wp2_with (first
    | (refine wpList_load_row rfl 163 _ rfl db rfl 163 _ (0, 0) _ HB.out hu163 rfl (info163 hx) ?_)
    | (refine wpList_store_row rfl 163 _ _ rfl w.heap.size _ rfl rfl 163 _ (heap_alloc_new w _) (info163 hx) (hz.trans (dg_size _ _ _ _ hx).symm) (dgC_one _ _ _ _) ?_; refine Hid.out ?_)
    | (go_at_call 103; refine (recordC _).mono ?_; rintro e w1 ⟨rfl, hw⟩; have hw := hw.symm; subst hw))
  refine Lib.hid ?_
  obtain ⟨h1, hk1, hs, hK⟩ := H1.out
  clear hw H1 HB
  generalize (w.alloc (.cells Tryd.zeroCells163 163)).setRow w.heap.size (dgC d.s (dgRest d.x d.nx d.len)) = w2 at *
  have HC := Lib.hid (checkSum w.heap.size d K w2 h1 hs (hK.keeps hk1 fun h => h) (by omega) (by omega))
  have hlen : (d.sum K).length = 32 := sumOf_length _
  have HK1 := Lib.hid hk1
  clear h1 hk1 hs hK
  generalize hq : d.sum K = q at *
  have HQ := Lib.hid hq
  clear hq
  go_wp2_with (first
    | (go_at_call 104; refine HC.out.mono ?_; rintro e w3 ⟨rfl, hp⟩)
    | (refine wpList_store_row rfl 181 _ _ rfl w3.heap.size _ rfl rfl 181 _ (heap_alloc_new w3 _) (info181 hlen) (by simp [Lib.byteCells_length, hlen]) (by simp [Lib.byteCells, Value.oneCell']) ?_; refine Hid.out ?_))
  refine Lib.hid ?_
  obtain ⟨hfl, hk3⟩ := hp
  have hsz3 := hk3.size
  change wpList Tryd.prog _ _ _ _ ((w3.alloc (.cells (Lib.byteCells (List.replicate 32 0)).toArray 181)).setRow w3.heap.size (Lib.byteCells q).toArray)
  have hI : ByAt ((w3.alloc (.cells (Lib.byteCells (List.replicate 32 0)).toArray 181)).setRow w3.heap.size (Lib.byteCells q).toArray) w3.heap.size 181 q := setRow_heap _ _ _ _ 181 _ (heap_alloc_new w3 _)
  have hk4 : Keeps (fun _ => False) w3 ((w3.alloc (.cells (Lib.byteCells (List.replicate 32 0)).toArray 181)).setRow w3.heap.size (Lib.byteCells q).toArray) := ((Keeps.refl _ w3).alloc _).setRow (Or.inr (Nat.le_refl _)) _
  generalize (w3.alloc (.cells (Lib.byteCells (List.replicate 32 0)).toArray 181)).setRow w3.heap.size (Lib.byteCells q).toArray = w4 at *
  have hfl4 := hk4.cell hfl fun h => h
  have hkw4 : Keeps (fun _ => False) w w4 := (HK1.out.trans hk3 fun j hj => Or.inr (by omega)).same hk4
  have hsz4 := hkw4.size
  obtain ⟨i0, hi, hz0, hz1, hz2⟩ := info_parts byteInfo
  have happ := run_append_nil (P := Tryd.prog) w4 57 57 5 i0 (.int .u8 0) Tryd.underlying57 hi hz0 ⟨w3.heap.size, 0, none⟩ 32 32 (Lib.byteCells q) (by rw [Lib.byteCells_length, hlen, hz1]) (fun j v hj => by
    rw [Lib.addr_add]
    simp only [Nat.zero_add]
    rw [Lib.cell_of_heap hI]
    simpa using hj) (by omega) (by omega) (by omega)
  have hcap := grownCap_ge w4 32 0 5
  have hnew : ∀ k, k < 32 → (w4.drew.alloc (.cells ((Lib.byteCells q).toArray ++ Builtin.zeroCells (Value.cells (.int .u8 0)) (grownCap w4 32 0 5 - 32)) 5)).cell? ⟨w4.heap.size, k, none⟩ = some (.int .u8 (byteAt q k)) := by
    intro k hk
    have hkq : k < q.length := by omega
    rw [Lib.cell_of_heap (show (w4.drew.alloc (.cells ((Lib.byteCells q).toArray ++ Builtin.zeroCells (Value.cells (.int .u8 0)) (grownCap w4 32 0 5 - 32)) 5)).heap[w4.heap.size]? = _ from heap_alloc_new w4.drew _), Array.getElem?_append_left (by simp [Lib.byteCells_length]; omega)]
    simp [Lib.byteCells, byteAt, List.getD_eq_getElem?_getD, List.getElem?_eq_getElem hkq]
  have hkf : Keeps (fun _ => False) w (w4.drew.alloc (.cells ((Lib.byteCells q).toArray ++ Builtin.zeroCells (Value.cells (.int .u8 0)) (grownCap w4 32 0 5 - 32)) 5)) := hkw4.drew.alloc _
  generalize w4.drew.alloc (.cells ((Lib.byteCells q).toArray ++ Builtin.zeroCells (Value.cells (.int .u8 0)) (grownCap w4 32 0 5 - 32)) 5) = w5 at *
  generalize grownCap w4 32 0 5 = cap at *
  have FIN := Lib.hid (And.intro hcap (And.intro hnew (And.intro hsz4 hkf)))
  clear hcap hnew hkf hkw4 hI hk4 hk3 hfl HK1 HC hu163 hu181
  go_wp2_with (at_builtin; refine Lib.wpList_append_run _ rfl _ _ _ _ rfl _ _ rfl rfl _ _ happ ?_)
  go_wp2
  go_ret
  rw [HQ.out]
  exact ⟨_, _, rfl, FIN.out.1, FIN.out.2.1, FIN.out.2.2.1, FIN.out.2.2.2⟩

end Go.Proofs.YthhpmeaajgjdeaaDoor
