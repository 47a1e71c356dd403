/- sha256: checkSum. -/
import Derived.Test.YthhpmeaajgjdeaaDoorX24
import Derived.StillTailTactics
import Derived.Deep.CutRange

set_option linter.unusedVariables false
set_option linter.unusedSimpArgs false

/- Qc: sha256: RecordApproved and checkSum over this program. -/
namespace Go.Proofs.YthhpmeaajgjdeaaDoor
open Go Go.RowKit

set_option maxHeartbeats 400000 in
theorem recordC (w : World) : Calls Tryd.prog 103 #[] w fun e w' => e = .returned (.tuple #[]) ∧ w' = w := by
  have h106 : ∀ w, (callFunc 106 #[]).run Tryd.prog w = .ok (.value (.int .u8 0)) w := fun w => run_callFunc_extern (e := fun _ => pure (.int .u8 0)) Tryd.func106 (by kernel_rfl) (by kernel_rfl) (by kernel_rfl) (by kernel_rfl) #[] w
  have h107 : ∀ w, (callFunc 107 #[.int .u8 2]).run Tryd.prog w = .ok (.value (.tuple #[])) w := fun w => run_callFunc_extern (e := Extern.CryptoHooks.nothing) Tryd.func107 (by kernel_rfl) (by kernel_rfl) (by kernel_rfl) (by kernel_rfl) _ w
  go_enter Tryd.func103, Tryd.ntmps103
  go_wp2
  go_end0
  exact ⟨rfl, rfl⟩

/-- Where the padding's number lies. -/
def padT (len : Int) : Nat := if len % 64 < 56 then (56 - len % 64).toNat else (120 - len % 64).toNat
def padBytes (len : Int) : List UInt8 := (put64 ((List.replicate 72 0).set 0 (byteOf 128)) (padT len) (len * 8 % 18446744073709551616)).take (padT len + 8)
/-- The sum of a digest. -/
def sumOf (s : S8) : List UInt8 := put32 (put32 (put32 (put32 (put32 (put32 (put32 (put32 (List.replicate 32 0) 0 s.a) 4 s.b) 8 s.c) 12 s.d) 16 s.e) 20 s.f) 24 s.g) 28 s.h
def Dg.sum (K : Nat → Int) (d : Dg) : List UInt8 := sumOf (d.write K (padBytes d.len)).s

theorem sumOf_length (s : S8) : (sumOf s).length = 32 := by simp [sumOf, put32_length]

theorem len186 : Tryd.prog.arrayLen 186 = 72 := by kernel_rfl
theorem size5' (w : World) : (sizeOf (Tryd.prog.elem 186)).run Tryd.prog w = .ok 1 w := by kernel_rfl
theorem slice186 (g t : Nat) (h : t ≤ 64) (w : World) : (Instr.sliceAt 186 (.pointer (some ⟨g, 0, none⟩)) none (some (.int .u64 ((t : Int) + 8))) none).run Tryd.prog w = .ok (.slice (some ⟨g, 0, none⟩) (t + 8) 72) w := by
  have hu : Tryd.prog.underlying 186 = some (.array (Tryd.prog.arrayLen 186) (Tryd.prog.elem 186)) := by kernel_rfl
  rw [run_sliceAt_array_h w 186 ⟨g, 0, none⟩ hu .u64 ((t : Int) + 8) (by omega) (by rw [len186]; omega), size5', len186]
  simp only [Result.andThen, slicedAt]
  rw [if_neg (by omega)]
  simp [Addr.add]
  omega

theorem DgAt.keeps {w w1 : World} {T : Nat → Prop} {db : Nat} {d : Dg} (h : DgAt w db d) (hk : Keeps T w w1) (hT : ¬ T db) : DgAt w1 db d := DgAt.mk' h.ok (hk.heap h.blk hT)
theorem ByAt.keeps {w w1 : World} {S : Nat → Prop} {b : Nat} {T : TypeId} {x : List UInt8} (h : ByAt w b T x) (hk : Keeps S w w1) (hS : ¬ S b) : ByAt w1 b T x := hk.heap h hS

theorem info181 {x : List UInt8} (hx : x.length = 32) : (Tryd.prog.info? 181).map (·.size) = some (Lib.byteCells x).toArray.size := by
  have h : (Tryd.prog.info? 181).map (·.size) = some 32 := by kernel_rfl
  rw [h, List.size_toArray, Lib.byteCells_length, hx]
theorem load181 {w : World} {b : Nat} {x : List UInt8} (h : ByAt w b 181 x) (hx : x.length = 32) : (Instr.loadAt 181 (.pointer (some ⟨b, 0, none⟩))).run Tryd.prog w = .ok (.agg (Lib.byteCells x).toArray) w := by
  have hu : Tryd.prog.underlying 181 = some (.array (Tryd.prog.arrayLen 181) (Tryd.prog.elem 181)) := by kernel_rfl
  simp only [Instr.loadAt, Instr.sureAddr, Sem.run_bind, Sem.run_pure, Result.andThen]
  exact run_loadVar_row w b 181 181 _ (0, 0) _ h hu rfl (info181 hx)
theorem store181 {w : World} {b : Nat} {x y : List UInt8} (h : ByAt w b 181 y) (hy : y.length = 32) (hx : x.length = 32) : (Instr.storeAt 181 (.pointer (some ⟨b, 0, none⟩)) (.agg (Lib.byteCells x).toArray)).run Tryd.prog w = .ok () (w.setRow b (Lib.byteCells x).toArray) := by
  simp only [Instr.storeAt, Instr.sureAddr, Sem.run_bind, Sem.run_pure, Result.andThen]
  exact run_storeVar_row w b 181 181 _ _ h (info181 hx) (by simp [Lib.byteCells_length, hx, hy]) (by simp [Lib.byteCells, Value.oneCell'])

set_option maxHeartbeats 1000000 in
set_option maxRecDepth 10000 in
/-- From the padding on. -/
theorem checkSum (db : Nat) (d : Dg) (K : Nat → Int) (w : World) (h : DgAt w db d) (hs : d.s.Ok) (hK : Kat w K) (h7 : 7 < w.heap.size) (h7d : ¬ 7 = db) :
    Calls Tryd.prog 104 #[.pointer (some ⟨db, 0, none⟩)] w fun e w' => e = .returned (.agg (Lib.byteCells (d.sum K)).toArray) ∧ w'.cell? ⟨db, 74, none⟩ = some (.bool false) ∧ Keeps (fun k => k = db) w w' := by
  have hok := h.ok
  have hW := h
  obtain ⟨s, x, nx, len⟩ := d
  obtain ⟨hblk, hx, hnx, hmod, hl0, hl1⟩ := h
  simp only at *
  obtain ⟨i72, i73, i74⟩ := dgC_get s x nx len hx
  have c73 : w.cell? ⟨db, 73, none⟩ = some (.int .u64 len) := by rw [Lib.cell_of_heap hblk]; exact i73
  have hdb := Lib.lt_of_heap hblk
  have hne1 : ¬ w.heap.size = db := by omega
  have hne2 : ¬ w.heap.size + 1 = db := by omega
  obtain ⟨t, ht⟩ : ∃ t, t = padT len := ⟨_, rfl⟩
  have hpad : padBytes len = (put64 ((List.replicate 72 0).set 0 (byteOf 128)) t (len * 8 % 18446744073709551616)).take (t + 8) := by rw [ht]; rfl
  have hpl : (padBytes len).length = t + 8 := by rw [hpad, List.length_take, put64_length]; simp; rw [ht, padT]; split <;> omega
  have ht64 : t ≤ 64 := by rw [ht, padT]; split <;> omega
  have hn0 : ((Dg.write K ⟨s, x, nx, len⟩ (padBytes len)).nx : Int) = 0 := by
    rw [Dg.write_nx K _ _ hok (by omega), hpl]
    simp only
    have ht' := ht
    unfold padT at ht'
    split at ht' <;> omega
  have hwr : IntKind.u64.wrap (len * 8) = len * 8 % 18446744073709551616 := IntKind.wrap_u64 _
  have hsl := slice186 (w.heap.size + 1) t ht64
  have hBy : ∀ (o1 : Obj), ByAt ((w.alloc o1).alloc (.cells (Tryd.zeroCells186.setIfInBounds 0 (.int .u8 128)) 186)) (w.heap.size + 1) 186 ((List.replicate 72 0).set 0 (byteOf 128)) := fun o1 => by
    rw [ByAt, show w.heap.size + 1 = (w.alloc o1).heap.size by simp, heap_alloc_new]; rfl
  have hkA : ∀ (o1 o2 : Obj), Keeps (fun _ => False) w ((w.alloc o1).alloc o2) := fun o1 o2 => ((Keeps.refl _ w).alloc _).alloc _
  have hsA : ∀ (o1 o2 : Obj), ((w.alloc o1).alloc o2).heap.size = w.heap.size + 2 := fun o1 o2 => by simp
  have HH := Lib.hid (And.intro hok (And.intro hs (And.intro hK (And.intro hW (And.intro hpl (And.intro hpad (And.intro hn0 (And.intro hBy (And.intro hkA hsA)))))))))
  have HT := Lib.hid ht
  clear hnx hmod hblk hK i72 i73 i74 hok hs hW hpl hpad hn0 hBy hkA hsA
  go_enter Tryd.func104, Tryd.ntmps104
  go_upto_if 15 with fail
  go_cut [5] from 13 to 21 (fun u wx => u = .int .u64 (t : Int) ∧ ByAt wx (w.heap.size + 1) 186 ((List.replicate 72 0).set 0 (byteOf 128)) ∧ ByAt wx w.heap.size 181 (List.replicate 32 0) ∧ Keeps (fun _ => False) w wx ∧ wx.heap.size = w.heap.size + 2)
  case first =>
    have hB0 : ∀ (o1 : Obj), ByAt ((w.alloc (.cells (Lib.byteCells (List.replicate 32 0)).toArray 181)).alloc o1) w.heap.size 181 (List.replicate 32 0) := fun o1 => heap_alloc2_old w _ _
    by_cases h56 : len % 64 < 56
    · have hq : (56 : Int) - len % 64 = t := by rw [ht, padT, if_pos h56]; omega
      clear ht
      go_wp2_with fail
      go_meet
      exact ⟨rfl, HH.out.2.2.2.2.2.2.2.1 _, hB0 _, HH.out.2.2.2.2.2.2.2.2.1 _ _, HH.out.2.2.2.2.2.2.2.2.2 _ _⟩
    · have hq : (120 : Int) - len % 64 = t := by rw [ht, padT, if_neg h56]; omega
      clear ht
      go_wp2_with fail
      go_meet
      exact ⟨rfl, HH.out.2.2.2.2.2.2.2.1 _, hB0 _, HH.out.2.2.2.2.2.2.2.2.1 _ _, HH.out.2.2.2.2.2.2.2.2.2 _ _⟩
  case rest =>
    obtain ⟨rfl, hB1, hB0, hk1, hs1⟩ := hcut
    obtain ⟨hok, hs, hK, hW, hpl, hpad, hn0, -, -, -⟩ := HH.out
    clear ht HH
    have h72 : ¬ 72 = t := by omega
    have hc1 := bePut64 (w.heap.size + 1) t 8 (72 - t) 186 _ (len * 8 % 18446744073709551616) wc hB1 (by omega) (by omega) (by simp; omega) (by omega) (by omega)
    have HC1 := Lib.hid hc1
    have H1 := Lib.hid (And.intro hok (And.intro hs (And.intro hK (And.intro hW (And.intro hpl (And.intro hpad (And.intro hn0 (And.intro hB0 hk1))))))))
    clear hc1 hok hs hK hW hpl hpad hn0 hB0 hB1 hk1
    go_wp2_with (go_at_call 108; refine HC1.out.mono ?_; rintro e w2 ⟨rfl, hp⟩; refine Hid.out ?_)
    refine Lib.hid ?_
    obtain ⟨hok, hs, hK, hW, hpl, hpad, hn0, hB0, hk1⟩ := H1.out
    obtain ⟨hB2, hk2⟩ := hp
    have hsz2 := hk2.size
    have hW2 : DgAt w2 db ⟨s, x, nx, len⟩ := (hW.keeps hk1 fun h => h).keeps hk2 (by omega)
    have hK2 : Kat w2 K := (hK.keeps hk1 fun h => h).keeps hk2 (by omega)
    have hB02 := hB0.keeps hk2 (by omega)
    have hpl2 := put64_length ((List.replicate 72 0).set 0 (byteOf 128)) t (len * 8 % 18446744073709551616)
    rw [List.length_set, List.length_replicate] at hpl2
    have hc2 := dgWrite db ⟨s, x, nx, len⟩ (w.heap.size + 1) 0 (t + 8) 72 (padBytes len) K w2 hW2 hpl (by omega) (by omega) (fun k hk => by
      rw [Nat.zero_add, hB2.cell k (by omega), hpad, byteAt_take _ _ _ hk]; rfl) hK2 (by omega) (by omega) hne2 h7d
    have hs2 := Dg.write_s K ⟨s, x, nx, len⟩ (padBytes len) hs
    have hrefl : Dg.sum K ⟨s, x, nx, len⟩ = sumOf (Dg.write K ⟨s, x, nx, len⟩ (padBytes len)).s := rfl
    have hkw2 : Keeps (fun k => k = db) w w2 := (hk1.mono fun _ _ h => h.elim).trans hk2 fun j hj => Or.inr (by omega)
    generalize hd' : Dg.write K ⟨s, x, nx, len⟩ (padBytes len) = d' at *
    have HC2 := Lib.hid hc2
    have HR := Lib.hid hrefl
    have H2 := Lib.hid (And.intro hs2 (And.intro hn0 (And.intro hB02 hkw2)))
    clear hc2 hs2 hd' hrefl hn0 hB0 hB02 hB2 hpl2 hK2 hW2 hok hs hK hW hpl hpad hk1 hk2 hkw2 H1
    go_wp2_with (go_at_call 102; refine HC2.out.mono ?_; rintro e w3 ⟨rfl, hp⟩; refine Hid.out ?_)
    refine Lib.hid ?_
    obtain ⟨hs2, hn0, hB02, hkw2⟩ := H2.out
    obtain ⟨hD3, hk3⟩ := hp
    have hsz3 := hk3.size
    have hB3 := hB02.keeps hk3 hne1
    have hkw3 := hkw2.same hk3
    obtain ⟨s', x', nx', len'⟩ := d'
    simp only at hn0 hs2
    have hx' := hD3.size
    have hb3 := hD3.blk
    simp only at hx' hb3
    obtain ⟨j72, j73, j74⟩ := dgC_get s' x' nx' len' hx'
    have d72 : w3.cell? ⟨db, 72, none⟩ = some (.int .i64 0) := by rw [Lib.cell_of_heap hb3, ← hn0]; exact j72
    have hdb3 := Lib.lt_of_heap hb3
    have hne3 : ¬ w3.heap.size = db := by omega
    have H3 := Lib.hid (And.intro hs2 (And.intro hB3 (And.intro hkw3 (And.intro hb3 (And.intro j74 hx')))))
    clear hs2 hn0 hB02 hkw2 hD3 hk3 hB3 hkw3 hb3 j72 j73 j74 H2 HC2 hx'
    go_upto_region 15 with fail
    obtain ⟨hs', hB3, hkw3, hb3, j74, hx'⟩ := H3.out
    have hI0 : ByAt (w3.alloc (.cells (Lib.byteCells (List.replicate 32 0)).toArray 181)) w3.heap.size 181 (List.replicate 32 0) := heap_alloc_new w3 _
    have hI1 := ((Keeps.refl (fun _ => False) w3).alloc (.cells (Lib.byteCells (List.replicate 32 0)).toArray 181)).heap hb3 (fun h => h)
    have hI2 := hkw3.alloc (.cells (Lib.byteCells (List.replicate 32 0)).toArray 181)
    have hI3 : ByAt (w3.alloc (.cells (Lib.byteCells (List.replicate 32 0)).toArray 181)) w.heap.size 181 (List.replicate 32 0) := ((Keeps.refl (fun _ => False) w3).alloc _).heap hB3 (fun h => h)
    have hlt : w.heap.size < w3.heap.size := by omega
    clear hB3 hkw3 hb3 H3
    change Code.wp Tryd.prog _ _ _ (w3.alloc (.cells (Lib.byteCells (List.replicate 32 0)).toArray 181))
    generalize w3.alloc (.cells (Lib.byteCells (List.replicate 32 0)).toArray 181) = w4 at *
    generalize hob : w3.heap.size = ob at *
    have HRR := HR
    clear hob HR HC1 hsl hwr hsz2 hsz3 d72 c73
    have hodb : ¬ ob = db := hne3
    have how : ¬ ob = w.heap.size := by omega
    have hO : w.heap.size ≤ ob := by omega
    have h74 := j74
    have cc0 : w4.drew.cell? ⟨db, 0, none⟩ = some (.int .u32 s'.a) := (Lib.cell_of_heap (w := w4.drew) hI1 0).trans rfl
    have HC0 := Lib.hid (bePut32 ob 0 32 32 181 _ s'.a w4.drew hI0 (by omega) (by omega) (by simp [put32_length]) hs'.a.1 hs'.a.2)
    have HI := Lib.hid (And.intro hI1 (And.intro hI2 hI3))
    clear hI0 hI1 hI2 hI3
    go_still_tail 6, (by kernel_rfl)
    go_wp2_with (go_at_call 109; refine HC0.out.mono ?_; rintro e w5 ⟨rfl, hp⟩; refine Hid.out ?_)
    refine Lib.hid ?_
    obtain ⟨hI0, hk⟩ := hp
    obtain ⟨hJ1, hJ2, hJ3⟩ := HI.out
    have hI1 := hk.heap hJ1 (fun h => hodb h.symm)
    have hI2 := hJ2.drew.trans hk fun j hj => Or.inr (by omega)
    have hI3 := ByAt.keeps (w := w4.drew) hJ3 hk (fun h => how h.symm)
    clear hJ1 hJ2 hJ3 hk HI HC0 cc0
    go_upto_region 16 with fail
    have cc1 : w5.drew.cell? ⟨db, 1, none⟩ = some (.int .u32 s'.b) := (Lib.cell_of_heap (w := w5.drew) hI1 1).trans rfl
    have HC1 := Lib.hid (bePut32 ob 4 28 28 181 _ s'.b w5.drew hI0 (by omega) (by omega) (by simp [put32_length]) hs'.b.1 hs'.b.2)
    have HI := Lib.hid (And.intro hI1 (And.intro hI2 hI3))
    clear hI0 hI1 hI2 hI3
    go_still_tail 6, (by kernel_rfl)
    go_wp2_with (go_at_call 109; refine HC1.out.mono ?_; rintro e w6 ⟨rfl, hp⟩; refine Hid.out ?_)
    refine Lib.hid ?_
    obtain ⟨hI0, hk⟩ := hp
    obtain ⟨hJ1, hJ2, hJ3⟩ := HI.out
    have hI1 := hk.heap hJ1 (fun h => hodb h.symm)
    have hI2 := hJ2.drew.trans hk fun j hj => Or.inr (by omega)
    have hI3 := ByAt.keeps (w := w5.drew) hJ3 hk (fun h => how h.symm)
    clear hJ1 hJ2 hJ3 hk HI HC1 cc1
    go_upto_region 17 with fail
    have cc2 : w6.drew.cell? ⟨db, 2, none⟩ = some (.int .u32 s'.c) := (Lib.cell_of_heap (w := w6.drew) hI1 2).trans rfl
    have HC2 := Lib.hid (bePut32 ob 8 24 24 181 _ s'.c w6.drew hI0 (by omega) (by omega) (by simp [put32_length]) hs'.c.1 hs'.c.2)
    have HI := Lib.hid (And.intro hI1 (And.intro hI2 hI3))
    clear hI0 hI1 hI2 hI3
    go_still_tail 6, (by kernel_rfl)
    go_wp2_with (go_at_call 109; refine HC2.out.mono ?_; rintro e w7 ⟨rfl, hp⟩; refine Hid.out ?_)
    refine Lib.hid ?_
    obtain ⟨hI0, hk⟩ := hp
    obtain ⟨hJ1, hJ2, hJ3⟩ := HI.out
    have hI1 := hk.heap hJ1 (fun h => hodb h.symm)
    have hI2 := hJ2.drew.trans hk fun j hj => Or.inr (by omega)
    have hI3 := ByAt.keeps (w := w6.drew) hJ3 hk (fun h => how h.symm)
    clear hJ1 hJ2 hJ3 hk HI HC2 cc2
    go_upto_region 18 with fail
    have cc3 : w7.drew.cell? ⟨db, 3, none⟩ = some (.int .u32 s'.d) := (Lib.cell_of_heap (w := w7.drew) hI1 3).trans rfl
    have HC3 := Lib.hid (bePut32 ob 12 20 20 181 _ s'.d w7.drew hI0 (by omega) (by omega) (by simp [put32_length]) hs'.d.1 hs'.d.2)
    have HI := Lib.hid (And.intro hI1 (And.intro hI2 hI3))
    clear hI0 hI1 hI2 hI3
    go_still_tail 6, (by kernel_rfl)
    go_wp2_with (go_at_call 109; refine HC3.out.mono ?_; rintro e w8 ⟨rfl, hp⟩; refine Hid.out ?_)
    refine Lib.hid ?_
    obtain ⟨hI0, hk⟩ := hp
    obtain ⟨hJ1, hJ2, hJ3⟩ := HI.out
    have hI1 := hk.heap hJ1 (fun h => hodb h.symm)
    have hI2 := hJ2.drew.trans hk fun j hj => Or.inr (by omega)
    have hI3 := ByAt.keeps (w := w7.drew) hJ3 hk (fun h => how h.symm)
    clear hJ1 hJ2 hJ3 hk HI HC3 cc3
    go_upto_region 19 with fail
    have cc4 : w8.drew.cell? ⟨db, 4, none⟩ = some (.int .u32 s'.e) := (Lib.cell_of_heap (w := w8.drew) hI1 4).trans rfl
    have HC4 := Lib.hid (bePut32 ob 16 16 16 181 _ s'.e w8.drew hI0 (by omega) (by omega) (by simp [put32_length]) hs'.e.1 hs'.e.2)
    have HI := Lib.hid (And.intro hI1 (And.intro hI2 hI3))
    clear hI0 hI1 hI2 hI3
    go_still_tail 6, (by kernel_rfl)
    go_wp2_with (go_at_call 109; refine HC4.out.mono ?_; rintro e w9 ⟨rfl, hp⟩; refine Hid.out ?_)
    refine Lib.hid ?_
    obtain ⟨hI0, hk⟩ := hp
    obtain ⟨hJ1, hJ2, hJ3⟩ := HI.out
    have hI1 := hk.heap hJ1 (fun h => hodb h.symm)
    have hI2 := hJ2.drew.trans hk fun j hj => Or.inr (by omega)
    have hI3 := ByAt.keeps (w := w8.drew) hJ3 hk (fun h => how h.symm)
    clear hJ1 hJ2 hJ3 hk HI HC4 cc4
    go_upto_region 20 with fail
    have cc5 : w9.drew.cell? ⟨db, 5, none⟩ = some (.int .u32 s'.f) := (Lib.cell_of_heap (w := w9.drew) hI1 5).trans rfl
    have HC5 := Lib.hid (bePut32 ob 20 12 12 181 _ s'.f w9.drew hI0 (by omega) (by omega) (by simp [put32_length]) hs'.f.1 hs'.f.2)
    have HI := Lib.hid (And.intro hI1 (And.intro hI2 hI3))
    clear hI0 hI1 hI2 hI3
    go_still_tail 6, (by kernel_rfl)
    go_wp2_with (go_at_call 109; refine HC5.out.mono ?_; rintro e w10 ⟨rfl, hp⟩; refine Hid.out ?_)
    refine Lib.hid ?_
    obtain ⟨hI0, hk⟩ := hp
    obtain ⟨hJ1, hJ2, hJ3⟩ := HI.out
    have hI1 := hk.heap hJ1 (fun h => hodb h.symm)
    have hI2 := hJ2.drew.trans hk fun j hj => Or.inr (by omega)
    have hI3 := ByAt.keeps (w := w9.drew) hJ3 hk (fun h => how h.symm)
    clear hJ1 hJ2 hJ3 hk HI HC5 cc5
    go_upto_region 21 with fail
    have cc6 : w10.drew.cell? ⟨db, 6, none⟩ = some (.int .u32 s'.g) := (Lib.cell_of_heap (w := w10.drew) hI1 6).trans rfl
    have HC6 := Lib.hid (bePut32 ob 24 8 8 181 _ s'.g w10.drew hI0 (by omega) (by omega) (by simp [put32_length]) hs'.g.1 hs'.g.2)
    have HI := Lib.hid (And.intro hI1 (And.intro hI2 hI3))
    clear hI0 hI1 hI2 hI3
    go_still_tail 6, (by kernel_rfl)
    go_wp2_with (go_at_call 109; refine HC6.out.mono ?_; rintro e w11 ⟨rfl, hp⟩; refine Hid.out ?_)
    refine Lib.hid ?_
    obtain ⟨hI0, hk⟩ := hp
    obtain ⟨hJ1, hJ2, hJ3⟩ := HI.out
    have hI1 := hk.heap hJ1 (fun h => hodb h.symm)
    have hI2 := hJ2.drew.trans hk fun j hj => Or.inr (by omega)
    have hI3 := ByAt.keeps (w := w10.drew) hJ3 hk (fun h => how h.symm)
    clear hJ1 hJ2 hJ3 hk HI HC6 cc6
    have c74 : w11.cell? ⟨db, 74, none⟩ = some (.bool false) := (Lib.cell_of_heap hI1 74).trans h74
    have HJ := Lib.hid (And.intro hI0 (And.intro hI1 (And.intro hI2 hI3)))
    clear hI0 hI1 hI2 hI3
    go_upto_region 23 with fail
    obtain ⟨hI0, hI1, hI2, hI3⟩ := HJ.out
    clear HJ c74
    have cc7 : w11.drew.cell? ⟨db, 7, none⟩ = some (.int .u32 s'.h) := (Lib.cell_of_heap (w := w11.drew) hI1 7).trans rfl
    have HC7 := Lib.hid (bePut32 ob 28 4 4 181 _ s'.h w11.drew hI0 (by omega) (by omega) (by simp [put32_length]) hs'.h.1 hs'.h.2)
    have HI := Lib.hid (And.intro hI1 (And.intro hI2 hI3))
    clear hI0 hI1 hI2 hI3
    go_still_tail 6, (by kernel_rfl)
    go_wp2_with (go_at_call 109; refine HC7.out.mono ?_; rintro e w12 ⟨rfl, hp⟩; refine Hid.out ?_)
    refine Lib.hid ?_
    obtain ⟨hI0, hk⟩ := hp
    obtain ⟨hJ1, hJ2, hJ3⟩ := HI.out
    have hI1 := hk.heap hJ1 (fun h => hodb h.symm)
    have hI2 := hJ2.drew.trans hk fun j hj => Or.inr (by omega)
    have hI3 := ByAt.keeps (w := w11.drew) hJ3 hk (fun h => how h.symm)
    clear hJ1 hJ2 hJ3 hk HI HC7 cc7
    go_upto_region 24 with fail
    have hu181 : Tryd.prog.underlying 181 = some (.array (Tryd.prog.arrayLen 181) (Tryd.prog.elem 181)) := by kernel_rfl
    refine wp_region_lit ?_
    refine wpList_load_row rfl 181 _ rfl ob rfl 181 _ (0, 0) _ hI0 hu181 rfl (info181 (sumOf_length s')) ?_
    have hfin := setRow_heap w12 w.heap.size _ (Lib.byteCells (sumOf s')).toArray 181 _ hI3
    have hkf := hI2.setRow (Or.inr (Nat.le_refl _)) (Lib.byteCells (sumOf s')).toArray
    refine wpList_store_row rfl 181 _ _ rfl w.heap.size (Lib.byteCells (sumOf s')).toArray rfl rfl 181 _ hI3 (info181 (sumOf_length s')) (by simp [Lib.byteCells_length, sumOf_length]) (by simp [Lib.byteCells, Value.oneCell']) ?_
    refine wpList_nil ?_
    have hfl : (w12.setRow w.heap.size (Lib.byteCells (sumOf s')).toArray).cell? ⟨db, 74, none⟩ = some (.bool false) := by
      have hkk : Keeps (fun j => j = w.heap.size) w12 (w12.setRow w.heap.size (Lib.byteCells (sumOf s')).toArray) := (Keeps.refl _ w12).setRow (by exact Or.inl rfl) _
      exact hkk.cell ((Lib.cell_of_heap hI1 74).trans h74) (fun h => hne1 h.symm)
    have FIN := Lib.hid (And.intro hfin (And.intro hfl hkf))
    clear hfin hkf hI0 hI1 hI2 hI3 h74 hfl
    go_wp2
    refine bodyPost_ret (results_cell_row rfl _ _ w.heap.size 181 _ (0, 0) _ rfl FIN.out.1 hu181 rfl (info181 (sumOf_length s'))) rfl ⟨?_, FIN.out.2⟩
    rw [HRR.out]

end Go.Proofs.YthhpmeaajgjdeaaDoor
