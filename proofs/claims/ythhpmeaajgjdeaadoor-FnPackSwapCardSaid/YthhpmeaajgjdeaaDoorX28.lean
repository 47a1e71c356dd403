/- MultiWriter, the little-endian writing, and the frame of DumpTo. -/
import Derived.Test.YthhpmeaajgjdeaaDoorX27

set_option linter.unusedVariables false
set_option linter.unusedSimpArgs false

/- Rc: io.MultiWriter; writeLeUint32; the writer of numbers that DumpTo makes. -/
namespace Go.Proofs.YthhpmeaajgjdeaaDoor
open Go Go.RowKit

theorem info99 : (Tryd.prog.info? 99).map (fun i => (i.zero, i.size, i.bytes)) = some (some .nilIface, 1, 16) := by kernel_rfl

theorem makeW (W : World) : (Instr.makeSlice 132 (.int .i64 0) (.int .i64 2)).run Tryd.prog W = .ok (.slice (some ⟨W.heap.size, 0, none⟩) 0 2) (W.alloc (.cells #[.nilIface, .nilIface] 99)) := by
  obtain ⟨i0, hi, hz0, hz1, hz2⟩ := info_parts info99
  have h := run_makeSlice (P := Tryd.prog) W 132 99 i0 .nilIface Tryd.underlying132 hi hz0 .i64 .i64 0 2 (by omega) (by omega) (by rw [hz1]; decide) (by rw [hz2]; decide) (by omega)
  rw [h, hz1, show madeCells Value.nilIface.cells ((2 : Int).toNat * 1) = #[.nilIface, .nilIface] by kernel_rfl]
  rfl
theorem notMw {t : TypeId} (ht : ¬ t = 133) (v : Value) (w : World) : (Instr.typeAssert (.iface t v) 99 133 true).run Tryd.prog w = .ok (.tuple #[.pointer none, .bool false]) w := by
  have hu := Tryd.underlying133
  have hz : Tryd.t133.zero = some (.pointer none) := by kernel_rfl
  simp [Instr.typeAssert, run_underlying hu, ht, zeroValue, hz]
theorem appW0 (W : World) (g b : Nat) (x y z : Value) (h : W.heap[g]? = some (.cells #[x, y] 99 (0, 0))) (hb : W.cell? ⟨b, 0, none⟩ = some z) (hz : z.oneCell' = true) :
    (Builtin.append_ #[132, 132] 132 #[.slice (some ⟨g, 0, none⟩) 0 2, .slice (some ⟨b, 0, none⟩) 1 1]).run Tryd.prog W = .ok (.slice (some ⟨g, 0, none⟩) 1 2) (W.setRow g #[z, y]) := by
  obtain ⟨i0, hi, hz0, hz1, hz2⟩ := info_parts info99
  have hr := run_append_room (P := Tryd.prog) W 132 132 99 i0 Tryd.underlying132 hi g 0 2 #[x, y] h ⟨b, 0, none⟩ 1 1 [z] (by rw [hz1]; rfl) (by
    intro j v hj
    match j, hj with
    | 0, hj => simp at hj; subst hj; exact hb) (by simpa using hz) (by omega) (by rw [hz1]; simp)
  rw [hr, hz1]
  rfl
theorem appW1 (W : World) (g b : Nat) (x y z : Value) (h : W.heap[g]? = some (.cells #[x, y] 99 (0, 0))) (hb : W.cell? ⟨b, 0, none⟩ = some z) (hz : z.oneCell' = true) :
    (Builtin.append_ #[132, 132] 132 #[.slice (some ⟨g, 0, none⟩) 1 2, .slice (some ⟨b, 0, none⟩) 1 1]).run Tryd.prog W = .ok (.slice (some ⟨g, 0, none⟩) 2 2) (W.setRow g #[x, z]) := by
  obtain ⟨i0, hi, hz0, hz1, hz2⟩ := info_parts info99
  have hr := run_append_room (P := Tryd.prog) W 132 132 99 i0 Tryd.underlying132 hi g 1 2 #[x, y] h ⟨b, 0, none⟩ 1 1 [z] (by rw [hz1]; rfl) (by
    intro j v hj
    match j, hj with
    | 0, hj => simp at hj; subst hj; exact hb) (by simpa using hz) (by omega) (by rw [hz1]; simp)
  rw [hr, hz1]
  rfl

set_option maxHeartbeats 1000000 in
set_option maxRecDepth 10000 in
/-- MultiWriter of a buffer and a digest. -/
theorem multiWriterC (q c bb db : Nat) (w : World) (h0 : w.cell? ⟨q, 0, none⟩ = some (.iface 56 (.pointer (some ⟨bb, 0, none⟩)))) (h1 : w.cell? ⟨q, 1, none⟩ = some (.iface 130 (.pointer (some ⟨db, 0, none⟩)))) (hc : 2 ≤ c) :
    Calls Tryd.prog 37 #[.slice (some ⟨q, 0, none⟩) 2 c] w fun e w' => ∃ mb sb, e = .returned (.iface 133 (.pointer (some ⟨mb, 0, none⟩))) ∧ w.heap.size ≤ mb ∧ w.heap.size ≤ sb ∧ w'.cell? ⟨mb, 0, none⟩ = some (.slice (some ⟨sb, 0, none⟩) 2 2) ∧
      w'.cell? ⟨sb, 0, none⟩ = some (.iface 56 (.pointer (some ⟨bb, 0, none⟩))) ∧ w'.cell? ⟨sb, 1, none⟩ = some (.iface 130 (.pointer (some ⟨db, 0, none⟩))) ∧ Keeps (fun _ => False) w w' := by
  have hmk := makeW
  have hn1 := notMw (t := 56) (by decide) (.pointer (some ⟨bb, 0, none⟩))
  have hn2 := notMw (t := 130) (by decide) (.pointer (some ⟨db, 0, none⟩))
  go_enter Tryd.func37, Tryd.ntmps37
  go_wp2
  have k1 := (Keeps.refl (fun _ => False) w).alloc (.cells #[.nilIface, .nilIface] 99)
  have a0 := k1.cell h0 fun h => h
  have a1 := k1.cell h1 fun h => h
  have hg1 := heap_alloc_new w (.cells #[.nilIface, .nilIface] 99)
  generalize w.alloc (.cells #[.nilIface, .nilIface] 99) = w1 at *
  obtain ⟨g, hg⟩ : ∃ g, g = w.heap.size := ⟨_, rfl⟩
  rw [← hg] at hg1 ⊢
  have hglt := Lib.lt_of_heap hg1
  have HG := Lib.hid (And.intro hg (And.intro k1 (And.intro hg1 a1)))
  have H1 := Lib.hid h1
  clear hg k1 hg1 a1 h0 h1
  refine wp_loop_rounds 3 ?_
  rw [rounds_succ]
  go_wp2_with (at_builtin; refine Hid.out ?_)
  refine Lib.hid ?_
  obtain ⟨hg, k1, hg1, a1⟩ := HG.out
  have hq := World.block_lt_of_cell? w1 ⟨q, 0, none⟩ a0
  have kA := (Keeps.refl (fun _ => False) w1).alloc (.cells #[.iface 56 (.pointer (some ⟨bb, 0, none⟩))] 99)
  have hgA := kA.heap hg1 fun h => h
  have happ := appW0 (w1.alloc (.cells #[.iface 56 (.pointer (some ⟨bb, 0, none⟩))] 99)) g w1.heap.size .nilIface .nilIface (.iface 56 (.pointer (some ⟨bb, 0, none⟩))) hgA (by rw [Lib.cell_of_heap (heap_alloc_new w1 _)]; rfl) rfl
  have hg2 := setRow_heap (w1.alloc (.cells #[.iface 56 (.pointer (some ⟨bb, 0, none⟩))] 99)) g _ #[.iface 56 (.pointer (some ⟨bb, 0, none⟩)), .nilIface] 99 _ hgA
  have k2 : Keeps (fun _ => False) w ((w1.alloc (.cells #[.iface 56 (.pointer (some ⟨bb, 0, none⟩))] 99)).setRow g #[.iface 56 (.pointer (some ⟨bb, 0, none⟩)), .nilIface]) := (k1.same kA).setRow (Or.inr (by omega)) _
  refine Lib.wpList_append_run _ rfl _ _ _ _ rfl _ _ rfl rfl _ _ happ ?_
  clear happ kA hgA k1 hg1
  generalize (w1.alloc (.cells #[.iface 56 (.pointer (some ⟨bb, 0, none⟩))] 99)).setRow g #[.iface 56 (.pointer (some ⟨bb, 0, none⟩)), .nilIface] = w2 at *
  have b1 := k2.cell H1.out fun h => h
  have HG2 := Lib.hid (And.intro hg (And.intro k2 hg2))
  clear a0 a1 hg k2 hg2 HG
  go_wp2
  rw [rounds_succ]
  go_wp2_with (at_builtin; refine Hid.out ?_)
  refine Lib.hid ?_
  obtain ⟨hg, k2, hg2⟩ := HG2.out
  have kA := (Keeps.refl (fun _ => False) w2).alloc (.cells #[.iface 130 (.pointer (some ⟨db, 0, none⟩))] 99)
  have hgA := kA.heap hg2 fun h => h
  have happ := appW1 (w2.alloc (.cells #[.iface 130 (.pointer (some ⟨db, 0, none⟩))] 99)) g w2.heap.size (.iface 56 (.pointer (some ⟨bb, 0, none⟩))) .nilIface (.iface 130 (.pointer (some ⟨db, 0, none⟩))) hgA (by rw [Lib.cell_of_heap (heap_alloc_new w2 _)]; rfl) rfl
  have hg3 := setRow_heap (w2.alloc (.cells #[.iface 130 (.pointer (some ⟨db, 0, none⟩))] 99)) g _ #[.iface 56 (.pointer (some ⟨bb, 0, none⟩)), .iface 130 (.pointer (some ⟨db, 0, none⟩))] 99 _ hgA
  have k3 : Keeps (fun _ => False) w ((w2.alloc (.cells #[.iface 130 (.pointer (some ⟨db, 0, none⟩))] 99)).setRow g #[.iface 56 (.pointer (some ⟨bb, 0, none⟩)), .iface 130 (.pointer (some ⟨db, 0, none⟩))]) := (k2.same kA).setRow (Or.inr (by omega)) _
  refine Lib.wpList_append_run _ rfl _ _ _ _ rfl _ _ rfl rfl _ _ happ ?_
  clear happ kA hgA k2 hg2
  generalize (w2.alloc (.cells #[.iface 130 (.pointer (some ⟨db, 0, none⟩))] 99)).setRow g #[.iface 56 (.pointer (some ⟨bb, 0, none⟩)), .iface 130 (.pointer (some ⟨db, 0, none⟩))] = w3 at *
  have k4 := (Keeps.refl (fun _ => False) w3).alloc (.cells #[.slice (some ⟨g, 0, none⟩) 2 2] 136)
  have hg4 := k4.heap hg3 fun h => h
  have hm4 := heap_alloc_new w3 (.cells #[.slice (some ⟨g, 0, none⟩) 2 2] 136)
  have hsz := k3.size
  have FIN := Lib.hid (And.intro hg (And.intro hsz (And.intro hm4 (And.intro hg4 (k3.same k4)))))
  clear hg hsz hm4 hg4 k3 k4 hg3 HG2 b1 H1
  go_wp2
  rw [rounds_succ]
  go_wp2
  go_ret
  obtain ⟨hg, hsz, hm4, hg4, k⟩ := FIN.out
  exact ⟨w3.heap.size, g, rfl, hsz, by omega, by rw [Lib.cell_of_heap hm4]; rfl, by rw [Lib.cell_of_heap hg4]; rfl, by rw [Lib.cell_of_heap hg4]; rfl, k⟩

end Go.Proofs.YthhpmeaajgjdeaaDoor

/- Rd: writeLeUint32, and the writer of numbers that DumpTo makes; Has; SyncMarkers. -/
namespace Go.Proofs.YthhpmeaajgjdeaaDoor
open Go Go.RowKit

def le4 (x : Int) : List UInt8 := [byteOf (x % 256), byteOf (x / 256 % 256), byteOf (x / 65536 % 256), byteOf (x / 16777216)]

set_option maxHeartbeats 1000000 in
set_option maxRecDepth 10000 in
theorem writeLe (mb sb c2 bb db : Nat) (R : Nat → Option Value) (v : Value) (l : List UInt8) (d : Dg) (K : Nat → Int) (x : Int) (w : World) (hM : MwOk w mb sb c2 bb db v K) (hB : Bf w bb 0 61 R v (Lib.byteCells l)) (hD : DgAt w db d)
    (hv : ∀ k, BfS bb v k → k < w.heap.size) (hx0 : 0 ≤ x) (hx1 : x < 4294967296) (hlim : l.length + 4 ≤ 140737488355328) :
    Calls Tryd.prog 40 #[.iface 133 (.pointer (some ⟨mb, 0, none⟩)), .int .u32 x] w fun e w' => e = .returned .nilIface ∧ MwPut w bb db R v (l ++ le4 x) (d.write K (le4 x)) w' := by
  have hm : ∀ W : World, (method 291 133 (.pointer (some ⟨mb, 0, none⟩)) "Write").run Tryd.prog W = .ok (113, .pointer (some ⟨mb, 0, none⟩)) W := fun _ => by kernel_rfl
  have hk := (Keeps.refl (fun _ => False) w).alloc (.cells #[.int .u8 (x % 256), .int .u8 (x / 256 % 256), .int .u8 (x / 65536 % 256), .int .u8 (x / 16777216)] 5)
  have hdl := Lib.lt_of_heap hD.blk
  have hM' : MwOk (w.alloc (.cells #[.int .u8 (x % 256), .int .u8 (x / 256 % 256), .int .u8 (x / 65536 % 256), .int .u8 (x / 16777216)] 5)) mb sb c2 bb db v K :=
    ⟨hk.cell hM.c0 fun h => h, hk.cell hM.w0 fun h => h, hk.cell hM.w1 fun h => h, hM.c2le, hM.mbS, hM.sbS, hM.dbS, hM.mbd, hM.sbd, hM.kat.keeps hk fun h => h, Nat.lt_of_lt_of_le hM.k7 hk.size, hM.k7S, hM.k7d⟩
  have hnew := heap_alloc_new w (.cells #[.int .u8 (x % 256), .int .u8 (x / 256 % 256), .int .u8 (x / 65536 % 256), .int .u8 (x / 16777216)] 5)
  have hc := mwWrite mb sb c2 bb db R v l d K w.heap.size 0 4 4 (le4 x) _ hM' (hB.keeps hk fun _ _ h => h) (hD.keeps hk fun h => h) rfl (by omega) (by omega) (by omega) (fun k hk => by
    rw [Nat.zero_add, Lib.cell_of_heap hnew]
    have h : k = 0 ∨ k = 1 ∨ k = 2 ∨ k = 3 := by omega
    rcases h with rfl | rfl | rfl | rfl
    · show _ = some (Value.int .u8 ((byteOf _).toNat : Int)); rw [byteOf_u8 _ (by omega) (by omega)]; rfl
    · show _ = some (Value.int .u8 ((byteOf _).toNat : Int)); rw [byteOf_u8 _ (by omega) (by omega)]; rfl
    · show _ = some (Value.int .u8 ((byteOf _).toNat : Int)); rw [byteOf_u8 _ (by omega) (by omega)]; rfl
    · show _ = some (Value.int .u8 ((byteOf _).toNat : Int)); rw [byteOf_u8 _ (by omega) (by omega)]; rfl) (fun h => by have := hv _ h; omega) (by omega) hlim
  have HC := Lib.hid hc
  have HK := Lib.hid hk
  clear hc hM hM' hB hD hv hk hnew
  go_enter Tryd.func40, Tryd.ntmps40
  go_wp2_with (go_at_call 113; refine HC.out.mono ?_; rintro e w1 ⟨rfl, hq⟩; refine Hid.out ?_)
  refine Lib.hid ?_
  have FIN : Hid (MwPut w bb db R v (l ++ le4 x) (d.write K (le4 x)) w1) := by
    obtain ⟨v1, h1, h2, h3, h4⟩ := hq
    refine Lib.hid ⟨v1, h1, ?_, h3, (HK.out.mono fun _ _ h => h.elim).same h4⟩
    rcases h2 with h2 | ⟨j, h2, hj⟩
    · exact Or.inl h2
    · exact Or.inr ⟨j, h2, by have := HK.out.size; omega⟩
  clear hq HC HK
  go_wp2
  go_ret
  exact ⟨rfl, FIN.out⟩

set_option maxHeartbeats 400000 in
/-- Has of the first field: from version 1 on. -/
theorem hasFlags (ver : Int) (w : World) (h0 : w.cell? ⟨0, 0, none⟩ = some (.int .u32 1)) (h1 : w.cell? ⟨1, 0, none⟩ = some (.int .u32 0)) : Calls Tryd.prog 41 #[.int .u32 ver, .int .i64 0] w fun e w' => e = .returned (.bool (decide (1 ≤ ver))) ∧ w' = w := by
  by_cases h : 1 ≤ ver
  · have hd : decide (1 ≤ ver) = true := decide_eq_true h
    go_enter Tryd.func41, Tryd.ntmps41
    go_wp2
    go_ret
    exact ⟨by rw [hd]; rfl, rfl⟩
  · have hd : decide (1 ≤ ver) = false := decide_eq_false h
    go_enter Tryd.func41, Tryd.ntmps41
    go_wp2
    go_ret
    exact ⟨rfl, rfl⟩

end Go.Proofs.YthhpmeaajgjdeaaDoor

/- Re: What is written through DumpTo's two writers, told by the list of what was written. -/
namespace Go.Proofs.YthhpmeaajgjdeaaDoor
open Go Go.RowKit

/-- The digest behind so many writes. -/
def dgs (K : Nat → Int) (cs : List (List UInt8)) : Dg := cs.foldl (Dg.write K) dg0
theorem dgs_snoc (K : Nat → Int) (cs : List (List UInt8)) (p : List UInt8) : dgs K (cs ++ [p]) = (dgs K cs).write K p := by simp [dgs]
theorem foldl_ok (K : Nat → Int) : ∀ (cs : List (List UInt8)) (d : Dg), d.s.Ok → (cs.foldl (Dg.write K) d).s.Ok
  | [], _, h => h
  | c :: cs, d, h => foldl_ok K cs _ (Dg.write_s K d c h)
theorem dgs_ok (K : Nat → Int) (cs : List (List UInt8)) : (dgs K cs).s.Ok := foldl_ok K cs _ dg0_s

/-- What lies fixed while DumpTo writes. -/
structure DEnv (W : World) (cb mb sb c2 bb db : Nat) (K : Nat → Int) : Prop where
  cc : W.cell? ⟨cb, 0, none⟩ = some (.iface 133 (.pointer (some ⟨mb, 0, none⟩)))
  c0 : W.cell? ⟨mb, 0, none⟩ = some (.slice (some ⟨sb, 0, none⟩) 2 c2)
  w0 : W.cell? ⟨sb, 0, none⟩ = some (.iface 56 (.pointer (some ⟨bb, 0, none⟩)))
  w1 : W.cell? ⟨sb, 1, none⟩ = some (.iface 130 (.pointer (some ⟨db, 0, none⟩)))
  c2le : 2 ≤ c2
  cbb : ¬ cb = bb
  cbd : ¬ cb = db
  mbb : ¬ mb = bb
  mbd : ¬ mb = db
  sbb : ¬ sb = bb
  sbd : ¬ sb = db
  dbb : ¬ db = bb
  db1 : db < W.heap.size
  bb1 : bb < W.heap.size
  kat : Kat W K
  k7 : 7 < W.heap.size
  k7b : ¬ 7 = bb
  k7d : ¬ 7 = db

/-- So much is written. -/
def DW (W w : World) (bb db : Nat) (R : Nat → Option Value) (K : Nat → Int) (cs : List (List UInt8)) : Prop :=
  ∃ v, Bf w bb 0 61 R v (Lib.byteCells cs.flatten) ∧ (∀ k, v.ownBlock = some k → W.heap.size ≤ k ∧ k < w.heap.size) ∧ DgAt w db (dgs K cs) ∧ Keeps (fun k => k = bb ∨ k = db) W w

theorem ownBlock_lt {w : World} {b q : Nat} {T : TypeId} {R : Nat → Option Value} {v : Value} {bs : List Value} (h : Bf w b q T R v bs) {k : Nat} (hk : v.ownBlock = some k) : k < w.heap.size := by
  obtain ⟨lr, (⟨rfl, -, -⟩ | ⟨g, cap, cur, rfl, -, hg, -⟩)⟩ := h.cases
  · simp [Value.ownBlock] at hk
  · simp only [Value.ownBlock, Option.some.injEq] at hk
    subst hk
    exact Lib.lt_of_heap hg

section
variable {W w : World} {cb mb sb c2 bb db : Nat} {R : Nat → Option Value} {K : Nat → Int} {cs : List (List UInt8)}

theorem DEnv.ok (h : DEnv W cb mb sb c2 bb db K) {v : Value} (hv : ∀ k, v.ownBlock = some k → W.heap.size ≤ k ∧ k < w.heap.size) (hk : Keeps (fun k => k = bb ∨ k = db) W w) : MwOk w mb sb c2 bb db v K := by
  have l1 := World.block_lt_of_cell? W ⟨mb, 0, none⟩ h.c0
  have l2 := World.block_lt_of_cell? W ⟨sb, 0, none⟩ h.w0
  have l3 := h.db1
  have l4 := h.k7
  simp only at l1 l2
  have ho : ∀ j, j < W.heap.size → ¬ j = bb → ¬ BfS bb v j := by
    rintro j hj hb (e | e)
    · exact hb e
    · have := (hv j e).1
      omega
  exact ⟨hk.cell h.c0 (by simp [h.mbb, h.mbd]), hk.cell h.w0 (by simp [h.sbb, h.sbd]), hk.cell h.w1 (by simp [h.sbb, h.sbd]), h.c2le, ho _ l1 h.mbb, ho _ l2 h.sbb, ho _ l3 h.dbb, h.mbd, h.sbd, h.kat.keeps hk (by simp [h.k7b, h.k7d]), Nat.lt_of_lt_of_le h.k7 hk.size, ho _ l4 h.k7b, h.k7d⟩

theorem DW.put (h : DEnv W cb mb sb c2 bb db K) {v : Value} (hv : ∀ k, v.ownBlock = some k → W.heap.size ≤ k ∧ k < w.heap.size) (hk : Keeps (fun k => k = bb ∨ k = db) W w) {w' : World} {p : List UInt8}
    (hp : MwPut w bb db R v (cs.flatten ++ p) ((dgs K cs).write K p) w') : DW W w' bb db R K (cs ++ [p]) := by
  obtain ⟨v', h1, h2, h3, h4⟩ := hp
  refine ⟨v', by simpa using h1, ?_, by rw [dgs_snoc]; exact h3, ?_⟩
  · intro k e
    refine ⟨?_, ownBlock_lt h1 e⟩
    rcases h2 with h2 | ⟨j, h2, hj⟩
    · exact (hv k (h2 ▸ e)).1
    · rw [h2] at e
      injection e with e
      have := hk.size
      omega
  · refine hk.trans h4 fun j hj => ?_
    rcases hj with (hj | hj) | hj
    · exact Or.inl (Or.inl hj)
    · exact Or.inr (hv j hj).1
    · exact Or.inl (Or.inr hj)

set_option maxHeartbeats 1000000 in
/-- A number written. -/
theorem numC (h : DEnv W cb mb sb c2 bb db K) (hd : DW W w bb db R K cs) (x : Int) (hx0 : 0 ≤ x) (hx1 : x < 4294967296) (hlim : cs.flatten.length + 4 ≤ 140737488355328) :
    Calls Tryd.prog 38 #[.int .u32 x, .pointer (some ⟨cb, 0, none⟩)] w fun e w' => e = .returned (.tuple #[]) ∧ DW W w' bb db R K (cs ++ [le4 x]) := by
  obtain ⟨v, h1, hv, h3, h4⟩ := hd
  have hcb := h4.cell h.cc (by simp [h.cbb, h.cbd])
  have hbw := h4.size
  have hc := writeLe mb sb c2 bb db R v cs.flatten (dgs K cs) K x w (h.ok hv h4) h1 h3 (by
    rintro k (rfl | e)
    · have := h.bb1; omega
    · exact (hv k e).2) hx0 hx1 hlim
  have HC := Lib.hid hc
  have HE := Lib.hid (And.intro h (And.intro hv h4))
  clear hc h h1 hv h3 h4
  go_enter Tryd.func38, Tryd.ntmps38
  go_wp2_with (first
    | (go_at_call 40; refine HC.out.mono ?_; rintro e w1 ⟨rfl, hq⟩)
    | (go_at_call 39; refine (assert_true _).mono ?_; rintro e w2 ⟨rfl, rfl⟩; refine Hid.out ?_))
  refine Lib.hid ?_
  have FIN := Lib.hid (DW.put HE.out.1 HE.out.2.1 HE.out.2.2 hq)
  clear hq HE HC
  go_wp2
  go_end0
  exact ⟨rfl, FIN.out⟩

/-- A string written. -/
theorem strC (h : DEnv W cb mb sb c2 bb db K) (hd : DW W w bb db R K cs) (s : ByteArray) (hlim : cs.flatten.length + s.size ≤ 140737488355328) :
    Calls Tryd.prog 43 #[.iface 133 (.pointer (some ⟨mb, 0, none⟩)), .string s] w fun e w' => e = .returned (.tuple #[.int .i64 s.size, .nilIface]) ∧ DW W w' bb db R K (cs ++ [s.data.toList]) := by
  obtain ⟨v, h1, hv, h3, h4⟩ := hd
  exact (ioWriteString mb sb c2 bb db R v cs.flatten (dgs K cs) K s w (h.ok hv h4) h1 h3 hlim).mono fun e w' hq => ⟨hq.1, DW.put h hv h4 hq.2⟩
end

end Go.Proofs.YthhpmeaajgjdeaaDoor
