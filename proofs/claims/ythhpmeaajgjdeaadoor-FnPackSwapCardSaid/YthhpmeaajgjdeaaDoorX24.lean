/- The big-endian puts; sha256's New and Reset. -/
import Derived.Test.YthhpmeaajgjdeaaDoorX03
import Derived.Test.YthhpmeaajgjdeaaDoorX23

set_option linter.unusedVariables false
set_option linter.unusedSimpArgs false

/- Qa: byteorder: BEPutUint64 and BEPutUint32 over this program. -/
namespace Go.Proofs.YthhpmeaajgjdeaaDoor
open Go Go.RowKit

/-- A block of bytes. -/
def ByAt (w : World) (b : Nat) (T : TypeId) (x : List UInt8) : Prop := w.heap[b]? = some (.cells (Lib.byteCells x).toArray T (0, 0))
def byteOf (z : Int) : UInt8 := UInt8.ofNat z.toNat
theorem byteOf_u8 (z : Int) (h0 : 0 ≤ z) (h1 : z < 256) : ((byteOf z).toNat : Int) = z := by
  rw [byteOf, UInt8.toNat_ofNat']
  omega

theorem ByAt.set {w : World} {b : Nat} {T : TypeId} {x : List UInt8} (h : ByAt w b T x) (i : Nat) (z : Int) (h0 : 0 ≤ z) (h1 : z < 256) : ByAt (w.setCell ⟨b, i, none⟩ (.int .u8 z)) b T (x.set i (byteOf z)) := by
  have hs := Lib.heap_setCell_same (i := i) h (.int .u8 z)
  rw [ByAt, hs]
  simp [Lib.byteCells, List.map_set, byteOf_u8 z h0 h1]

theorem ByAt.cell {w : World} {b : Nat} {T : TypeId} {x : List UInt8} (h : ByAt w b T x) (k : Nat) (hk : k < x.length) : w.cell? ⟨b, k, none⟩ = some (.int .u8 ((x.getD k 0).toNat : Int)) := by
  rw [Lib.cell_of_heap h]
  simp [Lib.byteCells, List.getD_eq_getElem?_getD, List.getElem?_eq_getElem hk]

/-- What the eight and the four bytes of a number make of a row. -/
def put64 (x : List UInt8) (o : Nat) (v : Int) : List UInt8 := (((((((x.set o (byteOf (v / 72057594037927936))).set (o + 1) (byteOf (v / 281474976710656 % 256))).set (o + 2) (byteOf (v / 1099511627776 % 256))).set (o + 3) (byteOf (v / 4294967296 % 256))).set (o + 4) (byteOf (v / 16777216 % 256))).set (o + 5) (byteOf (v / 65536 % 256))).set (o + 6) (byteOf (v / 256 % 256))).set (o + 7) (byteOf (v % 256))
def put32 (x : List UInt8) (o : Nat) (v : Int) : List UInt8 := (((x.set o (byteOf (v / 16777216))).set (o + 1) (byteOf (v / 65536 % 256))).set (o + 2) (byteOf (v / 256 % 256))).set (o + 3) (byteOf (v % 256))
theorem put64_length (x : List UInt8) (o : Nat) (v : Int) : (put64 x o v).length = x.length := by simp [put64]
theorem put32_length (x : List UInt8) (o : Nat) (v : Int) : (put32 x o v).length = x.length := by simp [put32]

set_option maxHeartbeats 1000000 in
theorem run64 (b o n c : Nat) (T : TypeId) (x : List UInt8) (v : Int) (w : World) (h : ByAt w b T x) (hn : 8 ≤ n) (hc : n ≤ c) (hx : o + 8 ≤ x.length) (hv0 : 0 ≤ v) (hv1 : v < 18446744073709551616) :
    Calls Tryd.prog 111 #[.slice (some ⟨b, o, none⟩) n c, .int .u64 v] w fun e w' => e = .returned (.tuple #[]) ∧ ByAt w' b T (put64 x o v) ∧ Keeps (fun k => k = b) w w' := by
  have c0 := h.cell o (by omega)
  have f0 := Lib.frozen_of_heap h o
  have c1 := h.cell (o + 1) (by omega)
  have f1 := Lib.frozen_of_heap h (o + 1)
  have c2 := h.cell (o + 2) (by omega)
  have f2 := Lib.frozen_of_heap h (o + 2)
  have c3 := h.cell (o + 3) (by omega)
  have f3 := Lib.frozen_of_heap h (o + 3)
  have c4 := h.cell (o + 4) (by omega)
  have f4 := Lib.frozen_of_heap h (o + 4)
  have c5 := h.cell (o + 5) (by omega)
  have f5 := Lib.frozen_of_heap h (o + 5)
  have c6 := h.cell (o + 6) (by omega)
  have f6 := Lib.frozen_of_heap h (o + 6)
  have c7 := h.cell (o + 7) (by omega)
  have f7 := Lib.frozen_of_heap h (o + 7)
  have H0 := ByAt.set h o (v / 72057594037927936) (by omega) (by omega)
  have H1 := ByAt.set H0 (o + 1) (v / 281474976710656 % 256) (by omega) (by omega)
  have H2 := ByAt.set H1 (o + 2) (v / 1099511627776 % 256) (by omega) (by omega)
  have H3 := ByAt.set H2 (o + 3) (v / 4294967296 % 256) (by omega) (by omega)
  have H4 := ByAt.set H3 (o + 4) (v / 16777216 % 256) (by omega) (by omega)
  have H5 := ByAt.set H4 (o + 5) (v / 65536 % 256) (by omega) (by omega)
  have H6 := ByAt.set H5 (o + 6) (v / 256 % 256) (by omega) (by omega)
  have H7 := ByAt.set H6 (o + 7) (v % 256) (by omega) (by omega)
  have HK := (((((((((Keeps.refl (fun k => k = b) w).setCell (p := ⟨b, o, none⟩) (by exact Or.inl rfl) (.int .u8 (v / 72057594037927936))).setCell (p := ⟨b, (o + 1), none⟩) (by exact Or.inl rfl) (.int .u8 (v / 281474976710656 % 256))).setCell (p := ⟨b, (o + 2), none⟩) (by exact Or.inl rfl) (.int .u8 (v / 1099511627776 % 256))).setCell (p := ⟨b, (o + 3), none⟩) (by exact Or.inl rfl) (.int .u8 (v / 4294967296 % 256))).setCell (p := ⟨b, (o + 4), none⟩) (by exact Or.inl rfl) (.int .u8 (v / 16777216 % 256))).setCell (p := ⟨b, (o + 5), none⟩) (by exact Or.inl rfl) (.int .u8 (v / 65536 % 256))).setCell (p := ⟨b, (o + 6), none⟩) (by exact Or.inl rfl) (.int .u8 (v / 256 % 256))).setCell (p := ⟨b, (o + 7), none⟩) (by exact Or.inl rfl) (.int .u8 (v % 256)))
  have HH := Lib.hid (And.intro H7 HK)
  clear HK h H0 H1 H2 H3 H4 H5 H6 H7
  go_enter Tryd.func111, Tryd.ntmps111
  go_wp2
  go_end0
  exact ⟨rfl, HH.out.1, HH.out.2⟩

theorem bePut64 (b o n c : Nat) (T : TypeId) (x : List UInt8) (v : Int) (w : World) (h : ByAt w b T x) (hn : 8 ≤ n) (hc : n ≤ c) (hx : o + 8 ≤ x.length) (hv0 : 0 ≤ v) (hv1 : v < 18446744073709551616) :
    Calls Tryd.prog 108 #[.slice (some ⟨b, o, none⟩) n c, .int .u64 v] w fun e w' => e = .returned (.tuple #[]) ∧ ByAt w' b T (put64 x o v) ∧ Keeps (fun k => k = b) w w' := by
  have HC := Lib.hid (run64 b o n c T x v w h hn hc hx hv0 hv1)
  go_enter Tryd.func108, Tryd.ntmps108
  go_wp2_with (go_at_call 111; refine HC.out.mono ?_; rintro e w1 ⟨rfl, h1, h2⟩)
  go_end0
  exact ⟨rfl, h1, h2⟩

set_option maxHeartbeats 1000000 in
theorem run32 (b o n c : Nat) (T : TypeId) (x : List UInt8) (v : Int) (w : World) (h : ByAt w b T x) (hn : 4 ≤ n) (hc : n ≤ c) (hx : o + 4 ≤ x.length) (hv0 : 0 ≤ v) (hv1 : v < 4294967296) :
    Calls Tryd.prog 112 #[.slice (some ⟨b, o, none⟩) n c, .int .u32 v] w fun e w' => e = .returned (.tuple #[]) ∧ ByAt w' b T (put32 x o v) ∧ Keeps (fun k => k = b) w w' := by
  have c0 := h.cell o (by omega)
  have f0 := Lib.frozen_of_heap h o
  have c1 := h.cell (o + 1) (by omega)
  have f1 := Lib.frozen_of_heap h (o + 1)
  have c2 := h.cell (o + 2) (by omega)
  have f2 := Lib.frozen_of_heap h (o + 2)
  have c3 := h.cell (o + 3) (by omega)
  have f3 := Lib.frozen_of_heap h (o + 3)
  have H0 := ByAt.set h o (v / 16777216) (by omega) (by omega)
  have H1 := ByAt.set H0 (o + 1) (v / 65536 % 256) (by omega) (by omega)
  have H2 := ByAt.set H1 (o + 2) (v / 256 % 256) (by omega) (by omega)
  have H3 := ByAt.set H2 (o + 3) (v % 256) (by omega) (by omega)
  have HK := (((((Keeps.refl (fun k => k = b) w).setCell (p := ⟨b, o, none⟩) (by exact Or.inl rfl) (.int .u8 (v / 16777216))).setCell (p := ⟨b, (o + 1), none⟩) (by exact Or.inl rfl) (.int .u8 (v / 65536 % 256))).setCell (p := ⟨b, (o + 2), none⟩) (by exact Or.inl rfl) (.int .u8 (v / 256 % 256))).setCell (p := ⟨b, (o + 3), none⟩) (by exact Or.inl rfl) (.int .u8 (v % 256)))
  have HH := Lib.hid (And.intro H3 HK)
  clear HK h H0 H1 H2 H3
  go_enter Tryd.func112, Tryd.ntmps112
  go_wp2
  go_end0
  exact ⟨rfl, HH.out.1, HH.out.2⟩

theorem bePut32 (b o n c : Nat) (T : TypeId) (x : List UInt8) (v : Int) (w : World) (h : ByAt w b T x) (hn : 4 ≤ n) (hc : n ≤ c) (hx : o + 4 ≤ x.length) (hv0 : 0 ≤ v) (hv1 : v < 4294967296) :
    Calls Tryd.prog 109 #[.slice (some ⟨b, o, none⟩) n c, .int .u32 v] w fun e w' => e = .returned (.tuple #[]) ∧ ByAt w' b T (put32 x o v) ∧ Keeps (fun k => k = b) w w' := by
  have HC := Lib.hid (run32 b o n c T x v w h hn hc hx hv0 hv1)
  go_enter Tryd.func109, Tryd.ntmps109
  go_wp2_with (go_at_call 112; refine HC.out.mono ?_; rintro e w1 ⟨rfl, h1, h2⟩)
  go_end0
  exact ⟨rfl, h1, h2⟩

end Go.Proofs.YthhpmeaajgjdeaaDoor

/- Qb: sha256: New, Reset, RecordApproved; a state's bounds. -/
namespace Go.Proofs.YthhpmeaajgjdeaaDoor
open Go Go.RowKit

structure S8.Ok (s : S8) : Prop where
  a : 0 ≤ s.a ∧ s.a < 4294967296
  b : 0 ≤ s.b ∧ s.b < 4294967296
  c : 0 ≤ s.c ∧ s.c < 4294967296
  d : 0 ≤ s.d ∧ s.d < 4294967296
  e : 0 ≤ s.e ∧ s.e < 4294967296
  f : 0 ≤ s.f ∧ s.f < 4294967296
  g : 0 ≤ s.g ∧ s.g < 4294967296
  h : 0 ≤ s.h ∧ s.h < 4294967296

theorem addS_ok (t r : S8) : (addS t r).Ok := by
  constructor <;> simp only [addS] <;> omega
theorem blkN_ok (K : Nat → Int) (p : List UInt8) (s : S8 × (Nat → Int)) (h : s.1.Ok) : ∀ n, (blkN K p s n).1.Ok
  | 0 => h
  | _ + 1 => addS_ok _ _
theorem blkS_ok (K : Nat → Int) (s : S8) (p : List UInt8) (h : s.Ok) : (blkS K s p).Ok := blkN_ok K p _ h _
theorem longN_ok (K : Nat → Int) (p : List UInt8) (s : S8) (h : s.Ok) : ∀ n, (longN K p s n).Ok
  | 0 => h
  | n + 1 => blkS_ok K _ _ (longN_ok K p s h n)
theorem Dg.write_s (K : Nat → Int) (d : Dg) (p : List UInt8) (h : d.s.Ok) : (d.write K p).s.Ok := by
  have h1 : (Dg.first K { d with len := IntKind.u64.wrap (d.len + p.length) } p).s.Ok := by
    unfold Dg.first
    split
    · exact h
    · split
      · exact h
      · exact blkS_ok _ _ _ h
  have h2 : ∀ (d : Dg) (p : List UInt8), d.s.Ok → (d.whole K p).s.Ok := by
    intro d p h
    unfold Dg.whole
    split
    · exact h
    · exact blkS_ok _ _ _ (longN_ok _ _ _ h _)
  have h3 : ∀ (d : Dg) (p : List UInt8), d.s.Ok → (d.rest p).s.Ok := by
    intro d p h
    unfold Dg.rest
    split
    · exact h
    · exact h
  exact h3 _ _ (h2 _ _ h1)
theorem Dg.write_nx (K : Nat → Int) (d : Dg) (p : List UInt8) (h : d.Ok) (hp : p.length ≤ 9223372036854775807) : ((d.write K p).nx : Int) = (d.nx + p.length) % 64 := by
  have hk := Dg.write_ok K d p h hp
  have hl : (d.write K p).len = IntKind.u64.wrap (d.len + p.length) := by
    unfold Dg.write Dg.rest
    have e : (Dg.whole K (Dg.first K { d with len := IntKind.u64.wrap (d.len + p.length) } p) (d.left p)).len = IntKind.u64.wrap (d.len + p.length) := by
      rw [(Dg.whole_x _ _ _).2.2, Dg.first_len]
    split
    · exact e
    · exact e
  have hw : IntKind.u64.wrap (d.len + p.length) = (d.len + p.length) % 18446744073709551616 := IntKind.wrap_u64 _
  have h1 := hk.mod
  have h2 := h.mod
  have h3 := h.len0
  rw [hl, hw] at h1
  omega

/-- A digest as New makes it. -/
def dg0 : Dg := ⟨⟨1779033703, 3144134277, 1013904242, 2773480762, 1359893119, 2600822924, 528734635, 1541459225⟩, List.replicate 64 0, 0, 0⟩
theorem dg0_ok : dg0.Ok := ⟨by decide, by decide, by decide, by decide, by decide⟩
theorem dg0_s : dg0.s.Ok := by constructor <;> simp only [dg0] <;> omega

set_option maxHeartbeats 2000000 in
set_option maxRecDepth 10000 in
theorem resetC (db : Nat) (s : S8) (x : List UInt8) (nx : Nat) (len : Int) (w : World) (hx : x.length = 64) (h : w.heap[db]? = some (.cells (dgC s (dgRest x nx len)) 163 (0, 0))) :
    Calls Tryd.prog 65 #[.pointer (some ⟨db, 0, none⟩)] w fun e w' => e = .returned (.tuple #[]) ∧ w'.heap[db]? = some (.cells (dgC dg0.s (dgRest x 0 0)) 163 (0, 0)) ∧ Keeps (fun k => k = db) w w' := by
  obtain ⟨i72, i73, i74⟩ := dgC_get s x nx len hx
  have c72 : w.cell? ⟨db, 72, none⟩ = some (.int .i64 nx) := by rw [Lib.cell_of_heap h]; exact i72
  have c73 : w.cell? ⟨db, 73, none⟩ = some (.int .u64 len) := by rw [Lib.cell_of_heap h]; exact i73
  have c74 : w.cell? ⟨db, 74, none⟩ = some (.bool false) := by rw [Lib.cell_of_heap h]; exact i74
  have c0 : w.cell? ⟨db, 0, none⟩ = some (.int .u32 s.a) := by rw [Lib.cell_of_heap h]; rfl
  have c1 : w.cell? ⟨db, 1, none⟩ = some (.int .u32 s.b) := by rw [Lib.cell_of_heap h]; rfl
  have c2 : w.cell? ⟨db, 2, none⟩ = some (.int .u32 s.c) := by rw [Lib.cell_of_heap h]; rfl
  have c3 : w.cell? ⟨db, 3, none⟩ = some (.int .u32 s.d) := by rw [Lib.cell_of_heap h]; rfl
  have c4 : w.cell? ⟨db, 4, none⟩ = some (.int .u32 s.e) := by rw [Lib.cell_of_heap h]; rfl
  have c5 : w.cell? ⟨db, 5, none⟩ = some (.int .u32 s.f) := by rw [Lib.cell_of_heap h]; rfl
  have c6 : w.cell? ⟨db, 6, none⟩ = some (.int .u32 s.g) := by rw [Lib.cell_of_heap h]; rfl
  have c7 : w.cell? ⟨db, 7, none⟩ = some (.int .u32 s.h) := by rw [Lib.cell_of_heap h]; rfl
  have f72 := Lib.frozen_of_heap h 72
  have f73 := Lib.frozen_of_heap h 73
  have f0 := Lib.frozen_of_heap h 0
  have f1 := Lib.frozen_of_heap h 1
  have f2 := Lib.frozen_of_heap h 2
  have f3 := Lib.frozen_of_heap h 3
  have f4 := Lib.frozen_of_heap h 4
  have f5 := Lib.frozen_of_heap h 5
  have f6 := Lib.frozen_of_heap h 6
  have f7 := Lib.frozen_of_heap h 7
  have h8 := dg_set8 w db s dg0.s _ h
  have k8 := dg_keeps (Keeps.refl (fun k => k = db) w) db (Or.inl rfl) dg0.s
  have h9 := Lib.heap_setCell_same (i := 72) h8 (.int .i64 ((0 : Nat) : Int))
  rw [dgC_nx _ _ _ _ _ hx] at h9
  have h10 := Lib.heap_setCell_same (i := 73) h9 (.int .u64 0)
  rw [dgC_len _ _ _ _ _ hx] at h10
  have k9 := k8.setCell (p := ⟨db, 72, none⟩) (by exact Or.inl rfl) (.int .i64 ((0 : Nat) : Int))
  have k10 := k9.setCell (p := ⟨db, 73, none⟩) (by exact Or.inl rfl) (.int .u64 0)
  have FIN := Lib.hid (And.intro h10 k10)
  clear h8 k8 h9 k9 h10 k10 h i72 i73 i74
  go_enter Tryd.func65, Tryd.ntmps65
  go_wp2
  go_end0
  exact ⟨rfl, FIN.out⟩

set_option maxHeartbeats 1000000 in
theorem newDigest (w : World) : Calls Tryd.prog 56 #[] w fun e w' => ∃ db, e = .returned (.pointer (some ⟨db, 0, none⟩)) ∧ DgAt w' db dg0 ∧ w.heap.size ≤ db ∧ Keeps (fun _ => False) w w' := by
  go_enter Tryd.func56, Tryd.ntmps56
  go_wp2_with (go_at_call 65; refine (resetC w.heap.size ⟨0, 0, 0, 0, 0, 0, 0, 0⟩ (List.replicate 64 0) 0 0 _ (by decide) (by rw [heap_alloc_new]; rfl)).mono ?_; rintro e w1 ⟨rfl, hp⟩; refine Hid.out ?_)
  refine Lib.hid ?_
  go_wp2
  go_ret
  exact ⟨w.heap.size, rfl, DgAt.mk' dg0_ok hp.1, Nat.le_refl _, ((Keeps.refl (fun _ => False) w).alloc _).trans hp.2 fun j hj => Or.inr (by omega)⟩

set_option maxHeartbeats 1000000 in
/-- crypto/sha256.New. -/
theorem newC (w : World) : Calls Tryd.prog 36 #[] w fun e w' => ∃ db, e = .returned (.iface 130 (.pointer (some ⟨db, 0, none⟩))) ∧ DgAt w' db dg0 ∧ w.heap.size ≤ db ∧ Keeps (fun _ => False) w w' := by
  go_enter Tryd.func36, Tryd.ntmps36
  go_wp2_with (go_at_call 56; refine (newDigest w).mono ?_; rintro e w1 ⟨db, rfl, hp⟩; refine Hid.out ?_)
  refine Lib.hid ?_
  go_wp2
  go_ret
  exact ⟨db, rfl, hp⟩

end Go.Proofs.YthhpmeaajgjdeaaDoor
