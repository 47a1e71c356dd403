/- The varints, the sync marks and the encoder's plain values. -/
import Derived.Test.YthhpmeaajgjdeaaDoorX02
import Derived.Lib.VarintMem
import Derived.Lib.Varint
import Derived.OpenShut

set_option linter.unusedVariables false
set_option linter.unusedSimpArgs false

/- Ga: PutUvarint and (*Encoder).rawUvarint, rawVarint over this program. -/
namespace Go.Proofs.YthhpmeaajgjdeaaDoor
open Go Go.RowKit

set_option maxHeartbeats 1600000 in
set_option maxRecDepth 100000 in
theorem putUvarint (g o n c x : Nat) (hx : x < 18446744073709551616) (w : World) (hn : (Lib.uvarint x).length ≤ n)
    (hcell : ∀ j, j < (Lib.uvarint x).length → (w.cell? ⟨g, o + j, none⟩).isSome = true ∧ w.frozen? ⟨g, o + j, none⟩ = false) :
    Calls Tryd.prog 58 #[.slice (some ⟨g, o, none⟩) n c, .int .u64 x] w fun e w' => e = .returned (.int .i64 (Lib.uvarint x).length) ∧ w' = w.setCells g o (Lib.byteCells (Lib.uvarint x)) := by
  have hlen := Lib.uvarint_length64 hx
  go_enter Tryd.func58, Tryd.ntmps58
  go_wp2
  go_loopw [1, 5] (fun vx vi wr => ∃ (y : Nat) (pre : List UInt8), vx = .int .u64 y ∧ vi = .int .i64 pre.length ∧ y ≤ x ∧ Lib.uvarint x = pre ++ Lib.uvarint y ∧ wr = w.setCells g o (Lib.byteCells pre))
    (fun vx _ _ => (intOf vx).toNat)
  case atStart => exact ⟨x, [], rfl, rfl, Nat.le_refl _, rfl, rfl⟩
  case round =>
    obtain ⟨y, pre, rfl, rfl, hy, hsplit, rfl⟩ := hrel
    have hpl : pre.length + (Lib.uvarint y).length = (Lib.uvarint x).length := by
      have h2 := congrArg List.length hsplit
      rw [List.length_append] at h2
      omega
    have hyp := Lib.uvarint_pos y
    by_cases h128 : 128 ≤ y
    · have hor : bits .or .u8 ((y : Int) % 256) 128 = ((y % 128 + 128 : Nat) : Int) := by
        rw [Lib.u8_or128_any _ (by omega) (by omega)]
        omega
      have hcx := hcell pre.length (by omega)
      obtain ⟨u0, hu0⟩ := Option.isSome_iff_exists.1 hcx.1
      have hc1 : (w.setCells g o (Lib.byteCells pre)).cell? ⟨g, o + pre.length, none⟩ = some u0 := by
        rw [World.cell?_setCells_out g _ o w _ (fun _ _ => Or.inr (by rw [Lib.byteCells_length]; exact Nat.le_refl _))]; exact hu0
      have hf1 : (w.setCells g o (Lib.byteCells pre)).frozen? ⟨g, o + pre.length, none⟩ = false := by rw [World.frozen?_setCells]; exact hcx.2
      have hsn : (w.setCells g o (Lib.byteCells pre)).setCell ⟨g, o + pre.length, none⟩ (Value.int .u8 ((y % 128 + 128 : Nat) : Int)) = w.setCells g o (Lib.byteCells (pre ++ [(y % 128 + 128).toUInt8])) := by
        have h3 := Lib.setCells_snoc_w g (Value.int .u8 ((y % 128 + 128 : Nat) : Int)) (Lib.byteCells pre) o w
        rw [Lib.byteCells_length] at h3
        rw [h3, Lib.byteCells_snoc pre (by omega)]
      go_wp2
      go_roundw
      case rel =>
        refine ⟨y / 128, pre ++ [(y % 128 + 128).toUInt8], by go_num, by simp, by omega, by rw [hsplit, Lib.uvarint_big h128]; simp, ?_⟩
        rw [← hsn]
        first | rfl | (congr 2; push_cast; omega)
      case measure => simp [intOf]; omega
    · have hsm : Lib.uvarint y = [y.toUInt8] := Lib.uvarint_small (by omega)
      have hcx := hcell pre.length (by omega)
      obtain ⟨u0, hu0⟩ := Option.isSome_iff_exists.1 hcx.1
      have hc1 : (w.setCells g o (Lib.byteCells pre)).cell? ⟨g, o + pre.length, none⟩ = some u0 := by
        rw [World.cell?_setCells_out g _ o w _ (fun _ _ => Or.inr (by rw [Lib.byteCells_length]; exact Nat.le_refl _))]; exact hu0
      have hf1 : (w.setCells g o (Lib.byteCells pre)).frozen? ⟨g, o + pre.length, none⟩ = false := by rw [World.frozen?_setCells]; exact hcx.2
      have hsn : (w.setCells g o (Lib.byteCells pre)).setCell ⟨g, o + pre.length, none⟩ (Value.int .u8 (y : Int)) = w.setCells g o (Lib.byteCells (pre ++ [y.toUInt8])) := by
        have h3 := Lib.setCells_snoc_w g (Value.int .u8 (y : Int)) (Lib.byteCells pre) o w
        rw [Lib.byteCells_length] at h3
        rw [h3, Lib.byteCells_snoc pre (by omega)]
      go_wp2
      go_ret
      refine ⟨?_, ?_⟩
      · rw [hsplit, hsm]; simp
      · rw [hsplit, hsm, ← hsn]

theorem BfPut.refl {w : World} {b q : Nat} {T : TypeId} {R : Nat → Option Value} {v : Value} {bs : List Value} (h : Bf w b q T R v bs) : BfPut w b q T R v bs w := ⟨v, h, Fresh.refl _ _, Keeps.refl _ _⟩

/-- A second writer behind a first. -/
theorem BfPut.trans {w w1 w2 : World} {b q : Nat} {T : TypeId} {R : Nat → Option Value} {v v1 : Value} {bs2 : List Value} (hf : Fresh w v v1) (hk : Keeps (BfS b v) w w1) (h : BfPut w1 b q T R v1 bs2 w2) : BfPut w b q T R v bs2 w2 := by
  obtain ⟨v2, hb, hf2, hk2⟩ := h
  refine ⟨v2, hb, hf.trans hf2 hk.size, hk.trans hk2 fun k hkS => ?_⟩
  rcases hkS with rfl | hkS
  · exact Or.inl (Or.inl rfl)
  · rcases hf with hf | ⟨j, hf, hj⟩
    · exact Or.inl (Or.inr (by rw [← hf]; exact hkS))
    · rw [hf] at hkS; cases hkS; exact Or.inr hj

/-- A writer's work in a world that has only drawn, made blocks and written to those. -/
theorem BfPut.after {w w1 w2 : World} {b q : Nat} {T : TypeId} {R : Nat → Option Value} {v : Value} {bs2 : List Value} (hk : Keeps (fun _ => False) w w1) (h : BfPut w1 b q T R v bs2 w2) : BfPut w b q T R v bs2 w2 := by
  obtain ⟨v2, hb, hf2, hk2⟩ := h
  refine ⟨v2, hb, ?_, (hk.mono (S' := BfS b v) fun _ _ h => h.elim).same hk2⟩
  rcases hf2 with h | ⟨j, h, hj⟩
  · exact Or.inl h
  · exact Or.inr ⟨j, h, Nat.le_trans hk.size hj⟩

end Go.Proofs.YthhpmeaajgjdeaaDoor

/- Gb: (*Encoder).rawUvarint over this program. -/
namespace Go.Proofs.YthhpmeaajgjdeaaDoor
open Go Go.RowKit

theorem Keeps.setCells {S : Nat → Prop} {a : World} {g : Nat} (hp : S g ∨ a.heap.size ≤ g) : ∀ (vs : List Value) (o : Nat) (w : World), Keeps S a w → Keeps S a (w.setCells g o vs)
  | [], _, _, h => h
  | v :: vs, o, w, h => Keeps.setCells hp vs (o + 1) _ (h.setCell (p := ⟨g, o, none⟩) hp v)

theorem slice_h {P : Program} {t e : TypeId} {n s : Nat} (a : Addr) (ht : P.underlying t = some (.array n e)) (hs : (P.info? e).map (·.size) = some s) (h : Nat) (hn : h ≤ n) (W : World) :
    (Instr.sliceAt t (.pointer (some a)) none (some (.int .i64 (h : Int))) none).run P W = .ok (.slice (some a) h n) W := by
  obtain ⟨i, hi, rfl⟩ := Option.map_eq_some_iff.1 hs
  have h1 : ((h : Int) ≤ (n : Int)) := by omega
  simp [Instr.sliceAt, Instr.sureAddr, run_underlying ht, Instr.sliceBounds, run_sliceBound, sizeOf, typeInfo, hi, h1, Addr.add]

set_option maxHeartbeats 400000 in
theorem checkErr_nil (be : Nat) (w : World) : Calls Tryd.prog 33 #[.pointer (some ⟨be, 0, none⟩), .nilIface] w fun e w' => e = .returned (.tuple #[]) ∧ w = w' := by
  have hnn : ∀ w, (binOp .neq 84 .nilIface .nilIface).run Tryd.prog w = .ok (.bool false) w := fun w => Lib.run_neq_nil_nil w Tryd.underlying84
  go_enter Tryd.func33, Tryd.ntmps33
  go_wp2
  go_end0
  exact ⟨rfl, rfl⟩

/-- What rawUvarint does before it writes: a block of ten bytes of its own with the number in it. -/
theorem uvarint_ready (x : Nat) (hx : x < 18446744073709551616) (w : World) (W1 : World) (hW1 : W1 = (w.alloc (Obj.cells #[Value.int .u8 0, Value.int .u8 0, Value.int .u8 0, Value.int .u8 0, Value.int .u8 0, Value.int .u8 0, Value.int .u8 0, Value.int .u8 0, Value.int .u8 0, Value.int .u8 0] 142)).setCells
    w.heap.size 0 (Lib.byteCells (Lib.uvarint x))) : Keeps (fun _ => False) w W1 ∧ (∀ j v, (Lib.byteCells (Lib.uvarint x))[j]? = some v → W1.cell? ((⟨w.heap.size, 0, none⟩ : Addr).add j) = some v) := by
  have hlen := Lib.uvarint_length64 hx
  subst hW1
  refine ⟨Keeps.setCells (Or.inr (Nat.le_refl _)) _ _ _ ((Keeps.refl _ _).alloc _), fun j v hj => ?_⟩
  have hjl : j < (Lib.byteCells (Lib.uvarint x)).length := (List.getElem?_eq_some_iff.1 hj).1
  have h := World.cell?_setCells_in w.heap.size (Lib.byteCells (Lib.uvarint x)) 0 (w.alloc (Obj.cells #[Value.int .u8 0, Value.int .u8 0, Value.int .u8 0, Value.int .u8 0, Value.int .u8 0, Value.int .u8 0, Value.int .u8 0, Value.int .u8 0, Value.int .u8 0, Value.int .u8 0] 142))
    (fun j hj => by rw [Lib.byteCells_length] at hj; rw [Lib.cell_of_heap (heap_alloc_new w _)]; simp; omega) j hjl
  rw [Lib.addr_add, h, ← hj, List.getElem?_eq_getElem hjl]

set_option maxRecDepth 100000 in
set_option maxHeartbeats 800000 in
/-- rawUvarint: the number's bytes behind the data. -/
theorem rawUvarint (be x : Nat) (hx : x < 18446744073709551616) (R : Nat → Option Value) (v : Value) (bs : List UInt8) (w : World) (h : Bf w be 3 88 R v (Lib.byteCells bs)) (hlim : bs.length + 10 ≤ 140737488355328) :
    Calls Tryd.prog 46 #[.pointer (some ⟨be, 0, none⟩), .int .u64 x] w fun e w' => e = .returned (.tuple #[]) ∧ BfPut w be 3 88 R v (Lib.byteCells (bs ++ Lib.uvarint x)) w' := by
  have hlen := Lib.uvarint_length64 hx
  have hpos := Lib.uvarint_pos x
  have hbl : be < w.heap.size := by obtain ⟨lr, h3, -⟩ := h; exact h3.lt
  go_enter Tryd.func46, Tryd.ntmps46
  go_wp2_with (go_at_call 58; refine (putUvarint w.heap.size 0 10 10 x hx _ ?_ ?_).mono ?_)
  · exact hlen
  · intro j hj
    refine ⟨?_, Lib.frozen_of_heap (heap_alloc_new w _) _⟩
    rw [Lib.cell_of_heap (heap_alloc_new w _)]
    simp
    omega
  rintro e w' ⟨rfl, hw'⟩
  obtain ⟨hk, hsrc⟩ := uvarint_ready x hx w w' hw'
  clear hw'
  have hB := h.keeps hk (fun _ _ h => h)
  have hsl := slice_h (P := Tryd.prog) (s := 1) ⟨w.heap.size, 0, none⟩ Tryd.underlying142 byteSize (Lib.uvarint x).length hlen
  go_wp2
  go_region_with (
    go_at_call 59
    refine (bufWrite be 3 88 R v (Lib.byteCells bs) (Lib.byteCells (Lib.uvarint x)) ⟨w.heap.size, 0, none⟩ (Lib.uvarint x).length 10 _ ?_ (Lib.byteCells_one _) (Lib.byteCells_length _) (by omega) (by show w.heap.size ≠ be; omega) ?_ (Lib.byteCells_one _) (by rw [Lib.byteCells_length]; omega)).mono ?_
    exact hB
    exact hsrc
    rintro e w2 ⟨rfl, hput⟩)
  go_wp2_with (go_at_call 33; refine (checkErr_nil be _).mono ?_; rintro e w3 ⟨rfl, rfl⟩)
  go_end0
  refine ⟨rfl, ?_⟩
  rw [Lib.byteCells_append]
  exact hput.after (hk.drew)
end Go.Proofs.YthhpmeaajgjdeaaDoor

/- Gc: An encoder with its package: markers, signed numbers. -/
namespace Go.Proofs.YthhpmeaajgjdeaaDoor
open Go Go.RowKit

/-- The number that stands for a signed one. -/
def zz (x : Int) : Nat := if 0 ≤ x then (x * 2).toNat else (bits .xor .u64 IntKind.u64.max (IntKind.u64.wrap (IntKind.u64.wrap x * 2))).toNat

theorem zz_lt (x : Int) (h : x ≤ 9223372036854775807) : zz x < 18446744073709551616 := by
  unfold zz
  split
  · omega
  · have := bounds_u64 (wf_bits .xor .u64 IntKind.u64.max (IntKind.u64.wrap (IntKind.u64.wrap x * 2)))
    omega

set_option maxHeartbeats 800000 in
theorem rawVarint (be : Nat) (x : Int) (hx0 : -9223372036854775808 ≤ x) (hx1 : x ≤ 9223372036854775807) (R : Nat → Option Value) (v : Value) (bs : List UInt8) (w : World) (h : Bf w be 3 88 R v (Lib.byteCells bs)) (hlim : bs.length + 10 ≤ 140737488355328) :
    Calls Tryd.prog 49 #[.pointer (some ⟨be, 0, none⟩), .int .i64 x] w fun e w' => e = .returned (.tuple #[]) ∧ BfPut w be 3 88 R v (Lib.byteCells (bs ++ Lib.uvarint (zz x))) w' := by
  have hz := zz_lt x hx1
  have hc := rawUvarint be (zz x) hz R v bs w h hlim
  by_cases hn : 0 ≤ x
  · have e : ((zz x : Nat) : Int) = x * 2 := by unfold zz; rw [if_pos hn]; omega
    rw [e] at hc
    clear e hz
    go_enter Tryd.func49, Tryd.ntmps49
    go_wp2_with (go_at_call 46; refine hc.mono ?_; rintro e w' ⟨rfl, hp⟩)
    go_end0
    exact ⟨rfl, hp⟩
  · have e : ((zz x : Nat) : Int) = bits .xor .u64 IntKind.u64.max (IntKind.u64.wrap (IntKind.u64.wrap x * 2)) := by
      unfold zz; rw [if_neg hn]
      have := bounds_u64 (wf_bits .xor .u64 IntKind.u64.max (IntKind.u64.wrap (IntKind.u64.wrap x * 2)))
      omega
    rw [e] at hc
    have hn' : x < 0 := by omega
    clear e hz hn
    go_enter Tryd.func49, Tryd.ntmps49
    go_wp2_with (go_at_call 46; refine hc.mono ?_; rintro e w' ⟨rfl, hp⟩)
    go_end0
    exact ⟨rfl, hp⟩

/-- An encoder whose package stands in block bp: the pointer to it, and how many frames a marker has. -/
structure Enc (w : World) (be bp : Nat) (R : Nat → Option Value) (v : Value) (bs : List UInt8) (pc : Array Value) (sf : Int) : Prop where
  buf : Bf w be 3 88 R v (Lib.byteCells bs)
  ptr : R 0 = some (.pointer (some ⟨bp, 0, none⟩))
  pkg : w.heap[bp]? = some (.cells pc 45 (0, 0))
  frames : pc[12]? = some (.int .i64 sf)

theorem three_tag {w : World} {b o : Nat} {T : TypeId} {R : Nat → Option Value} {x y z : Value} (h : LibA.Three w b o T R x y z) {b' : Nat} {c : Array Value} {e : TypeId} {fz : Nat × Nat} (hc : w.heap[b']? = some (.cells c e fz)) (hne : e ≠ T) : b' ≠ b := by
  rintro rfl
  exact hne (h.tag hc)

theorem row_tag {w : World} {base : Nat} {e : TypeId} {size : Nat} {v : Value} {n : Nat} {xs : List Value} (h : w.ownsRow base e size v n xs) {b' : Nat} {c : Array Value} {e' : TypeId} {fz : Nat × Nat} (hc : w.heap[b']? = some (.cells c e' fz)) (hne : e' ≠ e) : v.ownBlock ≠ some b' := by
  rcases h.2 with ⟨rfl, _⟩ | ⟨g, cap, cur, rfl, hb, hg, r⟩
  · simp [Value.ownBlock]
  · simp only [Value.ownBlock, ne_eq, Option.some.injEq]
    rintro rfl
    rw [hg] at hc
    injection hc with hc
    injection hc with _ h2 _
    exact hne h2.symm

theorem bf_tag {w : World} {b q : Nat} {T : TypeId} {R : Nat → Option Value} {v : Value} {bs : List Value} (h : Bf w b q T R v bs) {b' : Nat} {c : Array Value} {e' : TypeId} {fz : Nat × Nat} (hc : w.heap[b']? = some (.cells c e' fz)) (h1 : e' ≠ T) (h2 : e' ≠ 5) : ¬ BfS b v b' := by
  obtain ⟨lr, h3, ho, -⟩ := h
  rintro (e | e)
  · exact three_tag h3 hc h1 e
  · exact row_tag ho hc h2 e

/-- What a writer of an encoder leaves. -/
def EncPut (w : World) (be bp : Nat) (R : Nat → Option Value) (v : Value) (bs : List UInt8) (pc : Array Value) (sf : Int) (w' : World) : Prop :=
  ∃ v', Enc w' be bp R v' bs pc sf ∧ Fresh w v v' ∧ Keeps (BfS be v) w w'

theorem Enc.put {w w' : World} {be bp : Nat} {R : Nat → Option Value} {v : Value} {bs bs' : List UInt8} {pc : Array Value} {sf : Int} (h : Enc w be bp R v bs pc sf) (hp : BfPut w be 3 88 R v (Lib.byteCells bs') w') : EncPut w be bp R v bs' pc sf w' := by
  obtain ⟨v', hb, hf, hk⟩ := hp
  exact ⟨v', ⟨hb, h.ptr, hk.heap h.pkg (bf_tag h.buf h.pkg (by decide) (by decide)), h.frames⟩, hf, hk⟩

theorem EncPut.refl {w : World} {be bp : Nat} {R : Nat → Option Value} {v : Value} {bs : List UInt8} {pc : Array Value} {sf : Int} (h : Enc w be bp R v bs pc sf) : EncPut w be bp R v bs pc sf w := ⟨v, h, Fresh.refl _ _, Keeps.refl _ _⟩

theorem EncPut.trans {w w1 w2 : World} {be bp : Nat} {R : Nat → Option Value} {v v1 : Value} {bs : List UInt8} {pc : Array Value} {sf : Int} (hf : Fresh w v v1) (hk : Keeps (BfS be v) w w1) (h : EncPut w1 be bp R v1 bs pc sf w2) : EncPut w be bp R v bs pc sf w2 := by
  obtain ⟨v2, he, hf2, hk2⟩ := h
  obtain ⟨v3, hb, hf3, hk3⟩ := BfPut.trans hf hk ⟨v2, he.buf, hf2, hk2⟩
  exact ⟨v2, he, hf.trans hf2 hk.size, hk3⟩

/-- The bytes of a marker. -/
def sy (sf : Int) (m : Nat) : List UInt8 := if 0 ≤ sf then Lib.uvarint m ++ Lib.uvarint 0 else []

theorem sy_length (sf : Int) (m : Nat) (hm : m < 18446744073709551616) : (sy sf m).length ≤ 20 := by
  unfold sy
  split
  · have := Lib.uvarint_length64 hm
    have := Lib.uvarint_length64 (x := 0) (by omega)
    simp only [List.length_append]; omega
  · simp

set_option maxHeartbeats 400000 in
theorem syncMarkers (b : Nat) (n : Int) (w : World) (h : w.cell? ⟨b, 12, none⟩ = some (.int .i64 n)) : Calls Tryd.prog 42 #[.pointer (some ⟨b, 0, none⟩)] w fun e w' => e = .returned (.bool (decide (0 ≤ n))) ∧ w = w' := by
  go_enter Tryd.func42, Tryd.ntmps42
  go_wp2
  go_ret
  exact ⟨rfl, rfl⟩

set_option maxHeartbeats 800000 in
theorem sync (be bp m : Nat) (hm : m < 9223372036854775808) (R : Nat → Option Value) (v : Value) (bs : List UInt8) (pc : Array Value) (sf : Int) (w : World) (h : Enc w be bp R v bs pc sf) (hlim : bs.length + 20 ≤ 140737488355328) :
    Calls Tryd.prog 22 #[.pointer (some ⟨be, 0, none⟩), .int .i64 m] w fun e w' => e = .returned (.tuple #[]) ∧ EncPut w be bp R v (bs ++ sy sf m) pc sf w' := by
  obtain ⟨lr, h3, -, -⟩ := id h.buf
  have c0 : w.cell? ⟨be, 0, none⟩ = some (.pointer (some ⟨bp, 0, none⟩)) := (h3.rest 0 (by omega)).trans h.ptr
  have c12 : w.cell? ⟨bp, 12, none⟩ = some (.int .i64 sf) := by rw [Lib.cell_of_heap h.pkg]; exact h.frames
  clear h3
  by_cases hs : 0 ≤ sf
  · have hd : decide (0 ≤ sf) = true := by simpa using hs
    have hsy : sy sf m = Lib.uvarint m ++ Lib.uvarint 0 := by unfold sy; rw [if_pos hs]
    have HS := Lib.hid hsy
    clear hsy
    have hl := Lib.uvarint_length64 (x := m) (by omega)
    go_enter Tryd.func22, Tryd.ntmps22
    go_wp2_with (go_at_call 42; refine (syncMarkers bp sf _ c12).mono ?_; rintro e w' ⟨rfl, rfl⟩)
    go_wp2_with (go_at_call 46; refine (rawUvarint be m (by omega) R v bs _ h.buf (by omega)).mono ?_; rintro e w1 ⟨rfl, hp1⟩; refine Hid.out ?_)
    refine Lib.hid ?_
    obtain ⟨v1, he1, hf1, hk1⟩ := h.put hp1
    go_wp2_with (go_at_call 46; refine (rawUvarint be 0 (by omega) R v1 (bs ++ Lib.uvarint m) _ he1.buf (by rw [List.length_append]; omega)).mono ?_; rintro e w2 ⟨rfl, hp2⟩; refine Hid.out ?_)
    refine Lib.hid ?_
    have hE := EncPut.trans hf1 hk1 (he1.put hp2)
    rw [List.append_assoc, ← HS.out] at hE
    have HE := Lib.hid hE
    clear hE
    go_wp2
    go_loop [24] (fun i => i = .int .i64 0) (fun _ => 0)
    case atStart => rfl
    case round =>
      subst hrel
      go_wp2
      go_end0
      exact ⟨rfl, HE.out⟩
  · have hd : decide (0 ≤ sf) = false := by simpa using hs
    have hsy : sy sf m = [] := by unfold sy; rw [if_neg hs]
    rw [hsy, List.append_nil]
    go_enter Tryd.func22, Tryd.ntmps22
    go_wp2_with (go_at_call 42; refine (syncMarkers bp sf _ c12).mono ?_; rintro e w' ⟨rfl, rfl⟩)
    exact bodyPost_ret (v := .tuple #[]) (by simp [results, Tryd.results22, go_sem]) rfl ⟨rfl, EncPut.refl h⟩

end Go.Proofs.YthhpmeaajgjdeaaDoor

/- Gd: The encoder's writers of numbers, truth values, lengths and codes. -/
namespace Go.Proofs.YthhpmeaajgjdeaaDoor
open Go Go.RowKit

set_option maxHeartbeats 400000 in
theorem assert_true (w : World) : Calls Tryd.prog 39 #[.bool true] w fun e w' => e = .returned (.tuple #[]) ∧ w = w' := by
  go_enter Tryd.func39, Tryd.ntmps39
  go_wp2
  go_end0
  exact ⟨rfl, rfl⟩

theorem zz_length (x : Int) (h : x ≤ 9223372036854775807) : (Lib.uvarint (zz x)).length ≤ 10 := Lib.uvarint_length64 (zz_lt x h)

theorem byte0 (l : List UInt8) : Lib.byteCells (l ++ [0]) = Lib.byteCells l ++ [Value.int .u8 0] := by simp [Lib.byteCells]
theorem byte1 (l : List UInt8) : Lib.byteCells (l ++ [1]) = Lib.byteCells l ++ [Value.int .u8 1] := by simp [Lib.byteCells]

section
variable (be bp : Nat) (R : Nat → Option Value) (v : Value) (bs : List UInt8) (pc : Array Value) (sf : Int) (w : World) (h : Enc w be bp R v bs pc sf) (hlim : bs.length + 100 ≤ 140737488355328)
include h hlim

set_option maxHeartbeats 800000 in
theorem encBool (x : Bool) : Calls Tryd.prog 14 #[.pointer (some ⟨be, 0, none⟩), .bool x] w fun e w' => e = .returned (.bool x) ∧ EncPut w be bp R v (bs ++ (sy sf 2 ++ [if x then 1 else 0])) pc sf w' := by
  have hl := sy_length sf 2 (by omega)
  cases x
  · go_enter Tryd.func14, Tryd.ntmps14
    go_wp2_with (go_at_call 22; refine (sync be bp 2 (by omega) R v bs pc sf _ h (by omega)).mono ?_; rintro e w1 ⟨rfl, hp1⟩; refine Hid.out ?_)
    refine Lib.hid ?_
    obtain ⟨v1, he1, hf1, hk1⟩ := hp1
    go_wp2_with (go_at_call 32; refine (bufWriteByte be 3 88 R v1 (Lib.byteCells (bs ++ sy sf 2)) 0 _ he1.buf (Lib.byteCells_one _) (by rw [Lib.byteCells_length, List.length_append]; omega)).mono ?_; rintro e w2 ⟨rfl, hp2⟩; refine Hid.out ?_)
    refine Lib.hid ?_
    go_wp2_with (go_at_call 33; refine (checkErr_nil be _).mono ?_; rintro e w3 ⟨rfl, rfl⟩)
    go_ret
    refine ⟨rfl, EncPut.trans hf1 hk1 (he1.put ?_)⟩
    rw [← List.append_assoc]
    exact (byte0 (bs ++ sy sf 2)) ▸ hp2
  · go_enter Tryd.func14, Tryd.ntmps14
    go_wp2_with (go_at_call 22; refine (sync be bp 2 (by omega) R v bs pc sf _ h (by omega)).mono ?_; rintro e w1 ⟨rfl, hp1⟩; refine Hid.out ?_)
    refine Lib.hid ?_
    obtain ⟨v1, he1, hf1, hk1⟩ := hp1
    go_wp2_with (go_at_call 32; refine (bufWriteByte be 3 88 R v1 (Lib.byteCells (bs ++ sy sf 2)) 1 _ he1.buf (Lib.byteCells_one _) (by rw [Lib.byteCells_length, List.length_append]; omega)).mono ?_; rintro e w2 ⟨rfl, hp2⟩; refine Hid.out ?_)
    refine Lib.hid ?_
    go_wp2_with (go_at_call 33; refine (checkErr_nil be _).mono ?_; rintro e w3 ⟨rfl, rfl⟩)
    go_ret
    refine ⟨rfl, EncPut.trans hf1 hk1 (he1.put ?_)⟩
    rw [← List.append_assoc]
    exact (byte1 (bs ++ sy sf 2)) ▸ hp2

set_option maxHeartbeats 800000 in
theorem encInt64 (x : Int) (hx0 : -9223372036854775808 ≤ x) (hx1 : x ≤ 9223372036854775807) : Calls Tryd.prog 23 #[.pointer (some ⟨be, 0, none⟩), .int .i64 x] w fun e w' => e = .returned (.tuple #[]) ∧ EncPut w be bp R v (bs ++ (sy sf 3 ++ Lib.uvarint (zz x))) pc sf w' := by
  have hl := sy_length sf 3 (by omega)
  go_enter Tryd.func23, Tryd.ntmps23
  go_wp2_with (go_at_call 22; refine (sync be bp 3 (by omega) R v bs pc sf _ h (by omega)).mono ?_; rintro e w1 ⟨rfl, hp1⟩; refine Hid.out ?_)
  refine Lib.hid ?_
  obtain ⟨v1, he1, hf1, hk1⟩ := hp1
  go_wp2_with (go_at_call 49; refine (rawVarint be x hx0 hx1 R v1 (bs ++ sy sf 3) _ he1.buf (by rw [List.length_append]; omega)).mono ?_; rintro e w2 ⟨rfl, hp2⟩)
  go_end0
  refine ⟨rfl, EncPut.trans hf1 hk1 (he1.put ?_)⟩
  rw [← List.append_assoc]
  exact hp2

set_option maxHeartbeats 800000 in
theorem encUint64 (x : Nat) (hx : x < 18446744073709551616) : Calls Tryd.prog 24 #[.pointer (some ⟨be, 0, none⟩), .int .u64 x] w fun e w' => e = .returned (.tuple #[]) ∧ EncPut w be bp R v (bs ++ (sy sf 4 ++ Lib.uvarint x)) pc sf w' := by
  have hl := sy_length sf 4 (by omega)
  go_enter Tryd.func24, Tryd.ntmps24
  go_wp2_with (go_at_call 22; refine (sync be bp 4 (by omega) R v bs pc sf _ h (by omega)).mono ?_; rintro e w1 ⟨rfl, hp1⟩; refine Hid.out ?_)
  refine Lib.hid ?_
  obtain ⟨v1, he1, hf1, hk1⟩ := hp1
  go_wp2_with (go_at_call 46; refine (rawUvarint be x hx R v1 (bs ++ sy sf 4) _ he1.buf (by rw [List.length_append]; omega)).mono ?_; rintro e w2 ⟨rfl, hp2⟩)
  go_end0
  refine ⟨rfl, EncPut.trans hf1 hk1 (he1.put ?_)⟩
  rw [← List.append_assoc]
  exact hp2

set_option maxHeartbeats 800000 in
theorem encLen (x : Nat) (hx : x < 9223372036854775808) : Calls Tryd.prog 25 #[.pointer (some ⟨be, 0, none⟩), .int .i64 x] w fun e w' => e = .returned (.tuple #[]) ∧ EncPut w be bp R v (bs ++ (sy sf 4 ++ Lib.uvarint x)) pc sf w' := by
  go_enter Tryd.func25, Tryd.ntmps25
  go_wp2_with (go_at_call 39; refine (assert_true _).mono ?_; rintro e w1 ⟨rfl, rfl⟩)
  go_wp2_with (go_at_call 24; refine (encUint64 be bp R v bs pc sf _ h hlim x (by omega)).mono ?_; rintro e w1 ⟨rfl, hp1⟩)
  go_end0
  exact ⟨rfl, hp1⟩

set_option maxHeartbeats 800000 in
theorem encInt (x : Int) (hx0 : -9223372036854775808 ≤ x) (hx1 : x ≤ 9223372036854775807) : Calls Tryd.prog 26 #[.pointer (some ⟨be, 0, none⟩), .int .i64 x] w fun e w' => e = .returned (.tuple #[]) ∧ EncPut w be bp R v (bs ++ (sy sf 3 ++ Lib.uvarint (zz x))) pc sf w' := by
  go_enter Tryd.func26, Tryd.ntmps26
  go_wp2_with (go_at_call 23; refine (encInt64 be bp R v bs pc sf _ h hlim x hx0 hx1).mono ?_; rintro e w1 ⟨rfl, hp1⟩)
  go_end0
  exact ⟨rfl, hp1⟩

set_option maxHeartbeats 800000 in
theorem encUint (x : Nat) (hx : x < 18446744073709551616) : Calls Tryd.prog 27 #[.pointer (some ⟨be, 0, none⟩), .int .u64 x] w fun e w' => e = .returned (.tuple #[]) ∧ EncPut w be bp R v (bs ++ (sy sf 4 ++ Lib.uvarint x)) pc sf w' := by
  go_enter Tryd.func27, Tryd.ntmps27
  go_wp2_with (go_at_call 24; refine (encUint64 be bp R v bs pc sf _ h hlim x hx).mono ?_; rintro e w1 ⟨rfl, hp1⟩)
  go_end0
  exact ⟨rfl, hp1⟩

end
end Go.Proofs.YthhpmeaajgjdeaaDoor

/- Ge: The encoder's writer of codes, at each of the three kinds. -/
namespace Go.Proofs.YthhpmeaajgjdeaaDoor
open Go Go.RowKit

set_option maxHeartbeats 400000 in
theorem markerObj (x : Int) (w : World) : Calls Tryd.prog 88 #[.int .i64 x] w fun e w' => e = .returned (.int .i64 25) ∧ w = w' := by
  go_enter Tryd.func88, Tryd.ntmps88
  go_wp2
  go_ret
  exact ⟨rfl, rfl⟩
set_option maxHeartbeats 400000 in
theorem valueObj (x : Int) (w : World) : Calls Tryd.prog 89 #[.int .i64 x] w fun e w' => e = .returned (.int .i64 x) ∧ w = w' := by
  go_enter Tryd.func89, Tryd.ntmps89
  go_wp2
  go_ret
  exact ⟨rfl, rfl⟩
set_option maxHeartbeats 800000 in
set_option maxRecDepth 10000 in
theorem encCodeObj (be bp : Nat) (R : Nat → Option Value) (v : Value) (bs : List UInt8) (pc : Array Value) (sf : Int) (w : World) (h : Enc w be bp R v bs pc sf) (hlim : bs.length + 200 ≤ 140737488355328) (x : Nat) (hx : x < 9223372036854775808) :
    Calls Tryd.prog 31 #[.pointer (some ⟨be, 0, none⟩), .iface 80 (.int .i64 x)] w fun e w' => e = .returned (.tuple #[]) ∧ EncPut w be bp R v (bs ++ (sy sf 25 ++ (sy sf 4 ++ Lib.uvarint x))) pc sf w' := by
  have hm1 : ∀ W : World, (method 291 80 (.int .i64 (x : Int)) "Marker").run Tryd.prog W = .ok (88, .int .i64 x) W := fun _ => by kernel_rfl
  have hm2 : ∀ W : World, (method 291 80 (.int .i64 (x : Int)) "Value").run Tryd.prog W = .ok (89, .int .i64 x) W := fun _ => by kernel_rfl
  have hl := sy_length sf 25 (by omega)
  go_enter Tryd.func31, Tryd.ntmps31
  go_wp2_with (go_at_call 88; refine (markerObj _ _).mono ?_; rintro e w1 ⟨rfl, rfl⟩; refine Hid.out ?_)
  refine Lib.hid ?_
  go_wp2_with (go_at_call 22; refine (sync be bp 25 (by omega) R v bs pc sf _ h (by omega)).mono ?_; rintro e w1 ⟨rfl, hp1⟩; refine Hid.out ?_)
  refine Lib.hid ?_
  obtain ⟨v1, he1, hf1, hk1⟩ := hp1
  go_wp2_with (go_at_call 89; refine (valueObj _ _).mono ?_; rintro e w2 ⟨rfl, rfl⟩; refine Hid.out ?_)
  refine Lib.hid ?_
  go_wp2_with (go_at_call 25; refine (encLen be bp R v1 (bs ++ sy sf 25) pc sf _ he1 (by rw [List.length_append]; omega) x hx).mono ?_; rintro e w2 ⟨rfl, hp2⟩)
  go_end0
  refine ⟨rfl, EncPut.trans hf1 hk1 ?_⟩
  rw [← List.append_assoc]
  exact hp2

set_option maxHeartbeats 400000 in
theorem markerType (x : Int) (w : World) : Calls Tryd.prog 90 #[.int .i64 x] w fun e w' => e = .returned (.int .i64 19) ∧ w = w' := by
  go_enter Tryd.func90, Tryd.ntmps90
  go_wp2
  go_ret
  exact ⟨rfl, rfl⟩
set_option maxHeartbeats 400000 in
theorem valueType (x : Int) (w : World) : Calls Tryd.prog 91 #[.int .i64 x] w fun e w' => e = .returned (.int .i64 x) ∧ w = w' := by
  go_enter Tryd.func91, Tryd.ntmps91
  go_wp2
  go_ret
  exact ⟨rfl, rfl⟩
set_option maxHeartbeats 800000 in
set_option maxRecDepth 10000 in
theorem encCodeType (be bp : Nat) (R : Nat → Option Value) (v : Value) (bs : List UInt8) (pc : Array Value) (sf : Int) (w : World) (h : Enc w be bp R v bs pc sf) (hlim : bs.length + 200 ≤ 140737488355328) (x : Nat) (hx : x < 9223372036854775808) :
    Calls Tryd.prog 31 #[.pointer (some ⟨be, 0, none⟩), .iface 81 (.int .i64 x)] w fun e w' => e = .returned (.tuple #[]) ∧ EncPut w be bp R v (bs ++ (sy sf 19 ++ (sy sf 4 ++ Lib.uvarint x))) pc sf w' := by
  have hm1 : ∀ W : World, (method 291 81 (.int .i64 (x : Int)) "Marker").run Tryd.prog W = .ok (90, .int .i64 x) W := fun _ => by kernel_rfl
  have hm2 : ∀ W : World, (method 291 81 (.int .i64 (x : Int)) "Value").run Tryd.prog W = .ok (91, .int .i64 x) W := fun _ => by kernel_rfl
  have hl := sy_length sf 19 (by omega)
  go_enter Tryd.func31, Tryd.ntmps31
  go_wp2_with (go_at_call 90; refine (markerType _ _).mono ?_; rintro e w1 ⟨rfl, rfl⟩; refine Hid.out ?_)
  refine Lib.hid ?_
  go_wp2_with (go_at_call 22; refine (sync be bp 19 (by omega) R v bs pc sf _ h (by omega)).mono ?_; rintro e w1 ⟨rfl, hp1⟩; refine Hid.out ?_)
  refine Lib.hid ?_
  obtain ⟨v1, he1, hf1, hk1⟩ := hp1
  go_wp2_with (go_at_call 91; refine (valueType _ _).mono ?_; rintro e w2 ⟨rfl, rfl⟩; refine Hid.out ?_)
  refine Lib.hid ?_
  go_wp2_with (go_at_call 25; refine (encLen be bp R v1 (bs ++ sy sf 19) pc sf _ he1 (by rw [List.length_append]; omega) x hx).mono ?_; rintro e w2 ⟨rfl, hp2⟩)
  go_end0
  refine ⟨rfl, EncPut.trans hf1 hk1 ?_⟩
  rw [← List.append_assoc]
  exact hp2

set_option maxHeartbeats 400000 in
theorem markerVal (x : Int) (w : World) : Calls Tryd.prog 92 #[.int .i64 x] w fun e w' => e = .returned (.int .i64 7) ∧ w = w' := by
  go_enter Tryd.func92, Tryd.ntmps92
  go_wp2
  go_ret
  exact ⟨rfl, rfl⟩
set_option maxHeartbeats 400000 in
theorem valueVal (x : Int) (w : World) : Calls Tryd.prog 93 #[.int .i64 x] w fun e w' => e = .returned (.int .i64 x) ∧ w = w' := by
  go_enter Tryd.func93, Tryd.ntmps93
  go_wp2
  go_ret
  exact ⟨rfl, rfl⟩
set_option maxHeartbeats 800000 in
set_option maxRecDepth 10000 in
theorem encCodeVal (be bp : Nat) (R : Nat → Option Value) (v : Value) (bs : List UInt8) (pc : Array Value) (sf : Int) (w : World) (h : Enc w be bp R v bs pc sf) (hlim : bs.length + 200 ≤ 140737488355328) (x : Nat) (hx : x < 9223372036854775808) :
    Calls Tryd.prog 31 #[.pointer (some ⟨be, 0, none⟩), .iface 82 (.int .i64 x)] w fun e w' => e = .returned (.tuple #[]) ∧ EncPut w be bp R v (bs ++ (sy sf 7 ++ (sy sf 4 ++ Lib.uvarint x))) pc sf w' := by
  have hm1 : ∀ W : World, (method 291 82 (.int .i64 (x : Int)) "Marker").run Tryd.prog W = .ok (92, .int .i64 x) W := fun _ => by kernel_rfl
  have hm2 : ∀ W : World, (method 291 82 (.int .i64 (x : Int)) "Value").run Tryd.prog W = .ok (93, .int .i64 x) W := fun _ => by kernel_rfl
  have hl := sy_length sf 7 (by omega)
  go_enter Tryd.func31, Tryd.ntmps31
  go_wp2_with (go_at_call 92; refine (markerVal _ _).mono ?_; rintro e w1 ⟨rfl, rfl⟩; refine Hid.out ?_)
  refine Lib.hid ?_
  go_wp2_with (go_at_call 22; refine (sync be bp 7 (by omega) R v bs pc sf _ h (by omega)).mono ?_; rintro e w1 ⟨rfl, hp1⟩; refine Hid.out ?_)
  refine Lib.hid ?_
  obtain ⟨v1, he1, hf1, hk1⟩ := hp1
  go_wp2_with (go_at_call 93; refine (valueVal _ _).mono ?_; rintro e w2 ⟨rfl, rfl⟩; refine Hid.out ?_)
  refine Lib.hid ?_
  go_wp2_with (go_at_call 25; refine (encLen be bp R v1 (bs ++ sy sf 7) pc sf _ he1 (by rw [List.length_append]; omega) x hx).mono ?_; rintro e w2 ⟨rfl, hp2⟩)
  go_end0
  refine ⟨rfl, EncPut.trans hf1 hk1 ?_⟩
  rw [← List.append_assoc]
  exact hp2

end Go.Proofs.YthhpmeaajgjdeaaDoor
