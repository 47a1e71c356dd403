/- sha256: block; the digest as plain data, and its cells. -/
import Derived.Test.YthhpmeaajgjdeaaDoorX21
import Derived.Deep.CutRange
import Derived.Lib.QuoteBits

set_option linter.unusedVariables false
set_option linter.unusedSimpArgs false

/- Pa: sha256: block, and small functions: BEPutUint64, BEPutUint32, RecordApproved. -/
namespace Go.Proofs.YthhpmeaajgjdeaaDoor
open Go Go.RowKit

/-- What a block call makes of the state. -/
def blkS (K : Nat → Int) (s : S8) (p : List UInt8) : S8 := (blkN K p (s, fun _ => 0) (p.length / 64)).1

set_option maxHeartbeats 1000000 in
theorem blockC (db : Nat) (s : S8) (r : List Value) (b o n c : Nat) (p : List UInt8) (K : Nat → Int) (w : World) (hn : p.length = n) (hc : n ≤ c) (hc63 : c ≤ 9223372036854775807) (hp : ∀ k, k < n → w.cell? ⟨b, o + k, none⟩ = some (.int .u8 (byteAt p k))) (hK : Kat w K) (hb : b < w.heap.size) (h7 : 7 < w.heap.size)
    (hd : w.heap[db]? = some (.cells (dgC s r) 163 (0, 0))) :
    Calls Tryd.prog 105 #[.pointer (some ⟨db, 0, none⟩), .slice (some ⟨b, o, none⟩) n c] w fun e w' => e = .returned (.tuple #[]) ∧ w'.heap[db]? = some (.cells (dgC (blkS K s p) r) 163 (0, 0)) ∧ Keeps (fun k => k = db) w w' := by
  have hc := blockG db s r b o n c p K w hn hc hc63 hp hK hb h7 hd
  rw [← hn] at hc
  have HC := Lib.hid hc
  rw [hn] at HC
  clear hc hp hK
  go_enter Tryd.func105, Tryd.ntmps105
  go_wp2_with (go_at_call 64; refine HC.out.mono ?_; rintro e w1 ⟨rfl, h1, h2⟩)
  go_end0
  refine ⟨rfl, ?_, h2⟩
  unfold blkS
  rw [hn]
  exact h1

end Go.Proofs.YthhpmeaajgjdeaaDoor

/- Pb: sha256: a digest's state, and what Write makes of it, as plain functions. -/
namespace Go.Proofs.YthhpmeaajgjdeaaDoor
open Go Go.RowKit

structure Dg where
  s : S8
  x : List UInt8
  nx : Nat
  len : Int

def dgRest (x : List UInt8) (nx : Nat) (len : Int) : List Value := Lib.byteCells x ++ [.int .i64 nx, .int .u64 len, .bool false]
/-- A digest in block db. -/
structure DgAt (w : World) (db : Nat) (d : Dg) : Prop where
  blk : w.heap[db]? = some (.cells (dgC d.s (dgRest d.x d.nx d.len)) 163 (0, 0))
  size : d.x.length = 64
  nx64 : d.nx < 64
  mod : (d.nx : Int) = d.len % 64
  len0 : 0 ≤ d.len
  len1 : d.len < 18446744073709551616

def over (x : List UInt8) (i : Nat) (q : List UInt8) : List UInt8 := x.take i ++ q ++ x.drop (i + q.length)

/-- The bytes that complete a block that was begun. -/
def Dg.first (K : Nat → Int) (d : Dg) (p : List UInt8) : Dg :=
  if d.nx = 0 then d
  else if p.length < 64 - d.nx then { d with x := over d.x d.nx p, nx := d.nx + p.length }
  else { d with x := over d.x d.nx (p.take (64 - d.nx)), nx := 0, s := blkS K d.s (over d.x d.nx (p.take (64 - d.nx))) }
def Dg.left (d : Dg) (p : List UInt8) : List UInt8 := if d.nx = 0 then p else p.drop (64 - d.nx)
/-- So many long runs of blocks. -/
def longN (K : Nat → Int) (p : List UInt8) (s : S8) : Nat → S8
  | 0 => s
  | i + 1 => blkS K (longN K p s i) ((p.drop (65536 * i)).take 65536)
def Dg.whole (K : Nat → Int) (d : Dg) (p : List UInt8) : Dg :=
  if p.length < 64 then d
  else { d with s := blkS K (longN K p d.s ((p.length / 64 * 64 - 1) / 65536)) ((p.drop (65536 * ((p.length / 64 * 64 - 1) / 65536))).take (p.length / 64 * 64 - 65536 * ((p.length / 64 * 64 - 1) / 65536))) }
def Dg.rest (d : Dg) (p : List UInt8) : Dg := if p.length = 0 then d else { d with x := over d.x 0 p, nx := p.length }
/-- Write. -/
def Dg.write (K : Nat → Int) (d : Dg) (p : List UInt8) : Dg :=
  (((({ d with len := IntKind.u64.wrap (d.len + p.length) } : Dg).first K p).whole K (d.left p)).rest ((d.left p).drop ((d.left p).length / 64 * 64)))

theorem over_length {x q : List UInt8} {i : Nat} (h : i + q.length ≤ x.length) : (over x i q).length = x.length := by
  simp only [over, List.length_append, List.length_take, List.length_drop]; omega

end Go.Proofs.YthhpmeaajgjdeaaDoor

/- Pc: sha256: copies into a digest's block. -/
namespace Go.Proofs.YthhpmeaajgjdeaaDoor
open Go Go.RowKit

theorem dg_size (s : S8) (x : List UInt8) (nx : Nat) (len : Int) (hx : x.length = 64) : (dgC s (dgRest x nx len)).size = 75 := by
  simp [dgC, dgRest, Lib.byteCells_length, hx]

theorem dg_over (s : S8) (x : List UInt8) (nx : Nat) (len : Int) (i : Nat) (q : List UInt8) (hx : x.length = 64) (hi : i + q.length ≤ 64) :
    ((dgC s (dgRest x nx len)).toList.take (8 + i) ++ Lib.byteCells q ++ (dgC s (dgRest x nx len)).toList.drop (8 + i + (Lib.byteCells q).length)).toArray = dgC s (dgRest (over x i q) nx len) := by
  have e1 : (8 + i) = i + 8 := by omega
  have e2 : 8 + i + (Lib.byteCells q).length = (i + q.length) + 8 := by rw [Lib.byteCells_length]; omega
  rw [e2, e1]
  simp only [dgC, dgRest, List.take_succ_cons, List.drop_succ_cons, List.cons_append, over, Lib.byteCells, List.map_append, List.map_take, List.map_drop]
  congr 1
  rw [List.take_append_of_le_length (by simp; omega), List.drop_append_of_le_length (by simp; omega)]
  simp [List.append_assoc]

/-- A copy of bytes into the digest's own buffer. -/
theorem dg_copy {w : World} {db : Nat} {s : S8} {x : List UInt8} {nx : Nat} {len : Int} (h : w.heap[db]? = some (.cells (dgC s (dgRest x nx len)) 163 (0, 0))) (hx : x.length = 64) (i dn dc : Nat) (q : List UInt8) (b o n c : Nat) (hq : q.length = Nat.min n dn) (hi : i + q.length ≤ 64)
    (hsrc : ∀ k, k < q.length → w.cell? ⟨b, o + k, none⟩ = some (.int .u8 (byteAt q k))) :
    (Builtin.copy_ #[57, 57] 3 #[.slice (some ⟨db, 8 + i, none⟩) dn dc, .slice (some ⟨b, o, none⟩) n c]).run Tryd.prog w = .ok (goInt q.length) (w.setRow db (dgC s (dgRest (over x i q) nx len))) := by
  have hr := run_copy_row (P := Tryd.prog) w 57 57 3 5 db (8 + i) dn dc ⟨b, o, none⟩ n c (dgC s (dgRest x nx len)) 163 (Lib.byteCells q) Tryd.underlying57 byteSize h (by rw [Lib.byteCells_length]; exact hq) (fun j v hj => by
    have hlt : j < q.length := by
      have := (List.getElem?_eq_some_iff.1 hj).1
      rw [Lib.byteCells_length] at this; exact this
    rw [Lib.addr_add, hsrc j hlt]
    simp only [Lib.byteCells, List.getElem?_map, List.getElem?_eq_getElem hlt, Option.map_some] at hj
    rw [← hj]
    simp [byteAt, List.getD_eq_getElem?_getD, List.getElem?_eq_getElem hlt]) (by rw [dg_size _ _ _ _ hx, Lib.byteCells_length]; omega) (Lib.byteCells_one q)
  rw [dg_over s x nx len i q hx hi, Lib.byteCells_length] at hr
  exact hr

end Go.Proofs.YthhpmeaajgjdeaaDoor

/- Pd: sha256: (*Digest).Write over this program. -/
namespace Go.Proofs.YthhpmeaajgjdeaaDoor
open Go Go.RowKit

theorem dgC_get (s : S8) (x : List UInt8) (nx : Nat) (len : Int) (hx : x.length = 64) : (dgC s (dgRest x nx len))[72]? = some (.int .i64 nx) ∧ (dgC s (dgRest x nx len))[73]? = some (.int .u64 len) ∧ (dgC s (dgRest x nx len))[74]? = some (.bool false) := by
  have hl := Lib.byteCells_length x
  rw [hx] at hl
  simp [dgC, dgRest, List.getElem?_append_right, hl]

theorem dgC_len (s : S8) (x : List UInt8) (nx : Nat) (len len' : Int) (hx : x.length = 64) : (dgC s (dgRest x nx len)).setIfInBounds 73 (.int .u64 len') = dgC s (dgRest x nx len') := by
  have hl := Lib.byteCells_length x
  rw [hx] at hl
  simp [dgC, dgRest, List.set_append_right, hl]
theorem dgC_nx (s : S8) (x : List UInt8) (nx nx' : Nat) (len : Int) (hx : x.length = 64) : (dgC s (dgRest x nx len)).setIfInBounds 72 (.int .i64 nx') = dgC s (dgRest x nx' len) := by
  have hl := Lib.byteCells_length x
  rw [hx] at hl
  simp [dgC, dgRest, List.set_append_right, hl]

theorem len161 : Tryd.prog.arrayLen 161 = 64 := by kernel_rfl
theorem size5 (w : World) : (sizeOf (Tryd.prog.elem 161)).run Tryd.prog w = .ok 1 w := by kernel_rfl
/-- The digest's own buffer from a place on. -/
theorem slice161 (db nx : Nat) (h : nx < 64) (w : World) : (Instr.sliceAt 161 (.pointer (some ⟨db, 8, none⟩)) (some (.int .i64 nx)) none none).run Tryd.prog w = .ok (.slice (some ⟨db, 8 + nx, none⟩) (64 - nx) (64 - nx)) w := by
  have hu : Tryd.prog.underlying 161 = some (.array (Tryd.prog.arrayLen 161) (Tryd.prog.elem 161)) := by kernel_rfl
  rw [run_sliceAt_array_l w 161 ⟨db, 8, none⟩ hu .i64 nx (by omega) (by rw [len161]; omega), size5, len161]
  simp only [Result.andThen, slicedAt, Int.toNat_natCast, Nat.mul_one]
  rw [if_neg (by omega), Lib.addr_add]

/-- The buffer's own cells. -/
theorem dgC_x (s : S8) (x : List UInt8) (nx : Nat) (len : Int) (hx : x.length = 64) (k : Nat) (hk : k < 64) : (dgC s (dgRest x nx len))[8 + k]? = some (.int .u8 (byteAt x k)) := by
  have e : 8 + k = k + 8 := by omega
  have hkx : k < x.length := by omega
  rw [e]
  simp only [dgC, dgRest, List.getElem?_toArray, List.getElem?_cons_succ]
  rw [List.getElem?_append_left (by rw [Lib.byteCells_length]; omega)]
  simp [Lib.byteCells, byteAt, List.getD_eq_getElem?_getD, List.getElem?_eq_getElem hkx]

theorem sliceAll161 (db : Nat) (w : World) : (Instr.sliceAt 161 (.pointer (some ⟨db, 8, none⟩)) none none none).run Tryd.prog w = .ok (.slice (some ⟨db, 8, none⟩) 64 64) w := by
  have hu : Tryd.prog.underlying 161 = some (.array (Tryd.prog.arrayLen 161) (Tryd.prog.elem 161)) := by kernel_rfl
  rw [run_sliceAt_array_all w 161 ⟨db, 8, none⟩ hu, size5, len161]
  rfl

theorem andNot_63 (i : Nat) (h : i < 9223372036854775808) : bits .andNot .i64 (i : Int) 63 = ((i / 64 * 64 : Nat) : Int) := by
  show IntKind.i64.wrap ((BitVec.ofInt 64 (i : Int) &&& ~~~BitVec.ofInt 64 ((63 : Nat) : Int)).toNat : Int) = _
  rw [BitVec.toNat_and, BitVec.toNat_not, ofInt_u64 i (by omega), ofInt_u64 63 (by omega)]
  have e : 2 ^ 64 - 1 - 63 = 18446744073709551552 := by decide
  have e2 : i &&& 18446744073709551552 = i % 18446744073709551616 / 64 * 64 := nat_midmask 64 6 i (by decide)
  rw [e, e2, Nat.mod_eq_of_lt (by omega)]
  exact Lib.wrap_i64_small _ (by omega)

/-- What a digest keeps, apart from its state. -/
structure Dg.Ok (d : Dg) : Prop where
  size : d.x.length = 64
  nx64 : d.nx < 64
  mod : (d.nx : Int) = d.len % 64
  len0 : 0 ≤ d.len
  len1 : d.len < 18446744073709551616

theorem DgAt.ok {w : World} {db : Nat} {d : Dg} (h : DgAt w db d) : d.Ok := ⟨h.size, h.nx64, h.mod, h.len0, h.len1⟩
theorem DgAt.mk' {w : World} {db : Nat} {d : Dg} (h : d.Ok) (hb : w.heap[db]? = some (.cells (dgC d.s (dgRest d.x d.nx d.len)) 163 (0, 0))) : DgAt w db d := ⟨hb, h.size, h.nx64, h.mod, h.len0, h.len1⟩

theorem Dg.first_x (K : Nat → Int) (d : Dg) (p : List UInt8) (hx : d.x.length = 64) (h : d.nx < 64) : (d.first K p).x.length = 64 := by
  unfold Dg.first
  split
  · exact hx
  · split
    · simp only; rw [over_length (by omega)]; exact hx
    · simp only; rw [over_length (by rw [List.length_take]; omega)]; exact hx
theorem Dg.first_nx (K : Nat → Int) (d : Dg) (p : List UInt8) (h : d.nx < 64) : (d.first K p).nx = (if d.nx = 0 then 0 else if p.length < 64 - d.nx then d.nx + p.length else 0) := by
  unfold Dg.first
  split
  · assumption
  · split <;> rfl
theorem Dg.left_length (d : Dg) (p : List UInt8) : (d.left p).length = if d.nx = 0 then p.length else p.length - (64 - d.nx) := by
  unfold Dg.left
  split
  · rfl
  · rw [List.length_drop]
theorem Dg.whole_x (K : Nat → Int) (d : Dg) (p : List UInt8) : (d.whole K p).x = d.x ∧ (d.whole K p).nx = d.nx ∧ (d.whole K p).len = d.len := by
  unfold Dg.whole
  split <;> exact ⟨rfl, rfl, rfl⟩
theorem Dg.first_len (K : Nat → Int) (d : Dg) (p : List UInt8) : (d.first K p).len = d.len := by
  unfold Dg.first
  split
  · rfl
  · split <;> rfl
theorem Dg.write_ok (K : Nat → Int) (d : Dg) (p : List UInt8) (h : d.Ok) (hp : p.length ≤ 9223372036854775807) : (d.write K p).Ok := by
  obtain ⟨s, x, nx, len⟩ := d
  obtain ⟨h1, h2, h3, h4, h5⟩ := h
  simp only at h1 h2 h3 h4 h5
  have a1 := Dg.first_x K ⟨s, x, nx, IntKind.u64.wrap (len + p.length)⟩ p h1 h2
  have a2 := Dg.first_nx K ⟨s, x, nx, IntKind.u64.wrap (len + p.length)⟩ p h2
  have a3 := Dg.left_length ⟨s, x, nx, len⟩ p
  have a4 := Dg.first_len K ⟨s, x, nx, IntKind.u64.wrap (len + p.length)⟩ p
  simp only at a2 a3 a4
  obtain ⟨b1, b2, b3⟩ := Dg.whole_x K (Dg.first K ⟨s, x, nx, IntKind.u64.wrap (len + p.length)⟩ p) (Dg.left ⟨s, x, nx, len⟩ p)
  have hw : IntKind.u64.wrap (len + p.length) = (len + p.length) % 18446744073709551616 := IntKind.wrap_u64 _
  have hr : ((Dg.left ⟨s, x, nx, len⟩ p).drop ((Dg.left ⟨s, x, nx, len⟩ p).length / 64 * 64)).length = (Dg.left ⟨s, x, nx, len⟩ p).length % 64 := by rw [List.length_drop]; omega
  have key : (Dg.write K ⟨s, x, nx, len⟩ p).x.length = 64 ∧ (Dg.write K ⟨s, x, nx, len⟩ p).nx = (nx + p.length) % 64 ∧ (Dg.write K ⟨s, x, nx, len⟩ p).len = IntKind.u64.wrap (len + p.length) := by
    unfold Dg.write Dg.rest
    simp only
    split
    · rename_i h0
      rw [hr] at h0
      refine ⟨by rw [b1]; exact a1, ?_, by rw [b3]; exact a4⟩
      rw [b2, a2]
      split at a3 <;> split <;> first | omega | (split <;> omega)
    · rename_i h0
      refine ⟨?_, ?_, ?_⟩
      · show (over _ 0 _).length = 64
        rw [over_length (by rw [hr, b1, a1]; omega), b1]; exact a1
      · show (List.drop _ _).length = _
        rw [hr]
        rw [hr] at h0
        split at a3 <;> omega
      · show (Dg.whole _ _ _).len = _
        rw [b3]; exact a4
  obtain ⟨k1, k2, k3⟩ := key
  refine ⟨k1, by rw [k2]; omega, ?_, ?_, ?_⟩
  · rw [k2, k3, hw]; omega
  · rw [k3, hw]; omega
  · rw [k3, hw]; omega

end Go.Proofs.YthhpmeaajgjdeaaDoor
