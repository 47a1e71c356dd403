/- sha256: the rotations; the loops' bodies and their plain meanings. -/
import Derived.Test.YthhpmeaajgjdeaaDoorX13
import Derived.BigQuiet
import Derived.Deep.RegionHeld3
import Derived.Deep.QuietTactic
import Derived.BigRegion
import Derived.Deep.RegionWith

set_option linter.unusedVariables false
set_option linter.unusedSimpArgs false

/- Oa: sha256: rotation by each of the constants that the block function uses. -/
namespace Go.Proofs.YthhpmeaajgjdeaaDoor
open Go Go.RowKit

def rotl (s : Nat) (x : Int) : Int := bits .or .u32 (IntKind.u32.wrap (x * 2 ^ s)) (x / 2 ^ (32 - s))

set_option maxHeartbeats 1000000 in
theorem rot17 (x : Int) (w : World) : Calls Tryd.prog 110 #[.int .u32 x, .int .i64 (-17)] w fun e w' => e = .returned (.int .u32 (rotl 15 x)) ∧ w' = w := by
  have hb : bits .and .u64 (IntKind.u64.wrap (-17)) 31 = 15 := by decide
  go_enter Tryd.func110, Tryd.ntmps110
  go_wp2
  go_ret
  exact ⟨rfl, rfl⟩

set_option maxHeartbeats 1000000 in
theorem rot19 (x : Int) (w : World) : Calls Tryd.prog 110 #[.int .u32 x, .int .i64 (-19)] w fun e w' => e = .returned (.int .u32 (rotl 13 x)) ∧ w' = w := by
  have hb : bits .and .u64 (IntKind.u64.wrap (-19)) 31 = 13 := by decide
  go_enter Tryd.func110, Tryd.ntmps110
  go_wp2
  go_ret
  exact ⟨rfl, rfl⟩

set_option maxHeartbeats 1000000 in
theorem rot7 (x : Int) (w : World) : Calls Tryd.prog 110 #[.int .u32 x, .int .i64 (-7)] w fun e w' => e = .returned (.int .u32 (rotl 25 x)) ∧ w' = w := by
  have hb : bits .and .u64 (IntKind.u64.wrap (-7)) 31 = 25 := by decide
  go_enter Tryd.func110, Tryd.ntmps110
  go_wp2
  go_ret
  exact ⟨rfl, rfl⟩

set_option maxHeartbeats 1000000 in
theorem rot18 (x : Int) (w : World) : Calls Tryd.prog 110 #[.int .u32 x, .int .i64 (-18)] w fun e w' => e = .returned (.int .u32 (rotl 14 x)) ∧ w' = w := by
  have hb : bits .and .u64 (IntKind.u64.wrap (-18)) 31 = 14 := by decide
  go_enter Tryd.func110, Tryd.ntmps110
  go_wp2
  go_ret
  exact ⟨rfl, rfl⟩

set_option maxHeartbeats 1000000 in
theorem rot6 (x : Int) (w : World) : Calls Tryd.prog 110 #[.int .u32 x, .int .i64 (-6)] w fun e w' => e = .returned (.int .u32 (rotl 26 x)) ∧ w' = w := by
  have hb : bits .and .u64 (IntKind.u64.wrap (-6)) 31 = 26 := by decide
  go_enter Tryd.func110, Tryd.ntmps110
  go_wp2
  go_ret
  exact ⟨rfl, rfl⟩

set_option maxHeartbeats 1000000 in
theorem rot11 (x : Int) (w : World) : Calls Tryd.prog 110 #[.int .u32 x, .int .i64 (-11)] w fun e w' => e = .returned (.int .u32 (rotl 21 x)) ∧ w' = w := by
  have hb : bits .and .u64 (IntKind.u64.wrap (-11)) 31 = 21 := by decide
  go_enter Tryd.func110, Tryd.ntmps110
  go_wp2
  go_ret
  exact ⟨rfl, rfl⟩

set_option maxHeartbeats 1000000 in
theorem rot25 (x : Int) (w : World) : Calls Tryd.prog 110 #[.int .u32 x, .int .i64 (-25)] w fun e w' => e = .returned (.int .u32 (rotl 7 x)) ∧ w' = w := by
  have hb : bits .and .u64 (IntKind.u64.wrap (-25)) 31 = 7 := by decide
  go_enter Tryd.func110, Tryd.ntmps110
  go_wp2
  go_ret
  exact ⟨rfl, rfl⟩

set_option maxHeartbeats 1000000 in
theorem rot2 (x : Int) (w : World) : Calls Tryd.prog 110 #[.int .u32 x, .int .i64 (-2)] w fun e w' => e = .returned (.int .u32 (rotl 30 x)) ∧ w' = w := by
  have hb : bits .and .u64 (IntKind.u64.wrap (-2)) 31 = 30 := by decide
  go_enter Tryd.func110, Tryd.ntmps110
  go_wp2
  go_ret
  exact ⟨rfl, rfl⟩

set_option maxHeartbeats 1000000 in
theorem rot13 (x : Int) (w : World) : Calls Tryd.prog 110 #[.int .u32 x, .int .i64 (-13)] w fun e w' => e = .returned (.int .u32 (rotl 19 x)) ∧ w' = w := by
  have hb : bits .and .u64 (IntKind.u64.wrap (-13)) 31 = 19 := by decide
  go_enter Tryd.func110, Tryd.ntmps110
  go_wp2
  go_ret
  exact ⟨rfl, rfl⟩

set_option maxHeartbeats 1000000 in
theorem rot22 (x : Int) (w : World) : Calls Tryd.prog 110 #[.int .u32 x, .int .i64 (-22)] w fun e w' => e = .returned (.int .u32 (rotl 10 x)) ∧ w' = w := by
  have hb : bits .and .u64 (IntKind.u64.wrap (-22)) 31 = 10 := by decide
  go_enter Tryd.func110, Tryd.ntmps110
  go_wp2
  go_ret
  exact ⟨rfl, rfl⟩

def rotOk (c : Int) : Bool := [-17, -19, -7, -18, -6, -11, -25, -2, -13, -22].contains c
def rotn (c : Int) : Nat := (c % 32).toNat
/-- Rotation by any of them. -/
theorem rotAny (x c : Int) (hc : rotOk c = true) (w : World) : Calls Tryd.prog 110 #[.int .u32 x, .int .i64 c] w fun e w' => e = .returned (.int .u32 (rotl (rotn c) x)) ∧ w' = w := by
  have h : c = -17 ∨ c = -19 ∨ c = -7 ∨ c = -18 ∨ c = -6 ∨ c = -11 ∨ c = -25 ∨ c = -2 ∨ c = -13 ∨ c = -22 := by
    simpa [rotOk] using hc
  rcases h with rfl | rfl | rfl | rfl | rfl | rfl | rfl | rfl | rfl | rfl
  · exact rot17 x w
  · exact rot19 x w
  · exact rot7 x w
  · exact rot18 x w
  · exact rot6 x w
  · exact rot11 x w
  · exact rot25 x w
  · exact rot2 x w
  · exact rot13 x w
  · exact rot22 x w

end Go.Proofs.YthhpmeaajgjdeaaDoor

/- Ob: sha256: words, rounds; the block function's inner loop taken out of the translation (printed by sha.py). -/
namespace Go.Proofs.YthhpmeaajgjdeaaDoor
open Go Go.RowKit

structure S8 where
  a : Int
  b : Int
  c : Int
  d : Int
  e : Int
  f : Int
  g : Int
  h : Int

/-- Bytes that lie from a place on. -/
def BytesAt (w : World) (b o : Nat) (p : List UInt8) : Prop := ∀ (j : Nat) (x : UInt8), p[j]? = some x → w.cell? ⟨b, o + j, none⟩ = some (.int .u8 x.toNat)
/-- Sixty-four words in block q. -/
structure WAt (w : World) (q : Nat) (W : Nat → Int) : Prop where
  blk : ∃ cs, w.heap[q]? = some (.cells cs 189 (0, 0)) ∧ cs.size = 64
  cell : ∀ i, i < 64 → w.cell? ⟨q, i, none⟩ = some (.int .u32 (W i))
theorem WAt.frozen {w : World} {q : Nat} {W : Nat → Int} (h : WAt w q W) (i : Nat) : w.frozen? ⟨q, i, none⟩ = false := by
  obtain ⟨cs, hb, -⟩ := h.blk
  exact Lib.frozen_of_heap hb i
def upd (W : Nat → Int) (i : Nat) (v : Int) : Nat → Int := fun j => if j = i then v else W j
theorem WAt.set {w : World} {q : Nat} {W : Nat → Int} (h : WAt w q W) (i : Nat) (v : Int) : WAt (w.setCell ⟨q, i, none⟩ (.int .u32 v)) q (upd W i v) := by
  obtain ⟨cs, hb, hs⟩ := h.blk
  have hg := Lib.heap_setCell_same (i := i) hb (.int .u32 v)
  refine ⟨⟨_, hg, by simpa using hs⟩, fun j hj => ?_⟩
  have h1 := h.cell j hj
  rw [Lib.cell_of_heap hb] at h1
  rw [Lib.cell_of_heap hg]
  simp only [upd]
  by_cases e : j = i
  · subst e; simp [hs, hj]
  · rw [if_neg e, Array.getElem?_setIfInBounds_ne (Ne.symm e)]; exact h1

/-- A word out of four bytes. -/
def wordI (y0 y1 y2 y3 : Int) : Int := bits .or .u32 (bits .or .u32 (bits .or .u32 (IntKind.u32.wrap (IntKind.u32.wrap y0 * 16777216)) (IntKind.u32.wrap (IntKind.u32.wrap y1 * 65536))) (IntKind.u32.wrap (IntKind.u32.wrap y2 * 256))) (IntKind.u32.wrap y3)
/-- A word out of earlier ones. -/
def schedI (x2 x15 x7 x16 : Int) : Int :=
  IntKind.u32.wrap (IntKind.u32.wrap (IntKind.u32.wrap (bits .xor .u32 (bits .xor .u32 (rotl (rotn (-17)) x2) (rotl (rotn (-19)) x2)) (x2 / 1024) + x7) + bits .xor .u32 (bits .xor .u32 (rotl (rotn (-7)) x15) (rotl (rotn (-18)) x15)) (x15 / 8)) + x16)
def addS (t r : S8) : S8 := ⟨(t.a + r.a) % 4294967296, (t.b + r.b) % 4294967296, (t.c + r.c) % 4294967296, (t.d + r.d) % 4294967296, (t.e + r.e) % 4294967296, (t.f + r.f) % 4294967296, (t.g + r.g) % 4294967296, (t.h + r.h) % 4294967296⟩
theorem cell_off {w : World} {q i j : Nat} {v x : Value} (h : w.cell? ⟨q, j, none⟩ = some v) (hne : ¬ j = i) (hb : ∃ cs, w.heap[q]? = some (.cells cs 189 (0, 0)) ∧ cs.size = 64) : (w.setCell ⟨q, i, none⟩ x).drew.cell? ⟨q, j, none⟩ = some v := by
  obtain ⟨cs, hb, -⟩ := hb
  have hg := Lib.heap_setCell_same (i := i) hb x
  show (w.setCell ⟨q, i, none⟩ x).cell? ⟨q, j, none⟩ = some v
  rw [Lib.cell_of_heap hb] at h
  rw [Lib.cell_of_heap hg, Array.getElem?_setIfInBounds_ne (Ne.symm hne)]
  exact h
def t1I (K : Nat → Int) (r : S8) (i : Nat) (v : Int) : Int :=
  r.h + bits .xor .u32 (bits .xor .u32 (rotl (rotn (-6)) r.e) (rotl (rotn (-11)) r.e)) (rotl (rotn (-25)) r.e) + bits .xor .u32 (bits .and .u32 r.e r.f) (bits .and .u32 (bits .xor .u32 IntKind.u32.max r.e) r.g) + K i + v
def t2I (r : S8) : Int :=
  bits .xor .u32 (bits .xor .u32 (rotl (rotn (-2)) r.a) (rotl (rotn (-13)) r.a)) (rotl (rotn (-22)) r.a) + bits .xor .u32 (bits .xor .u32 (bits .and .u32 r.a r.b) (bits .and .u32 r.a r.c)) (bits .and .u32 r.b r.c)
/-- One round. -/
def stepS (K : Nat → Int) (r : S8) (i : Nat) (v : Int) : S8 := ⟨(t1I K r i v + t2I r) % 4294967296, r.a, r.b, r.c, (r.d + t1I K r i v) % 4294967296, r.e, r.f, r.g⟩

def firstLoop : Code → Option Code
  | .loop c => some c
  | .seq a b => match firstLoop a with
    | some c => some c
    | none => firstLoop b
  | .block _ c => firstLoop c
  | .scope c => firstLoop c
  | .cond _ a b => match firstLoop a with
    | some c => some c
    | none => firstLoop b
  | _ => none
noncomputable def body1 : Code := (Tryd.f64.body.bind firstLoop).getD .skip
noncomputable def body2 : Code := (firstLoop body1).getD .skip

end Go.Proofs.YthhpmeaajgjdeaaDoor
