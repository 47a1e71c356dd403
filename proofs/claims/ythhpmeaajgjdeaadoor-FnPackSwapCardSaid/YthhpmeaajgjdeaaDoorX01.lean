/- The frame that every walk keeps, and bytes.Buffer's growing and resetting, first part. -/
import Derived.WalkKit
import Derived.WalkSpells
import Derived.WalkLawsBesides
import Derived.Lib.BufferAt
import Derived.Lib.BufferOwn
import Derived.Lib.BufferWrite
import Derived.Lib.BufferMore
import Derived.Lib.BufferGrow
import Derived.Lib.BufferSrc
import Derived.Lib.Hide
import Derived.Lib.Walk
import Derived.Lib.AppendZeros
import Derived.Lib.SlBuf
import Derived.Laws.IdiomCopy
import Derived.Laws.CopyRow
import Derived.Laws.MakeOwn
import Derived.Test.YthhpmeaajgjdeaaDoorRows
import Derived.Deep.RegionWith
import Derived.Deep.Draws
import Derived.Deep.QuietTactic
import Derived.BigQuiet
import Derived.Lib.ByteType
import Derived.Lib.Buffer
import Derived.OwnWalk
import Derived.Defers
import Derived.Recover

set_option linter.unusedVariables false
set_option linter.unusedSimpArgs false

/- Fa: Frames: which blocks a call may change, rows that a slice value owns, and a bytes.Buffer that lies at some place in a block. -/
namespace Go.Proofs.YthhpmeaajgjdeaaDoor
open Go Go.RowKit

/-- Only blocks of S may have changed; new blocks may have come. -/
structure Keeps (S : Nat → Prop) (w w' : World) : Prop where
  os : w'.os = w.os
  tape : w'.tape = w.tape
  output : w'.output = w.output
  size : w.heap.size ≤ w'.heap.size
  block : ∀ k, k < w.heap.size → ¬ S k → w'.heap[k]? = w.heap[k]?

/-- A footprint that has grown by what was made between two worlds. -/
def Grow (S : Nat → Prop) (w w' : World) : Nat → Prop := fun k => S k ∨ (w.heap.size ≤ k ∧ k < w'.heap.size)

section
variable {S S' : Nat → Prop} {a w w' w1 w2 : World}
theorem Keeps.refl (S : Nat → Prop) (w : World) : Keeps S w w := ⟨rfl, rfl, rfl, Nat.le_refl _, fun _ _ _ => rfl⟩
theorem Keeps.mono (h : Keeps S w w') (hs : ∀ k, k < w.heap.size → S k → S' k) : Keeps S' w w' := ⟨h.os, h.tape, h.output, h.size, fun k hk hn => h.block k hk fun hS => hn (hs k hk hS)⟩
/-- Two steps; the second may change what was made by the first. -/
theorem Keeps.trans (h : Keeps S w w1) (k : Keeps S' w1 w2) (hs : ∀ j, S' j → S j ∨ w.heap.size ≤ j) : Keeps S w w2 :=
  ⟨k.os.trans h.os, k.tape.trans h.tape, k.output.trans h.output, Nat.le_trans h.size k.size, fun j hj hn =>
    (k.block j (Nat.lt_of_lt_of_le hj h.size) (fun hS => (hs j hS).elim hn (fun h1 => by omega))).trans (h.block j hj hn)⟩
theorem Keeps.trans' (h : Keeps S w w1) (k : Keeps (Grow S w w1) w1 w2) : Keeps S w w2 := h.trans k fun _ hj => hj.imp id (·.1)
theorem Keeps.same (h : Keeps S w w1) (k : Keeps S w1 w2) : Keeps S w w2 := h.trans k fun _ hj => Or.inl hj
theorem Keeps.alloc (h : Keeps S a w) (o : Obj) : Keeps S a (w.alloc o) :=
  h.same ⟨rfl, rfl, rfl, by simp, fun k hk _ => Below.heap_alloc _ _ _ hk⟩
theorem Keeps.drew (h : Keeps S a w) : Keeps S a w.drew := h.same ⟨rfl, rfl, rfl, Nat.le_refl _, fun _ _ _ => rfl⟩
theorem Keeps.drewN (h : Keeps S a w) (n : Nat) : Keeps S a (w.drewN n) := h.same ⟨rfl, rfl, rfl, Nat.le_refl _, fun _ _ _ => rfl⟩
theorem Keeps.setCell (h : Keeps S a w) {p : Addr} (hp : S p.block ∨ a.heap.size ≤ p.block) (v : Value) : Keeps S a (w.setCell p v) :=
  h.trans (S' := fun k => k = p.block) ⟨rfl, rfl, rfl, by simp [World.setCell], fun k hk hn => Below.heap_setCell _ _ _ _ (by simpa using hn)⟩ fun j hj => by subst hj; exact hp
theorem Keeps.setRow (h : Keeps S a w) {g : Nat} (hp : S g ∨ a.heap.size ≤ g) (c : Array Value) : Keeps S a (w.setRow g c) :=
  h.trans (S' := fun k => k = g) ⟨rfl, rfl, rfl, by simp, fun k hk hn => setRow_other _ _ _ _ (by simpa using hn)⟩ fun j hj => by subst hj; exact hp
theorem Keeps.grown {row : Option Nat} (h : Keeps S a w) (hg : w.grownBy w' row) (hr : ∀ k, row = some k → S k ∨ a.heap.size ≤ k) : Keeps S a w' :=
  h.trans (S' := fun k => row = some k) ⟨hg.os, hg.tape, hg.output, hg.size, fun k hk hn => hg.block k hk fun e => hn e.symm⟩ fun j hj => hr j hj
theorem Keeps.below {B : Nat} (h : Keeps S a w) (hb : Below B w w') (hB : a.heap.size ≤ B) : Keeps S a w' :=
  h.trans (S' := fun k => B ≤ k) ⟨hb.os, hb.tape, hb.output, hb.size, fun k _ hn => hb.block k (by omega)⟩ fun j hj => Or.inr (by omega)
theorem Keeps.toBelow {B : Nat} (h : Keeps S w w') (hB : B ≤ w.heap.size) (hS : ∀ k, S k → B ≤ k) : Below B w w' :=
  ⟨h.os, h.tape, h.output, h.size, fun k hk => h.block k (by omega) fun hs => by have := hS k hs; omega⟩
theorem Keeps.heap (h : Keeps S w w') {k : Nat} {o : Obj} (hk : w.heap[k]? = some o) (hn : ¬ S k) : w'.heap[k]? = some o :=
  (h.block k (Lib.lt_of_heap hk) hn).trans hk
theorem Keeps.cell (h : Keeps S w w') {p : Addr} {v : Value} (hc : w.cell? p = some v) (hn : ¬ S p.block) : w'.cell? p = some v :=
  (World.cell?_of_block (h.block p.block (World.block_lt_of_cell? w p hc) hn)).trans hc
theorem Keeps.frozen (h : Keeps S w w') {p : Addr} (hlt : p.block < w.heap.size) (hn : ¬ S p.block) : w'.frozen? p = w.frozen? p :=
  World.frozen?_of_block (h.block p.block hlt hn)
theorem Grow.mono_new (h1 : w.heap.size ≤ w1.heap.size) : ∀ k, Grow (Grow S w w1) w1 w2 k → Grow S w w2 k ∨ w2.heap.size ≤ k := by
  intro k hk
  rcases hk with (hk | hk) | hk
  · exact Or.inl (Or.inl hk)
  · by_cases h : k < w2.heap.size
    · exact Or.inl (Or.inr ⟨hk.1, h⟩)
    · exact Or.inr (by omega)
  · exact Or.inl (Or.inr ⟨by omega, hk.2⟩)
end

/-- The slice v' has v's row, or one that was not there. -/
def Fresh (w : World) (v v' : Value) : Prop := v'.ownBlock = v.ownBlock ∨ ∃ k, v'.ownBlock = some k ∧ w.heap.size ≤ k

theorem Fresh.refl (w : World) (v : Value) : Fresh w v v := Or.inl rfl
theorem Fresh.trans {w w1 : World} {v v1 v2 : Value} (h : Fresh w v v1) (k : Fresh w1 v1 v2) (hs : w.heap.size ≤ w1.heap.size) : Fresh w v v2 := by
  rcases k with k | ⟨j, k, hj⟩
  · rcases h with h | ⟨i, h, hi⟩
    · exact Or.inl (k.trans h)
    · exact Or.inr ⟨i, k.trans h, hi⟩
  · exact Or.inr ⟨j, k, by omega⟩

/-- An owned row while other blocks change. -/
theorem ownsRow_keeps {S : Nat → Prop} {w w' : World} {base : Nat} {e : TypeId} {size : Nat} {v : Value} {n : Nat} {xs : List Value} (h : w.ownsRow base e size v n xs) (hk : Keeps S w w') (hn : ∀ k, v.ownBlock = some k → ¬ S k) :
    w'.ownsRow base e size v n xs := by
  refine ⟨h.1, ?_⟩
  rcases h.2 with h2 | ⟨g, cap, cur, rfl, hb, hg, r⟩
  · exact Or.inl h2
  · exact Or.inr ⟨g, cap, cur, rfl, hb, hk.heap hg (hn g rfl), r⟩

/-- append with the news' row told: the old row or a new one. -/
theorem run_append_fresh {P : Program} (w : World) (t ty e : TypeId) (i : TypeInfo) (z : Value) (size bytes : Nat) (ht : P.underlying t = some (.slice e)) (hi : P.info? e = some i) (hz : i.zero = some z)
    (hsize : i.size = size) (hby : i.bytes = bytes) (hzs : z.cells.size = size) (hsz : 0 < size)
    (v : Value) (n : Nat) (xs : List Value) (hown : w.ownsRow 0 e size v n xs)
    (a : Addr) (m c : Nat) (news : List Value) (hl : news.length = m * size) (hnews : ∀ j u, news[j]? = some u → w.cell? (a.add j) = some u) (h1 : ∀ u ∈ news, u.oneCell' = true)
    (h63 : n + m ≤ maxLen) (hbytes : (n + m) * bytes ≤ 140737488355328) :
    ∃ v' w', (Builtin.append_ #[t, t] ty #[v, .slice (some a) m c]).run P w = .ok v' w' ∧ w'.ownsRow 0 e size v' (n + m) (xs ++ news) ∧ w.grownBy w' v.ownBlock ∧ Fresh w v v' := by
  subst hsize
  subst hby
  have hsmall : n + m ≤ 9223372036854775807 := by simp only [maxLen] at h63; omega
  have hlen : (xs ++ news).length = (n + m) * i.size := by rw [List.length_append, hown.1, hl, Nat.add_mul]
  have grown : ∀ (old : Nat), old < n + m → ∀ (row : Option Nat),
      (w.drew.alloc (.cells (xs.toArray ++ news.toArray ++ Builtin.zeroCells z.cells (grownCap w (n + m) old e - (n + m))) e)).ownsRow 0 e i.size
        (.slice (some ⟨w.heap.size, 0, none⟩) (n + m) (grownCap w (n + m) old e)) (n + m) (xs ++ news) ∧
      w.grownBy (w.drew.alloc (.cells (xs.toArray ++ news.toArray ++ Builtin.zeroCells z.cells (grownCap w (n + m) old e - (n + m))) e)) row := by
    intro old ho row
    have hge := grownCap_ge w (n + m) old e
    have hcm : grownCap w (n + m) old e ≤ maxLen := grownCap_le_maxLen w (n + m) old e h63
    refine ⟨⟨hlen, .inr ⟨w.heap.size, _, _, rfl, Nat.zero_le _, heap_alloc_new w.drew _, hge, hcm, ?_, ?_⟩⟩, ⟨rfl, rfl, rfl, by simp, fun k hk _ => Below.heap_alloc w.drew _ k hk⟩⟩
    · simp only [Array.size_append, List.size_toArray, size_zeroCells, hzs, hown.1, hl, ← Nat.add_mul]
      congr 1
      omega
    · simp only [Array.toList_append, List.append_assoc]
      rw [← List.append_assoc, ← hlen]
      exact List.take_left
  rcases hown.2 with ⟨rfl, rfl⟩ | ⟨g, cap, cur, rfl, hbg, hg, hnc, hcm, hcs, htake⟩
  · have hx : xs = [] := List.eq_nil_of_length_eq_zero (by simpa using hown.1)
    subst hx
    by_cases hm : m = 0
    · subst hm
      have hn : news = [] := List.eq_nil_of_length_eq_zero (by simpa using hl)
      subst hn
      refine ⟨.slice none 0 0, w, ?_, World.ownsRow_nil w 0 e i.size, ⟨rfl, rfl, rfl, Nat.le_refl _, fun _ _ _ => rfl⟩, Fresh.refl _ _⟩
      simp [Builtin.append_, run_underlying ht, sizeOf, typeInfo, hi, Builtin.lenOf, Builtin.firstCells, loadCells, loadCellsFrom]
    · have hr := run_append_nil (P := P) w t ty e i z ht hi hz a m c news hl hnews (by omega) (by omega) (by have hb := hbytes; simp only [Nat.zero_add] at hb; omega)
      have hgr := grown 0 (by omega) (Value.ownBlock (.slice none 0 0))
      simp only [Nat.zero_add, List.nil_append, Array.empty_append] at hgr ⊢
      exact ⟨_, _, hr, hgr.1, hgr.2, Or.inr ⟨w.heap.size, rfl, Nat.le_refl _⟩⟩
  · by_cases hroom : n + m ≤ cap
    · have hfit : n * i.size + news.length ≤ cur.size := by rw [hl, hcs, ← Nat.add_mul]; exact Nat.mul_le_mul_right _ hroom
      have hr := run_append_room (P := P) w t ty e i ht hi g n cap cur hg a m c news hl hnews h1 hroom hfit
      refine ⟨_, _, hr, ⟨hlen, .inr ⟨g, cap, _, rfl, hbg, setRow_heap w g cur _ e _ hg, hroom, hcm, ?_, ?_⟩⟩, ⟨rfl, rfl, rfl, by simp, fun k _ hk => setRow_other w g k _ (fun e => hk (by simp [Value.ownBlock, e]))⟩, Or.inl rfl⟩
      · simp only [List.size_toArray, List.length_append, List.length_take, List.length_drop, Array.length_toList]
        omega
      · rw [htake, ← hlen]
        exact List.take_left
    · have holds : ∀ j u, xs[j]? = some u → w.cell? ((⟨g, 0, none⟩ : Addr).add j) = some u := hown.cells (g := g) rfl
      have hr := run_append_grow (P := P) w t ty e i z ht hi hz ⟨g, 0, none⟩ n cap xs hown.1 holds a m c news hl hnews (by omega) (by omega) (growslice_fits (by omega) hbytes)
      have hgr := grown cap (by omega) (Value.ownBlock (.slice (some ⟨g, 0, none⟩) n cap))
      exact ⟨_, _, hr, hgr.1, hgr.2, Or.inr ⟨w.heap.size, rfl, Nat.le_refl _⟩⟩

/-- A bytes.Buffer at place q of block b (of tag T, the other cells as R says): its slice v, what it holds; nothing read. -/
def Bf (w : World) (b q : Nat) (T : TypeId) (R : Nat → Option Value) (v : Value) (bs : List Value) : Prop :=
  ∃ lr, LibA.Three w b q T R v (.int .i64 0) (.int .i8 lr) ∧ w.ownsRow 0 5 1 v bs.length bs ∧ v.ownBlock ≠ some b

/-- What a buffer's writers may change. -/
def BfS (b : Nat) (v : Value) : Nat → Prop := fun k => k = b ∨ v.ownBlock = some k

/-- What a writer leaves: the bytes, the row, the frame. -/
def BfPut (w : World) (b q : Nat) (T : TypeId) (R : Nat → Option Value) (v : Value) (bs : List Value) (w' : World) : Prop :=
  ∃ v', Bf w' b q T R v' bs ∧ Fresh w v v' ∧ Keeps (BfS b v) w w'

theorem three_keeps {S : Nat → Prop} {w w' : World} {b q : Nat} {T : TypeId} {R : Nat → Option Value} {x y z : Value} (h : LibA.Three w b q T R x y z) (hk : Keeps S w w') (hn : ¬ S b) : LibA.Three w' b q T R x y z :=
  h.of_heap (hk.block b h.lt hn)

theorem Bf.keeps {S : Nat → Prop} {w w' : World} {b q : Nat} {T : TypeId} {R : Nat → Option Value} {v : Value} {bs : List Value} (h : Bf w b q T R v bs) (hk : Keeps S w w') (hn : ∀ k, BfS b v k → ¬ S k) : Bf w' b q T R v bs := by
  obtain ⟨lr, h3, ho, hne⟩ := h
  exact ⟨lr, three_keeps h3 hk (hn b (Or.inl rfl)), ownsRow_keeps ho hk fun k e => hn k (Or.inr e), hne⟩

theorem Bf.cases {w : World} {b q : Nat} {T : TypeId} {R : Nat → Option Value} {v : Value} {bs : List Value} (h : Bf w b q T R v bs) :
    ∃ lr, (v = .slice none 0 0 ∧ bs = [] ∧ LibA.Three w b q T R v (.int .i64 0) (.int .i8 lr)) ∨
      ∃ g cap cur, v = .slice (some ⟨g, 0, none⟩) bs.length cap ∧ LibA.Three w b q T R (.slice (some ⟨g, 0, none⟩) bs.length cap) (.int .i64 0) (.int .i8 lr) ∧ w.heap[g]? = some (.cells cur 5 (0, 0)) ∧ bs.length ≤ cap ∧ cap ≤ maxLen ∧ cur.size = cap ∧ cur.toList.take bs.length = bs ∧ g ≠ b := by
  obtain ⟨lr, hbk, hown, hne⟩ := h
  refine ⟨lr, ?_⟩
  rcases hown.2 with ⟨rfl, h0⟩ | ⟨g, cap, cur, rfl, hBg, hg, hnc, hcm, hcs, htk⟩
  · exact Or.inl ⟨rfl, List.eq_nil_of_length_eq_zero h0, hbk⟩
  · exact Or.inr ⟨g, cap, cur, rfl, hbk, hg, hnc, hcm, by simpa using hcs, by simpa using htk, fun e => hne (by simp [Value.ownBlock, e])⟩

theorem bf_mk {w : World} {b q : Nat} {T : TypeId} {R : Nat → Option Value} {g n cap : Nat} {lr : Int} {cur : Array Value} (hbk : LibA.Three w b q T R (.slice (some ⟨g, 0, none⟩) n cap) (.int .i64 0) (.int .i8 lr)) (hg : w.heap[g]? = some (.cells cur 5 (0, 0)))
    (hnc : n ≤ cap) (hcm : cap ≤ maxLen) (hcs : cur.size = cap) (hgb : g ≠ b) : Bf w b q T R (.slice (some ⟨g, 0, none⟩) n cap) (cur.toList.take n) := by
  have hlen : (cur.toList.take n).length = n := by rw [List.length_take, Array.length_toList]; omega
  refine ⟨lr, hbk, ⟨by rw [hlen, Nat.mul_one], .inr ⟨g, cap, cur, by rw [hlen], Nat.zero_le _, hg, by rw [hlen]; exact hnc, hcm, by rw [Nat.mul_one]; exact hcs, by rw [hlen, Nat.mul_one]⟩⟩, ?_⟩
  simp only [Value.ownBlock, ne_eq, Option.some.injEq]
  exact hgb

theorem bf_zero {w : World} {b q : Nat} {T : TypeId} {R : Nat → Option Value} {lr : Int} (h : LibA.Three w b q T R (.slice none 0 0) (.int .i64 0) (.int .i8 lr)) : Bf w b q T R (.slice none 0 0) [] :=
  ⟨lr, h, World.ownsRow_nil _ _ _ _, by simp [Value.ownBlock]⟩

end Go.Proofs.YthhpmeaajgjdeaaDoor

/- Fb: The contracts of bytes.Buffer's own functions over this program: room, growth, Len, Reset. -/
namespace Go.Proofs.YthhpmeaajgjdeaaDoor
open Go Go.RowKit

theorem byteInfo : (Tryd.prog.info? 5).map (fun i => (i.zero, i.size, i.bytes)) = some (some (.int .u8 0), 1, 1) := by kernel_rfl

set_option maxHeartbeats 400000 in
theorem tryGrow_room (b q : Nat) (ao : Option Addr) (l cap n : Nat) (w : World) (c0 : w.cell? ⟨b, q, none⟩ = some (.slice ao l cap)) (f0 : w.frozen? ⟨b, q, none⟩ = false)
    (hlc : l ≤ cap) (hcap : cap ≤ maxLen) (hn : n ≤ cap - l) :
    Calls Tryd.prog 51 #[.pointer (some ⟨b, q, none⟩), .int .i64 n] w fun e w' => e = .returned (.tuple #[.int .i64 l, .bool true]) ∧ w' = w.setCell ⟨b, q, none⟩ (.slice ao (l + n) cap) := by
  unfold maxLen at hcap
  go_enter Tryd.func51, Tryd.ntmps51
  go_wp2
  go_ret2
  exact ⟨rfl, rfl⟩

set_option maxHeartbeats 400000 in
theorem tryGrow_none (b q : Nat) (ao : Option Addr) (l cap n : Nat) (w : World) (c0 : w.cell? ⟨b, q, none⟩ = some (.slice ao l cap))
    (hlc : l ≤ cap) (hcap : cap ≤ maxLen) (hn : cap - l < n) :
    Calls Tryd.prog 51 #[.pointer (some ⟨b, q, none⟩), .int .i64 n] w fun e w' => e = .returned (.tuple #[.int .i64 0, .bool false]) ∧ w' = w := by
  unfold maxLen at hcap
  go_enter Tryd.func51, Tryd.ntmps51
  go_wp2
  go_ret2
  exact ⟨rfl, rfl⟩

theorem bf_cells {w : World} {b q : Nat} {T : TypeId} {R : Nat → Option Value} {v : Value} {bs : List Value} (h : Bf w b q T R v bs) :
    ∃ ao cap, v = .slice ao bs.length cap ∧ bs.length ≤ cap ∧ cap ≤ 9223372036854775807 ∧ w.cell? ⟨b, q, none⟩ = some (.slice ao bs.length cap) ∧ w.cell? ⟨b, q + 1, none⟩ = some (.int .i64 0) := by
  obtain ⟨lr, h3, hown, hne⟩ := h
  rcases hown.2 with ⟨rfl, h0⟩ | ⟨g, cap, cur, rfl, -, -, h1, h2, -⟩
  · exact ⟨none, 0, by rw [h0], by omega, by omega, by rw [h0]; exact h3.c0, h3.c1⟩
  · exact ⟨_, cap, rfl, h1, by simpa [maxLen] using h2, h3.c0, h3.c1⟩

set_option maxHeartbeats 400000 in
theorem bufLen (b q : Nat) (T : TypeId) (R : Nat → Option Value) (v : Value) (bs : List Value) (w : World) (h : Bf w b q T R v bs) :
    Calls Tryd.prog 60 #[.pointer (some ⟨b, q, none⟩)] w fun e w' => e = .returned (.int .i64 bs.length) ∧ ∃ n, w' = w.drewN n := by
  obtain ⟨ao, cap, rfl, h1, h2, c0, c1⟩ := bf_cells h
  go_enter Tryd.func60, Tryd.ntmps60
  go_wp2
  go_region
  all_goals (go_wp2; go_ret; exact ⟨by simp, 1, rfl⟩)

set_option maxHeartbeats 400000 in
theorem bufReset (b q : Nat) (T : TypeId) (R : Nat → Option Value) (v : Value) (off lr : Int) (n : Nat) (xs : List Value) (w : World) (h3 : LibA.Three w b q T R v (.int .i64 off) (.int .i8 lr))
    (hown : w.ownsRow 0 5 1 v n xs) (hne : v.ownBlock ≠ some b) :
    Calls Tryd.prog 61 #[.pointer (some ⟨b, q, none⟩)] w fun e w' => e = .returned (.tuple #[]) ∧ ∃ v', Bf w' b q T R v' [] ∧ v'.ownBlock = v.ownBlock ∧ Keeps (fun k => k = b) w w' := by
  obtain ⟨ao, cap, rfl, h1, h2⟩ : ∃ ao cap, v = .slice ao n cap ∧ n ≤ cap ∧ cap ≤ 9223372036854775807 := by
    rcases hown.2 with ⟨rfl, h0⟩ | ⟨g, cap, cur, rfl, -, -, h1, h2, -⟩
    · exact ⟨none, 0, by rw [h0], by omega, by omega⟩
    · exact ⟨_, cap, rfl, h1, by simpa [maxLen] using h2⟩
  have c0 := h3.c0
  have c1 := h3.c1
  have c2 := h3.c2
  have f0 := h3.f q
  have f1 := h3.f (q + 1)
  have f2 := h3.f (q + 2)
  go_enter Tryd.func61, Tryd.ntmps61
  go_wp2
  go_end0
  have hob : (Value.slice ao 0 cap).ownBlock = (Value.slice ao n cap).ownBlock := by cases ao <;> rfl
  have hk : Keeps (fun k => k = b) w (((w.setCell ⟨b, q, none⟩ (.slice ao 0 cap)).setCell ⟨b, q + 1, none⟩ (.int .i64 0)).setCell ⟨b, q + 2, none⟩ (.int .i8 0)) :=
    (((Keeps.refl _ _).setCell (by exact Or.inl rfl) _).setCell (by exact Or.inl rfl) _).setCell (by exact Or.inl rfl) _
  refine ⟨rfl, .slice ao 0 cap, ⟨0, ((h3.set0 _).set1 _).set2 _, ?_, ?_⟩, hob, hk⟩
  · refine ownsRow_keeps ⟨rfl, ?_⟩ hk (fun k e he => hne (by rw [← he, ← hob]; exact e))
    rcases hown.2 with ⟨h, h0⟩ | ⟨g, cap', cur, h, hb, hg, hnc, hcm, hcs, htk⟩
    · cases h; exact Or.inl ⟨rfl, rfl⟩
    · cases h; exact Or.inr ⟨g, cap, cur, rfl, hb, hg, by simp, hcm, hcs, by simp⟩
  · rw [hob]; exact hne

end Go.Proofs.YthhpmeaajgjdeaaDoor

/- Fc: The contracts of bytes.growSlice and of Buffer's grow over this program. -/
namespace Go.Proofs.YthhpmeaajgjdeaaDoor
open Go Go.RowKit

theorem catch_idle (w : World) :
    CallsD Tryd.prog 66 #[] .returning w fun e u' w' => e = .returned (.tuple #[]) ∧ u' = .returning ∧ w' = w := by
  have hnn : ∀ w, (binOp .neq 20 .nilIface .nilIface).run Tryd.prog w = .ok (.bool false) w := fun w => Lib.run_neq_nil_nil w Tryd.underlying20
  refine callsD_of_wpS Tryd.func66 rfl fun c₀ cs hu => ?_
  apply wpS_seq
  apply wpS_region
  simp [wpOpsS, go_sem, recoverD, hu, hnn, Tryd.ntmps66, Exit.thenS]
  refine wpS_cond (t := false) (by simp [Act.eval, Array.replicate]) ?_
  simp only [Bool.false_eq_true, if_false]
  refine wpS_of_wp (wp_skip ?_)
  cases c₀
  simp_all [bodyPostS, results, (show Tryd.f66.results = #[] from rfl)]

set_option maxHeartbeats 800000 in
set_option maxRecDepth 100000 in
/-- growSlice of a row. -/
theorem growSlice_row (g l c n : Nat) (cur : Array Value) (w : World) (hg : w.heap[g]? = some (.cells cur 5 (0, 0))) (hcs : cur.size = c) (hlc : l ≤ c) (hn : 1 ≤ n)
    (hlim : l + n ≤ 140737488355328) (hc2 : c ≤ 140737488355328) (h1 : ∀ v ∈ cur.toList.take l, v.oneCell' = true) :
    Calls Tryd.prog 62 #[.slice (some ⟨g, 0, none⟩) l c, .int .i64 n] w fun e w' => ∃ cap2 cells, e = .returned (.slice (some ⟨w.heap.size, 0, none⟩) l cap2) ∧ w'.heap[w.heap.size]? = some (.cells cells 5 (0, 0)) ∧
      cells.size = cap2 ∧ cells.toList.take l = cur.toList.take l ∧ l + n ≤ cap2 ∧ cap2 ≤ maxLen ∧ Below w.heap.size w w' := by
  obtain ⟨i0, hi, hz0, hz1, hz2⟩ := info_parts byteInfo
  have hsz1 : (Tryd.prog.info? 5).map (·.size) = some 1 := by rw [hi]; simp [hz1]
  by_cases hC : l + n < 2 * c
  · have happ := Lib.run_append_nil_zeros (P := Tryd.prog) w 57 3 57 5 i0 (.int .u8 0) .i64 .i64 Tryd.underlying57 Tryd.underlying3 hi hz0 (2 * c) (by omega) (by omega) (by omega) (by rw [hz2]; omega)
    rw [show (((2 * c : Nat)) : Int) = 2 * (c : Int) by omega] at happ
    generalize hcap : grownCap w (2 * c) 0 5 = cap2 at happ
    have hcapge : 2 * c ≤ cap2 := by rw [← hcap]; exact grownCap_ge w _ 0 5
    have hcaple : cap2 ≤ maxLen := by rw [← hcap]; exact grownCap_le_maxLen w _ 0 5 (by unfold maxLen; omega)
    generalize hZ : (Builtin.zeroCells (Value.int .u8 0).cells (2 * c) ++ Builtin.zeroCells (Value.int .u8 0).cells (cap2 - (2 * c))) = Z at happ
    have hZs : Z.size = cap2 := by rw [← hZ]; simp [size_zeroCells, Value.cells]; omega
    clear hcap hZ
    have hgl := Lib.lt_of_heap hg
    have hg1 : (w.alloc (.cells Z 5)).drew.heap[g]? = some (.cells cur 5 (0, 0)) := by show (w.alloc (.cells Z 5)).heap[g]? = _; rw [RowKit.Below.heap_alloc w _ g hgl]; exact hg
    have hxl : (cur.toList.take l).length = l := by rw [List.length_take, Array.length_toList]; omega
    have hcopy := run_copy_row (P := Tryd.prog) (w.alloc (.cells Z 5)).drew 57 57 3 5 w.heap.size 0 (2 * c) cap2 ⟨g, 0, none⟩ l c Z 5 (cur.toList.take l) Tryd.underlying57 hsz1 (heap_alloc_new w _) (by rw [hxl]; exact (Nat.min_eq_left (by omega)).symm) (Lib.cells_of_row hg1 l) (by rw [hxl]; omega) h1
    rw [hxl] at hcopy
    generalize hY : (Z.toList.take 0 ++ cur.toList.take l ++ Z.toList.drop (0 + l)).toArray = Y at hcopy
    go_enter_defers Tryd.func62, Tryd.ntmps62
    go_wp2_with (at_builtin; refine Lib.wpList_append_run _ rfl _ _ _ _ rfl _ _ rfl rfl _ _ happ ?_)
    refine leaves_cons (f := 66) (args := #[]) (by simp) (enters_of Tryd.func66 (by kernel_rfl) rfl _ _) ?_
    refine (catch_idle _).mono ?_
    rintro e u' w'' ⟨rfl, rfl, rfl⟩
    refine ⟨_, results_tmp rfl _ _ _, ?_⟩
    have hYl : Y.toList = cur.toList.take l ++ Z.toList.drop l := by rw [← hY]; simp
    refine ⟨cap2, Y, rfl, setRow_heap _ _ Z Y 5 (0, 0) (heap_alloc_new w _), ?_, ?_, by omega, hcaple, ?_⟩
    · have : Y.toList.length = cap2 := by rw [hYl, List.length_append, hxl, List.length_drop, Array.length_toList, hZs]; omega
      simpa using this
    · rw [hYl, List.take_append_of_le_length (by rw [hxl]; exact Nat.le_refl _), List.take_of_length_le (by rw [hxl]; exact Nat.le_refl _)]
    · exact ⟨rfl, rfl, rfl, by simp, fun k hk => by rw [setRow_other _ _ _ _ (by omega)]; exact Below.heap_alloc w _ k hk⟩
  · have happ := Lib.run_append_nil_zeros (P := Tryd.prog) w 57 3 57 5 i0 (.int .u8 0) .i64 .i64 Tryd.underlying57 Tryd.underlying3 hi hz0 (l + n) (by omega) (by omega) (by omega) (by rw [hz2]; omega)
    rw [show (((l + n : Nat)) : Int) = (l : Int) + (n : Int) by omega] at happ
    generalize hcap : grownCap w (l + n) 0 5 = cap2 at happ
    have hcapge : l + n ≤ cap2 := by rw [← hcap]; exact grownCap_ge w _ 0 5
    have hcaple : cap2 ≤ maxLen := by rw [← hcap]; exact grownCap_le_maxLen w _ 0 5 (by unfold maxLen; omega)
    generalize hZ : (Builtin.zeroCells (Value.int .u8 0).cells (l + n) ++ Builtin.zeroCells (Value.int .u8 0).cells (cap2 - (l + n))) = Z at happ
    have hZs : Z.size = cap2 := by rw [← hZ]; simp [size_zeroCells, Value.cells]; omega
    clear hcap hZ
    have hgl := Lib.lt_of_heap hg
    have hg1 : (w.alloc (.cells Z 5)).drew.heap[g]? = some (.cells cur 5 (0, 0)) := by show (w.alloc (.cells Z 5)).heap[g]? = _; rw [RowKit.Below.heap_alloc w _ g hgl]; exact hg
    have hxl : (cur.toList.take l).length = l := by rw [List.length_take, Array.length_toList]; omega
    have hcopy := run_copy_row (P := Tryd.prog) (w.alloc (.cells Z 5)).drew 57 57 3 5 w.heap.size 0 (l + n) cap2 ⟨g, 0, none⟩ l c Z 5 (cur.toList.take l) Tryd.underlying57 hsz1 (heap_alloc_new w _) (by rw [hxl]; exact (Nat.min_eq_left (by omega)).symm) (Lib.cells_of_row hg1 l) (by rw [hxl]; omega) h1
    rw [hxl] at hcopy
    generalize hY : (Z.toList.take 0 ++ cur.toList.take l ++ Z.toList.drop (0 + l)).toArray = Y at hcopy
    go_enter_defers Tryd.func62, Tryd.ntmps62
    go_wp2_with (at_builtin; refine Lib.wpList_append_run _ rfl _ _ _ _ rfl _ _ rfl rfl _ _ happ ?_)
    refine leaves_cons (f := 66) (args := #[]) (by simp) (enters_of Tryd.func66 (by kernel_rfl) rfl _ _) ?_
    refine (catch_idle _).mono ?_
    rintro e u' w'' ⟨rfl, rfl, rfl⟩
    refine ⟨_, results_tmp rfl _ _ _, ?_⟩
    have hYl : Y.toList = cur.toList.take l ++ Z.toList.drop l := by rw [← hY]; simp
    refine ⟨cap2, Y, rfl, setRow_heap _ _ Z Y 5 (0, 0) (heap_alloc_new w _), ?_, ?_, by omega, hcaple, ?_⟩
    · have : Y.toList.length = cap2 := by rw [hYl, List.length_append, hxl, List.length_drop, Array.length_toList, hZs]; omega
      simpa using this
    · rw [hYl, List.take_append_of_le_length (by rw [hxl]; exact Nat.le_refl _), List.take_of_length_le (by rw [hxl]; exact Nat.le_refl _)]
    · exact ⟨rfl, rfl, rfl, by simp, fun k hk => by rw [setRow_other _ _ _ _ (by omega)]; exact Below.heap_alloc w _ k hk⟩


set_option maxHeartbeats 800000 in
set_option maxRecDepth 100000 in
/-- growSlice of the nil slice. -/
theorem growSlice_nil (n : Nat) (w : World) (hn : 1 ≤ n) (hlim : n ≤ 140737488355328) :
    Calls Tryd.prog 62 #[.slice none 0 0, .int .i64 n] w fun e w' => ∃ cap2 cells, e = .returned (.slice (some ⟨w.heap.size, 0, none⟩) 0 cap2) ∧ w'.heap[w.heap.size]? = some (.cells cells 5 (0, 0)) ∧
      cells.size = cap2 ∧ n ≤ cap2 ∧ cap2 ≤ maxLen ∧ Below w.heap.size w w' := by
  obtain ⟨i0, hi, hz0, hz1, hz2⟩ := info_parts byteInfo
  have happ := Lib.run_append_nil_zeros (P := Tryd.prog) w 57 3 57 5 i0 (.int .u8 0) .i64 .i64 Tryd.underlying57 Tryd.underlying3 hi hz0 n (by omega) (by omega) (by omega) (by rw [hz2]; omega)
  generalize hcap : grownCap w n 0 5 = cap2 at happ
  have hcapge : n ≤ cap2 := by rw [← hcap]; exact grownCap_ge w _ 0 5
  have hcaple : cap2 ≤ maxLen := by rw [← hcap]; exact grownCap_le_maxLen w _ 0 5 (by unfold maxLen; omega)
  generalize hZ : (Builtin.zeroCells (Value.int .u8 0).cells n ++ Builtin.zeroCells (Value.int .u8 0).cells (cap2 - n)) = Z at happ
  have hZs : Z.size = cap2 := by rw [← hZ]; simp [size_zeroCells, Value.cells]; omega
  clear hcap hZ
  have hcopy := run_copy_nil (P := Tryd.prog) (w.alloc (.cells Z 5)).drew 57 57 3 5 ⟨w.heap.size, 0, none⟩ n cap2 Tryd.underlying57 (by rw [hi]; rfl)
  go_enter_defers Tryd.func62, Tryd.ntmps62
  go_wp2_with (at_builtin; refine Lib.wpList_append_run _ rfl _ _ _ _ rfl _ _ rfl rfl _ _ happ ?_)
  refine leaves_cons (f := 66) (args := #[]) (by simp) (enters_of Tryd.func66 (by kernel_rfl) rfl _ _) ?_
  refine (catch_idle _).mono ?_
  rintro e u' w'' ⟨rfl, rfl, rfl⟩
  refine ⟨_, results_tmp rfl _ _ _, ?_⟩
  exact ⟨cap2, Z, rfl, heap_alloc_new w _, hZs, hcapge, hcaple, ⟨rfl, rfl, rfl, by simp, fun k hk => Below.heap_alloc w _ k hk⟩⟩

/-- What grow leaves: the old bytes and n more of whatever, in a new row. -/
def Grown1 (w : World) (b q n : Nat) (T : TypeId) (R : Nat → Option Value) (bs : List Value) (w' : World) : Prop :=
  ∃ xs v', xs.length = n ∧ Bf w' b q T R v' (bs ++ xs) ∧ (∃ k, v'.ownBlock = some k ∧ w.heap.size ≤ k) ∧ Keeps (fun k => k = b) w w'

end Go.Proofs.YthhpmeaajgjdeaaDoor

/- Fd: Buffer's grow over this program: no row yet, at most 64 bytes. -/
namespace Go.Proofs.YthhpmeaajgjdeaaDoor
open Go Go.RowKit

set_option maxHeartbeats 1600000 in
set_option maxRecDepth 100000 in
/-- grow, 'buf' nil, n AT MOST 64. -/
theorem grow_nil_small (T : TypeId) (R : Nat → Option Value) (b q n : Nat) (lr : Int) (w : World)
    (hbk : LibA.Three w b q T R (.slice none 0 0) (.int .i64 0) (.int .i8 lr)) (hn : 1 ≤ n) (h64 : n ≤ 64) :
    Calls Tryd.prog 52 #[.pointer (some ⟨b, q, none⟩), .int .i64 n] w fun e w' => e = .returned (.int .i64 0) ∧ Grown1 w b q n T R [] w' := by
  obtain ⟨i0, hi, hz0, hz1, hz2⟩ := info_parts byteInfo
  obtain ⟨M, hM⟩ : ∃ M, M = madeCells (Value.int .u8 0).cells ((64 : Int).toNat * i0.size) := ⟨_, rfl⟩
  have hMs : M.size = 64 := by rw [hM, size_madeCells, hz1]; rfl
  have hmk : ∀ W : World, (Instr.makeSlice 57 (.int .i64 (n : Int)) (.int .i64 64)).run Tryd.prog W = .ok (.slice (some ⟨W.heap.size, 0, none⟩) n 64) (W.alloc (.cells M 5)) := fun W => by
    have h := run_makeSlice (P := Tryd.prog) W 57 5 i0 (.int .u8 0) Tryd.underlying57 hi hz0 .i64 .i64 (n : Int) 64 (by omega) (by omega) (by rw [hz1]; decide) (by rw [hz2]; decide) (by decide)
    rw [← hM] at h
    simpa using h
  clear hM
  have hIs := bf_zero hbk
  have hnil : ∀ W, (binOp .eql 57 (.slice none 0 0) (.slice none 0 0)).run Tryd.prog W = .ok (.bool true) W := fun W => Lib.run_eql_slice_nil_nil W _ _ Tryd.underlying57
  go_enter Tryd.func52, Tryd.ntmps52
  go_wp2_with (go_at_call 60; refine (bufLen b q T R _ _ _ hIs).mono ?_)
  rintro e W0 ⟨rfl, k, hW0⟩
  have hbk0 : LibA.Three W0 b q T R (.slice none 0 0) (.int .i64 0) (.int .i8 lr) := by rw [hW0]; exact hbk
  have c0 : W0.cell? ⟨b, q, none⟩ = some (.slice none 0 0) := hbk0.c0
  have c1 : W0.cell? ⟨b, q + 1, none⟩ = some (.int .i64 0) := hbk0.c1
  have f0 : W0.frozen? ⟨b, q, none⟩ = false := hbk0.f q
  have f1 : W0.frozen? ⟨b, q + 1, none⟩ = false := hbk0.f (q + 1)
  have hbW0 := hbk0.lt
  have c0a : ∀ o, (W0.alloc o).cell? ⟨b, q, none⟩ = some (.slice none 0 0) := fun o => (World.cell?_of_block (a := ⟨b, q, none⟩) (Below.heap_alloc W0 o b hbW0)).trans c0
  have f0a : ∀ o, (W0.alloc o).frozen? ⟨b, q, none⟩ = false := fun o => (World.frozen?_of_block (a := ⟨b, q, none⟩) (Below.heap_alloc W0 o b hbW0)).trans f0
  have HW0 := Lib.hid hW0
  clear hW0 hIs
  go_wp2_with (go_at_call 51; refine (tryGrow_none b q _ 0 0 n _ c0 (Nat.le_refl _) (Nat.zero_le _) (by omega)).mono ?_; rintro e w' ⟨rfl, rfl⟩)
  go_ret
  have hk0 : Keeps (fun k => k = b) w w' := by rw [HW0.out]; exact (Keeps.refl _ _).drewN k
  have hsz0 : w'.heap.size = w.heap.size := by rw [HW0.out]; rfl
  have hNb : w'.heap.size ≠ b := by omega
  have hsz : (w'.setCell ⟨b, q, none⟩ (.slice (some ⟨w'.heap.size, 0, none⟩) n 64)).heap.size = w'.heap.size := by simp [World.setCell]
  have hbkf := (hbk0.set0 (.slice (some ⟨w'.heap.size, 0, none⟩) n 64)).of_heap (w' := (w'.setCell ⟨b, q, none⟩ (.slice (some ⟨w'.heap.size, 0, none⟩) n 64)).alloc (.cells M 5)) (Below.heap_alloc _ _ b (by rw [hsz]; exact hbW0))
  have hNf : ((w'.setCell ⟨b, q, none⟩ (.slice (some ⟨w'.heap.size, 0, none⟩) n 64)).alloc (.cells M 5)).heap[w'.heap.size]? = some (.cells M 5 (0, 0)) := by
    have h := heap_alloc_new (w'.setCell ⟨b, q, none⟩ (.slice (some ⟨w'.heap.size, 0, none⟩) n 64)) (.cells M 5)
    rw [hsz] at h
    exact h
  exact ⟨rfl, M.toList.take n, _, by rw [List.length_take, Array.length_toList]; omega, by simpa using bf_mk hbkf hNf (by omega) (by unfold maxLen; omega) hMs hNb, ⟨_, rfl, by show w.heap.size ≤ w'.heap.size; omega⟩, (hk0.setCell (by exact Or.inl rfl) _).alloc _⟩

end Go.Proofs.YthhpmeaajgjdeaaDoor

/- Fe: Buffer's grow over this program: no row yet, more than 64 bytes. -/
namespace Go.Proofs.YthhpmeaajgjdeaaDoor
open Go Go.RowKit

set_option maxHeartbeats 1600000 in
set_option maxRecDepth 100000 in
/-- grow, 'buf' nil, n ABOVE 64: growSlice of the nil slice. -/
theorem grow_nil_big (T : TypeId) (R : Nat → Option Value) (b q n : Nat) (lr : Int) (w : World)
    (hbk : LibA.Three w b q T R (.slice none 0 0) (.int .i64 0) (.int .i8 lr)) (h64 : 64 < n) (hlim : n ≤ 140737488355328) :
    Calls Tryd.prog 52 #[.pointer (some ⟨b, q, none⟩), .int .i64 n] w fun e w' => e = .returned (.int .i64 0) ∧ Grown1 w b q n T R [] w' := by
  have hn : 1 ≤ n := by omega
  have hIs := bf_zero hbk
  have hnil : ∀ W, (binOp .eql 57 (.slice none 0 0) (.slice none 0 0)).run Tryd.prog W = .ok (.bool true) W := fun W => Lib.run_eql_slice_nil_nil W _ _ Tryd.underlying57
  go_enter Tryd.func52, Tryd.ntmps52
  go_wp2_with (go_at_call 60; refine (bufLen b q T R _ _ _ hIs).mono ?_)
  rintro e W0 ⟨rfl, k, hW0⟩
  have hbk0 : LibA.Three W0 b q T R (.slice none 0 0) (.int .i64 0) (.int .i8 lr) := by rw [hW0]; exact hbk
  have c0 : W0.cell? ⟨b, q, none⟩ = some (.slice none 0 0) := hbk0.c0
  have c1 : W0.cell? ⟨b, q + 1, none⟩ = some (.int .i64 0) := hbk0.c1
  have f0 : W0.frozen? ⟨b, q, none⟩ = false := hbk0.f q
  have f1 : W0.frozen? ⟨b, q + 1, none⟩ = false := hbk0.f (q + 1)
  have HW0 := Lib.hid hW0
  clear hW0 hIs
  go_wp2_with (go_at_call 51; refine (tryGrow_none b q _ 0 0 n _ c0 (Nat.le_refl _) (Nat.zero_le _) (by omega)).mono ?_; rintro e w' ⟨rfl, rfl⟩)
  have hbW := hbk0.lt
  have hwn : IntKind.i64.wrap (n : Int) = n := by rw [IntKind.wrap_i64]; omega
  go_region_with (
      go_at_call 62
      refine (growSlice_nil n _ hn hlim).mono ?_
      rintro e w2 ⟨cap2, cells, rfl, hN, hcsz, hcap2, hcm2, hbel⟩
      have hbk2 : LibA.Three w2 b q T R (.slice none 0 0) (.int .i64 0) (.int .i8 lr) := hbk0.of_heap (hbel.block b hbW)
      have d0 : w2.cell? ⟨b, q, none⟩ = some (.slice none 0 0) := hbk2.c0
      have d1 : w2.cell? ⟨b, q + 1, none⟩ = some (.int .i64 0) := hbk2.c1
      have e0 : w2.frozen? ⟨b, q, none⟩ = false := hbk2.f q
      have e1 : w2.frozen? ⟨b, q + 1, none⟩ = false := hbk2.f (q + 1))
  all_goals (
    go_wp2
    go_ret
    have hsz0 : w'.heap.size = w.heap.size := by rw [HW0.out]; rfl
    have hk0 : Keeps (fun k => k = b) w w'.drew := by rw [HW0.out]; exact ((Keeps.refl _ _).drewN k).drew
    have hk2 : Keeps (fun k => k = b) w w2 := hk0.below hbel (by show w.heap.size ≤ w'.heap.size; omega)
    have hNb : w'.heap.size ≠ b := by omega
    have hbkf := (((hbk2.set0 (.slice (some ⟨w'.heap.size, 0, none⟩) 0 cap2)).set1 (.int .i64 0)).set0 (.slice (some ⟨w'.heap.size, 0, none⟩) n cap2))
    have hNf : (((w2.setCell ⟨b, q, none⟩ (.slice (some ⟨w'.heap.size, 0, none⟩) 0 cap2)).setCell ⟨b, q + 1, none⟩ (.int .i64 0)).setCell ⟨b, q, none⟩ (.slice (some ⟨w'.heap.size, 0, none⟩) n cap2)).heap[w'.heap.size]? = some (.cells cells 5 (0, 0)) := by
      rw [Below.heap_setCell _ _ _ _ hNb, Below.heap_setCell _ _ _ _ hNb, Below.heap_setCell _ _ _ _ hNb]
      exact hN
    exact ⟨rfl, cells.toList.take n, _, by rw [List.length_take, Array.length_toList]; omega, by simpa using bf_mk hbkf hNf hcap2 hcm2 hcsz hNb, ⟨_, rfl, by show w.heap.size ≤ w'.heap.size; omega⟩, ((hk2.setCell (by exact Or.inl rfl) _).setCell (by exact Or.inl rfl) _).setCell (by exact Or.inl rfl) _⟩)

end Go.Proofs.YthhpmeaajgjdeaaDoor
