/- StringIdx and newEncoderRaw. -/
import Derived.Test.YthhpmeaajgjdeaaDoorX06

set_option linter.unusedVariables false
set_option linter.unusedSimpArgs false

/- Ia: A package encoder: what its blocks are; (*PkgEncoder).StringIdx. -/
namespace Go.Proofs.YthhpmeaajgjdeaaDoor
open Go Go.RowKit
open Go.ChangeMaps (setBlock)

def strEntries (l : List ByteArray) : Array MapEntry := (l.mapIdx fun i s => (⟨.string s, .int .i32 i, i⟩ : MapEntry)).toArray

theorem strEntries_push (l : List ByteArray) (s : ByteArray) : (strEntries l).push ⟨.string s, .int .i32 l.length, l.length⟩ = strEntries (l ++ [s]) := by
  simp [strEntries, List.mapIdx_append]

theorem strEntries_mem {l : List ByteArray} {x : MapEntry} (h : x ∈ (strEntries l).toList) : ∃ (i : Nat) (s : ByteArray), l[i]? = some s ∧ x = ⟨.string s, .int .i32 i, i⟩ := by
  obtain ⟨i, hi⟩ := List.getElem?_of_mem h
  simp only [strEntries, List.toList_toArray, List.getElem?_mapIdx, Option.map_eq_some_iff] at hi
  obtain ⟨p, hp, rfl⟩ := hi
  exact ⟨i, p, hp, rfl⟩

theorem strKeys {l : List ByteArray} (h : ∀ s ∈ l, s.size ≤ maxLen) : ∀ x ∈ (strEntries l).toList, ∃ k, keyOf Tryd.prog 9 x.key = some k := by
  intro x hx
  obtain ⟨i, p, hp, rfl⟩ := strEntries_mem hx
  exact key9_mk (h p (List.mem_of_getElem? hp))

theorem lawfulBA : LawfulBEq ByteArray where
  eq_of_beq := fun {a b} h => (MapKept.bytes_beq a b).1 h
  rfl := fun {a} => (MapKept.bytes_beq a a).2 rfl

theorem nodup_idxS {l : List ByteArray} (hn : l.Nodup) {j : Nat} {p : ByteArray} (h : l[j]? = some p) : l.idxOf p = j := by
  have := lawfulBA
  obtain ⟨hj, rfl⟩ := List.getElem?_eq_some_iff.1 h
  exact hn.idxOf_getElem j hj

theorem str_lookup {w : World} {m : Nat} {l : List ByteArray} (hm : w.heap[m]? = some (.map (strEntries l) l.length)) (hok : ∀ s ∈ l, s.size ≤ maxLen) (hnd : l.Nodup) {s : ByteArray} (hs : s.size ≤ maxLen) :
    (s ∈ l → (Instr.lookup 43 (.map (some m)) (.string s) true).run Tryd.prog w = .ok (.tuple #[.int .i32 (l.idxOf s), .bool true]) w) ∧
    (s ∉ l → (Instr.lookup 43 (.map (some m)) (.string s) true).run Tryd.prog w = .ok (.tuple #[.int .i32 0, .bool false]) w) := by
  obtain ⟨kl, hk⟩ := key9_mk hs
  rcases lookup_ok key9 Tryd.underlying43 (z := .int .i32 0) (by kernel_rfl) hm (strKeys hok) (key := .string s) hk with ⟨h, hno⟩ | ⟨j, x, h, hx, hkey⟩
  · refine ⟨fun hmem => ?_, fun _ => h⟩
    obtain ⟨i, hi⟩ := List.getElem?_of_mem hmem
    exact absurd rfl (hno ⟨.string s, .int .i32 i, i⟩ (List.mem_of_getElem? (i := i) (by simp [strEntries, hi])))
  · obtain ⟨i, q, hq, rfl⟩ := strEntries_mem (l := l) (List.mem_of_getElem? (i := j) (by simpa using hx))
    have e : q = s := by simpa using hkey
    subst e
    refine ⟨fun _ => ?_, fun hn => absurd (List.mem_of_getElem? hq) hn⟩
    rw [nodup_idxS hnd hq]
    exact h

theorem str_update {w : World} {m : Nat} {l : List ByteArray} (hm : w.heap[m]? = some (.map (strEntries l) l.length)) (hok : ∀ s ∈ l, s.size ≤ maxLen) {s : ByteArray} (hs : s.size ≤ maxLen) (hno : s ∉ l) :
    (Instr.mapUpdate 43 (.map (some m)) (.string s) (.int .i32 l.length)).run Tryd.prog w = .ok () (setBlock w m (.map (strEntries (l ++ [s])) (l.length + 1))) := by
  obtain ⟨kl, hk⟩ := key9_mk hs
  rw [← strEntries_push]
  refine update_new key9 Tryd.underlying43 hm (strKeys hok) (key := .string s) hk (fun x hx hkey => ?_) _
  obtain ⟨i, q, hq, rfl⟩ := strEntries_mem hx
  have e : q = s := by simpa using hkey
  exact hno (e ▸ List.mem_of_getElem? hq)

def strCells (l : List ByteArray) : List Value := l.map Value.string

/-- A package encoder's thirteen cells. -/
def pkgCells (ver : Int) (sl : Nat → Value) (ms : Nat) (sf : Int) : Array Value :=
  #[.int .u32 ver, sl 0, sl 1, sl 2, sl 3, sl 4, sl 5, sl 6, sl 7, sl 8, sl 9, .map (some ms), .int .i64 sf]

theorem pkgCells_sec (ver : Int) (sl : Nat → Value) (ms : Nat) (sf : Int) : ∀ i, i < 10 → (pkgCells ver sl ms sf)[1 + i]? = some (sl i)
  | 0, _ | 1, _ | 2, _ | 3, _ | 4, _ | 5, _ | 6, _ | 7, _ | 8, _ | 9, _ => rfl
  | n + 10, h => absurd h (by omega)

/-- One section's slice turned. -/
def slPut (sl : Nat → Value) (i : Nat) (v : Value) : Nat → Value := fun j => if j = i then v else sl j

theorem pkgCells_put (ver : Int) (sl : Nat → Value) (ms : Nat) (sf : Int) (v : Value) : ∀ i, i < 10 → (pkgCells ver sl ms sf).setIfInBounds (1 + i) v = pkgCells ver (slPut sl i v) ms sf
  | 0, _ | 1, _ | 2, _ | 3, _ | 4, _ | 5, _ | 6, _ | 7, _ | 8, _ | 9, _ => by simp [pkgCells, slPut]
  | n + 10, h => absurd h (by omega)

/-- The sections behind a string put into one. -/
def secPut (secs : Nat → List ByteArray) (i : Nat) (s : ByteArray) : Nat → List ByteArray := fun j => if j = i then secs j ++ [s] else secs j

/-- A package encoder, its map of strings being whatever it is; G holds its blocks. -/
structure PkgR (w : World) (G : Nat → Prop) (bp : Nat) (ver : Int) (sl : Nat → Value) (secs : Nat → List ByteArray) (ms : Nat) (es : Array MapEntry) (ck : Nat) (sf : Int) : Prop where
  blk : w.heap[bp]? = some (.cells (pkgCells ver sl ms sf) 45 (0, 0))
  row : ∀ i, i < 10 → w.ownsRow 0 9 1 (sl i) (secs i).length (strCells (secs i))
  apart : ∀ i j, i < 10 → j < 10 → i ≠ j → ∀ k, (sl i).ownBlock = some k → (sl j).ownBlock ≠ some k
  map : w.heap[ms]? = some (.map es ck)
  Gb : G bp
  Gm : G ms
  Gr : ∀ i, i < 10 → ∀ k, (sl i).ownBlock = some k → G k
  lt : ∀ j, G j → j < w.heap.size

/-- A package encoder, all of it. -/
structure PkgS (w : World) (G : Nat → Prop) (bp : Nat) (ver : Int) (sl : Nat → Value) (secs : Nat → List ByteArray) (ms : Nat) (sf : Int) : Prop where
  all : PkgR w G bp ver sl secs ms (strEntries (secs 0)) (secs 0).length sf
  nodup : (secs 0).Nodup
  sizes : ∀ s ∈ secs 0, s.size ≤ maxLen

section
variable {S : Nat → Prop} {w w' w1 : World} {G G' : Nat → Prop} {bp : Nat} {ver : Int} {sl : Nat → Value} {secs : Nat → List ByteArray} {ms : Nat} {es : Array MapEntry} {ck : Nat} {sf : Int}

theorem PkgR.keeps (h : PkgR w G bp ver sl secs ms es ck sf) (hk : Keeps S w w') (hn : ∀ j, G j → ¬ S j) : PkgR w' G bp ver sl secs ms es ck sf where
  blk := hk.heap h.blk (hn _ h.Gb)
  row i hi := ownsRow_keeps (h.row i hi) hk fun k e => hn _ (h.Gr i hi k e)
  apart := h.apart
  map := hk.heap h.map (hn _ h.Gm)
  Gb := h.Gb
  Gm := h.Gm
  Gr := h.Gr
  lt j hj := Nat.lt_of_lt_of_le (h.lt j hj) hk.size

theorem PkgR.mono (h : PkgR w G bp ver sl secs ms es ck sf) (hs : ∀ j, G j → G' j) (hlt : ∀ j, G' j → j < w.heap.size) : PkgR w G' bp ver sl secs ms es ck sf :=
  { h with Gb := hs _ h.Gb, Gm := hs _ h.Gm, Gr := fun i hi k e => hs _ (h.Gr i hi k e), lt := hlt }

theorem PkgS.keeps (h : PkgS w G bp ver sl secs ms sf) (hk : Keeps S w w') (hn : ∀ j, G j → ¬ S j) : PkgS w' G bp ver sl secs ms sf := ⟨h.all.keeps hk hn, h.nodup, h.sizes⟩
theorem PkgS.mono (h : PkgS w G bp ver sl secs ms sf) (hs : ∀ j, G j → G' j) (hlt : ∀ j, G' j → j < w.heap.size) : PkgS w G' bp ver sl secs ms sf := ⟨h.all.mono hs hlt, h.nodup, h.sizes⟩

/-- A slice of a section, read. -/
theorem PkgR.slice (h : PkgR w G bp ver sl secs ms es ck sf) (i : Nat) (hi : i < 10) :
    ∃ ao cap, sl i = .slice ao (secs i).length cap ∧ (secs i).length ≤ cap ∧ cap ≤ 9223372036854775807 := by
  rcases (h.row i hi).2 with ⟨e, h0⟩ | ⟨g, cap, cur, e, -, -, h1, h2, -⟩
  · exact ⟨none, 0, by rw [e, h0], by omega, by omega⟩
  · exact ⟨_, cap, e, h1, by simpa [maxLen] using h2⟩

theorem PkgR.cell (h : PkgR w G bp ver sl secs ms es ck sf) (i : Nat) (hi : i < 10) : w.cell? ⟨bp, 1 + i, none⟩ = some (sl i) := by
  rw [Lib.cell_of_heap h.blk]; exact pkgCells_sec ver sl ms sf i hi

theorem info9 : (Tryd.prog.info? 9).map (fun i => (i.zero, i.size, i.bytes)) = some (some (.string ⟨#[]⟩), 1, 16) := by kernel_rfl

/-- What an append to a section and the store of its slice leave. -/
theorem PkgR.appended (h : PkgR w G bp ver sl secs ms es ck sf) {i : Nat} (hi : i < 10) {s : ByteArray} {v' : Value}
    (ho : w1.ownsRow 0 9 1 v' ((secs i).length + 1) (strCells (secs i) ++ [.string s])) (hk : Keeps (fun j => (sl i).ownBlock = some j) w w1) (hf : Fresh w (sl i) v') :
    w1.cell? ⟨bp, 1 + i, none⟩ = some (sl i) ∧ w1.frozen? ⟨bp, 1 + i, none⟩ = false ∧
    PkgR (w1.setCell ⟨bp, 1 + i, none⟩ v') (Grow G w (w1.setCell ⟨bp, 1 + i, none⟩ v')) bp ver (slPut sl i v') (secPut secs i s) ms es ck sf ∧ Keeps G w (w1.setCell ⟨bp, 1 + i, none⟩ v') := by
  have hbs : ¬ (sl i).ownBlock = some bp := fun e => by
    obtain ⟨cur, hg⟩ := ownsRow_block (h.row i hi) e
    rw [h.blk] at hg; cases hg
  have hblk : w1.heap[bp]? = some (.cells (pkgCells ver sl ms sf) 45 (0, 0)) := hk.heap h.blk hbs
  have hbl := Lib.lt_of_heap hblk
  have hob : ∀ j, v'.ownBlock = some j → j ≠ bp := by
    intro j hj e
    obtain ⟨cur, hgg⟩ := ownsRow_block ho hj
    rw [e, hblk] at hgg; cases hgg
  have hms : ms ≠ bp := fun e => by have h1 := h.map; rw [e, h.blk] at h1; cases h1
  have hmw : w1.heap[ms]? = some (.map es ck) := hk.heap h.map fun e => by
    obtain ⟨cur, hg⟩ := ownsRow_block (h.row i hi) e
    rw [h.map] at hg; cases hg
  have hkf : Keeps G w (w1.setCell ⟨bp, 1 + i, none⟩ v') := (hk.mono (S' := G) fun j _ e => h.Gr i hi j e).setCell (by exact Or.inl h.Gb) _
  have hk1 : Keeps (fun j => j = bp) w1 (w1.setCell ⟨bp, 1 + i, none⟩ v') := (Keeps.refl _ _).setCell (by exact Or.inl rfl) _
  have hv' : ∀ k, v'.ownBlock = some k → Grow G w (w1.setCell ⟨bp, 1 + i, none⟩ v') k := grow_fresh (h.Gr i hi) hf (fun k e => Nat.lt_of_lt_of_le (ownsRow_lt ho k e) hk1.size)
  refine ⟨by rw [Lib.cell_of_heap hblk]; exact pkgCells_sec ver sl ms sf i hi, Lib.frozen_of_heap hblk _, ⟨?_, fun j hj => ?_, fun a b ha hb hab k => ?_, ?_, Or.inl h.Gb, Or.inl h.Gm, fun j hj k => ?_, grow_lt h.lt hkf.size⟩, hkf⟩
  · rw [← pkgCells_put ver sl ms sf v' i hi]; exact Lib.heap_setCell_same (i := 1 + i) hblk v'
  · by_cases e : j = i
    · subst e
      simp only [slPut, secPut, if_true, List.length_append, List.length_cons, List.length_nil, strCells, List.map_append, List.map_cons, List.map_nil]
      exact ownsRow_keeps ho hk1 fun k hk2 e => hob k hk2 e
    · simp only [slPut, secPut, if_neg e]
      have hr1 : w1.ownsRow 0 9 1 (sl j) (secs j).length (strCells (secs j)) := ownsRow_keeps (h.row j hj) hk fun k hk2 e2 => h.apart j i hj hi e k hk2 e2
      exact ownsRow_keeps hr1 hk1 fun k hk2 e2 => by
        obtain ⟨cur, hg⟩ := ownsRow_block hr1 hk2
        rw [e2, hblk] at hg; cases hg
  · have fresh_ne : ∀ j, j < 10 → j ≠ i → ∀ k, v'.ownBlock = some k → (sl j).ownBlock ≠ some k := by
      intro j hj hji k hk2 e2
      rcases hf with hf | ⟨n, hf, hn⟩
      · exact h.apart j i hj hi hji k e2 (by rw [← hf]; exact hk2)
      · rw [hf] at hk2; cases hk2
        have := ownsRow_lt (h.row j hj) k e2
        omega
    by_cases ea : a = i
    · subst ea
      have eb : b ≠ a := Ne.symm hab
      simp only [slPut, if_true, if_neg eb]
      exact fresh_ne b hb eb k
    · by_cases eb : b = i
      · subst eb
        simp only [slPut, if_true, if_neg ea]
        exact fun h1 h2 => fresh_ne a ha ea k h2 h1
      · simp only [slPut, if_neg ea, if_neg eb]
        exact h.apart a b ha hb hab k
  · rw [Below.heap_setCell _ _ _ _ hms]; exact hmw
  · by_cases e : j = i
    · subst e; simp only [slPut, if_true]; exact hv' k
    · simp only [slPut, if_neg e]; exact fun e2 => Or.inl (h.Gr j hj k e2)

/-- The map of the strings turned. -/
theorem PkgR.mapped (h : PkgR w G bp ver sl secs ms es ck sf) (es' : Array MapEntry) (ck' : Nat) : PkgR (setBlock w ms (.map es' ck')) G bp ver sl secs ms es' ck' sf ∧ Keeps G w (setBlock w ms (.map es' ck')) := by
  have hk : Keeps (fun j => j = ms) w (setBlock w ms (.map es' ck')) := (Keeps.refl _ _).setBlock (by exact Or.inl rfl) _
  refine ⟨⟨hk.heap h.blk fun e => ?_, fun i hi => ownsRow_keeps (h.row i hi) hk fun k hk2 e => ?_, h.apart, ChangeMaps.heap_setBlock_same h.map _, h.Gb, h.Gm, h.Gr, fun j hj => Nat.lt_of_lt_of_le (h.lt j hj) hk.size⟩, hk.mono fun j _ e => e ▸ h.Gm⟩
  · have h1 := h.map; rw [← e, h.blk] at h1; cases h1
  · obtain ⟨cur, hg⟩ := ownsRow_block (h.row i hi) hk2
    rw [e, h.map] at hg; cases hg
end

end Go.Proofs.YthhpmeaajgjdeaaDoor

/- Ib: (*PkgEncoder).StringIdx: a string's place in the section of the strings. -/
namespace Go.Proofs.YthhpmeaajgjdeaaDoor
open Go Go.RowKit
open Go.ChangeMaps (setBlock)

section
variable {w : World} {G : Nat → Prop} {bp : Nat} {ver : Int} {sl : Nat → Value} {secs : Nat → List ByteArray} {ms : Nat} {sf : Int}

set_option maxRecDepth 10000 in
set_option maxHeartbeats 800000 in
/-- The string is there. -/
theorem stringIdx_found (h : PkgS w G bp ver sl secs ms sf) (s : ByteArray) (hs : s.size ≤ maxLen) (hmem : s ∈ secs 0) (hlen : (secs 0).length < 1000000) :
    Calls Tryd.prog 48 #[.pointer (some ⟨bp, 0, none⟩), .string s] w fun e w' => e = .returned (.int .i32 ((secs 0).idxOf s)) ∧ w = w' := by
  have := lawfulBA
  have c11 : w.cell? ⟨bp, 11, none⟩ = some (.map (some ms)) := by rw [Lib.cell_of_heap h.all.blk]; rfl
  have c1 := h.all.cell 0 (by omega)
  have hix : (secs 0).idxOf s < (secs 0).length := List.idxOf_lt_length_iff.2 hmem
  have hge : (secs 0)[(secs 0).idxOf s]? = some s := by rw [List.getElem?_eq_getElem hix, List.getElem_idxOf]
  have hlk := (str_lookup h.all.map h.sizes h.nodup hs).1 hmem
  rcases (h.all.row 0 (by omega)).2 with ⟨-, h0⟩ | ⟨g, cap, cur, e, -, hg, hnc, hcm, hcs, htk⟩
  · omega
  · rw [e] at c1
    have hcell : w.cell? ⟨g, (secs 0).idxOf s, none⟩ = some (.string s) := by
      rw [Lib.cell_of_heap hg]
      have h2 : cur.toList[(secs 0).idxOf s]? = (cur.toList.take ((secs 0).length * 1))[(secs 0).idxOf s]? := by rw [List.getElem?_take, if_pos (by omega)]
      rw [htk] at h2
      rw [← Array.getElem?_toList, h2, strCells, List.getElem?_map, hge]
      rfl
    have hss : (s == s) = true := (MapKept.bytes_beq s s).2 rfl
    simp only [maxLen] at hcm
    clear htk hge hmem this e h hs
    generalize (secs 0).idxOf s = I at *
    generalize (secs 0).length = L at *
    go_enter Tryd.func48, Tryd.ntmps48
    go_wp2_with (go_at_call 39; refine (assert_true _).mono ?_; rintro e w1 ⟨rfl, rfl⟩)
    go_ret
    exact ⟨rfl, rfl⟩

set_option maxRecDepth 10000 in
set_option maxHeartbeats 1600000 in
/-- The string is not there. -/
theorem stringIdx_new (h : PkgS w G bp ver sl secs ms sf) (s : ByteArray) (hs : s.size ≤ maxLen) (hno : s ∉ secs 0) (hlen : (secs 0).length < 1000000) :
    Calls Tryd.prog 48 #[.pointer (some ⟨bp, 0, none⟩), .string s] w fun e w' => e = .returned (.int .i32 (secs 0).length) ∧ ∃ sl', PkgS w' (Grow G w w') bp ver sl' (secPut secs 0 s) ms sf ∧ Keeps G w w' := by
  have := lawfulBA
  obtain ⟨i0, hi, hz0, hz1, hz2⟩ := info_parts info9
  have c11 : w.cell? ⟨bp, 11, none⟩ = some (.map (some ms)) := by rw [Lib.cell_of_heap h.all.blk]; rfl
  have c1 := h.all.cell 0 (by omega)
  obtain ⟨ao, cap, hsl, hcap, hcap2⟩ := h.all.slice 0 (by omega)
  rw [hsl] at c1
  have hbl := Lib.lt_of_heap h.all.blk
  have hlk := (str_lookup h.all.map h.sizes h.nodup hs).2 hno
  -- what the append, the store of the slice and the store in the map leave
  have fin : ∀ v' w1, w1.ownsRow 0 9 1 v' ((secs 0).length + 1) (strCells (secs 0) ++ [.string s]) → (w.drew.alloc (.cells #[.string s] 9)).grownBy w1 (sl 0).ownBlock → Fresh (w.drew.alloc (.cells #[.string s] 9)) (sl 0) v' →
      ∃ W2, w1.cell? ⟨bp, 1, none⟩ = some (.slice ao (secs 0).length cap) ∧ w1.frozen? ⟨bp, 1, none⟩ = false ∧ (w1.setCell ⟨bp, 1, none⟩ v').cell? ⟨bp, 11, none⟩ = some (.map (some ms)) ∧
        (Instr.mapUpdate 43 (.map (some ms)) (.string s) (.int .i32 (secs 0).length)).run Tryd.prog (w1.setCell ⟨bp, 1, none⟩ v') = .ok () W2 ∧
        PkgS W2 (Grow G w W2) bp ver (slPut sl 0 v') (secPut secs 0 s) ms sf ∧ Keeps G w W2 := by
    intro v' w1 ho hg hf
    have hk1 : Keeps (fun j => (sl 0).ownBlock = some j) w w1 := (((Keeps.refl _ _).drew).alloc _).grown hg (fun j hj => Or.inl hj)
    have hf1 : Fresh w (sl 0) v' := by
      rcases hf with hf | ⟨j, hf, hj⟩
      · exact Or.inl hf
      · exact Or.inr ⟨j, hf, by simp at hj; omega⟩
    obtain ⟨a1, a2, a3, a4⟩ := h.all.appended (i := 0) (by omega) ho hk1 hf1
    obtain ⟨b1, b2⟩ := a3.mapped (strEntries (secs 0 ++ [s])) ((secs 0).length + 1)
    have hup := str_update (w := w1.setCell ⟨bp, 1 + 0, none⟩ v') a3.map h.sizes hs hno
    have hkk : Keeps G w (setBlock (w1.setCell ⟨bp, 1 + 0, none⟩ v') ms (.map (strEntries (secs 0 ++ [s])) ((secs 0).length + 1))) := a4.trans' b2
    refine ⟨_, by rw [← hsl]; exact a1, a2, by rw [Lib.cell_of_heap a3.blk]; rfl, hup, ⟨?_, ?_, ?_⟩, hkk⟩
    · have e1 : secPut secs 0 s 0 = secs 0 ++ [s] := by simp [secPut]
      rw [e1, List.length_append]
      refine b1.mono (fun j hj => ?_) (grow_lt h.all.lt hkk.size)
      rcases hj with hj | hj
      · exact Or.inl hj
      · exact Or.inr ⟨hj.1, Nat.lt_of_lt_of_le hj.2 b2.size⟩
    · simp only [secPut, if_true]
      exact List.nodup_append.2 ⟨h.nodup, by simp, fun a ha b hb e => hno (by rw [List.mem_singleton.1 hb] at e; rw [← e]; exact ha)⟩
    · simp only [secPut, if_true]
      intro q hq
      rcases List.mem_append.1 hq with hq | hq
      · exact h.sizes q hq
      · rw [List.mem_singleton.1 hq]; exact hs
  have hrA : (w.drew.alloc (.cells #[.string s] 9)).ownsRow 0 9 1 (sl 0) (secs 0).length (strCells (secs 0)) := (show w.drew.ownsRow 0 9 1 (sl 0) (secs 0).length (strCells (secs 0)) from h.all.row 0 (by omega)).alloc _
  have HC : Hid (∀ j u, [Value.string s][j]? = some u → (w.alloc (.cells #[.string s] 9)).drew.cell? ((⟨w.heap.size, 0, none⟩ : Addr).add j) = some u) := news_cells w [Value.string s] 9
  rw [hsl] at hrA fin
  have HA := Lib.hid hrA
  have HF := Lib.hid fin
  clear hrA fin this h hno hs hsl
  generalize secs 0 = L at *
  go_enter Tryd.func48, Tryd.ntmps48
  go_wp2
  go_region_law (
    refine step_append_fresh rfl (.tmp 42) (.tmp 44) 28 rfl 9 i0 (.string ⟨#[]⟩) 1 16 Tryd.underlying28 hi hz0 hz1 hz2 rfl (by decide) (.slice ao L.length cap) L.length (strCells L) (by simp [Act.eval, Act.put]) HA.out ⟨w.heap.size, 0, none⟩ 1 1 [.string s] (by simp [Act.eval, Act.put]) rfl ?_ ?_ ?_ ?_ ?_
    · exact HC.out
    · simp [Value.oneCell']
    · unfold maxLen; omega
    · omega
    intro v' w1 hown hgrow hfresh
    obtain ⟨W2, d1', e1', d11, hup, hS, hK⟩ := HF.out v' w1 hown hgrow hfresh
    obtain ⟨ao', cap', hv'⟩ := slice_form hown
    subst hv'
    have HS := Lib.hid hS
    have HK := Lib.hid hK
    clear hS hK hown hgrow hfresh)
  all_goals (
    go_wp2
    go_ret
    exact ⟨rfl, _, HS.out, HK.out⟩)

/-- The strings behind one more. -/
def strPut (secs : Nat → List ByteArray) (s : ByteArray) : Nat → List ByteArray := if (secs 0).idxOf s < (secs 0).length then secs else secPut secs 0 s

theorem stringIdx (h : PkgS w G bp ver sl secs ms sf) (s : ByteArray) (hs : s.size ≤ maxLen) (hlen : (secs 0).length < 1000000) :
    Calls Tryd.prog 48 #[.pointer (some ⟨bp, 0, none⟩), .string s] w fun e w' => e = .returned (.int .i32 ((secs 0).idxOf s)) ∧ ∃ sl', PkgS w' (Grow G w w') bp ver sl' (strPut secs s) ms sf ∧ Keeps G w w' := by
  have := lawfulBA
  by_cases hmem : s ∈ secs 0
  · refine (stringIdx_found h s hs hmem hlen).mono ?_
    rintro e w' ⟨rfl, rfl⟩
    unfold strPut
    rw [if_pos (List.idxOf_lt_length_iff.2 hmem)]
    exact ⟨rfl, sl, h.mono (fun j hj => Or.inl hj) (grow_lt h.all.lt (Nat.le_refl _)), Keeps.refl _ _⟩
  · refine (stringIdx_new h s hs hmem hlen).mono ?_
    rintro e w' ⟨rfl, hx⟩
    unfold strPut
    rw [if_neg (fun h => hmem (List.idxOf_lt_length_iff.1 h)), List.idxOf_eq_length hmem]
    exact ⟨rfl, hx⟩

end
end Go.Proofs.YthhpmeaajgjdeaaDoor

/- Ic: (*PkgEncoder).NewEncoderRaw and NewEncoder: a new encoder beside its package. -/
namespace Go.Proofs.YthhpmeaajgjdeaaDoor
open Go Go.RowKit
open Go.ChangeMaps (setBlock)

/-- A package encoder and one of its encoders; S holds the blocks of both. -/
def St (w : World) (S : Nat → Prop) (be bp : Nat) (relocs : List (Int × Int)) (bs : List UInt8) (hdr : Bool) (k idx : Int) (ver : Int) (secs : Nat → List ByteArray) (ms : Nat) (sf : Int) : Prop :=
  ∃ F G sl, EncF w F be bp relocs bs hdr k idx (pkgCells ver sl ms sf) sf ∧ PkgS w G bp ver sl secs ms sf ∧ (∀ j, F j → ¬ G j) ∧ (∀ j, F j → S j) ∧ (∀ j, G j → S j) ∧ ∀ j, S j → j < w.heap.size

def StPut (w : World) (S : Nat → Prop) (be bp : Nat) (relocs : List (Int × Int)) (bs : List UInt8) (hdr : Bool) (k idx : Int) (ver : Int) (secs : Nat → List ByteArray) (ms : Nat) (sf : Int) (w' : World) : Prop :=
  St w' (Grow S w w') be bp relocs bs hdr k idx ver secs ms sf ∧ Keeps S w w'

section
variable {w w' w1 w2 : World} {S : Nat → Prop} {be bp : Nat} {relocs relocs1 relocs2 : List (Int × Int)} {bs bs1 bs2 : List UInt8} {hdr hdr1 hdr2 : Bool} {k idx : Int} {ver : Int} {secs secs1 secs2 : Nat → List ByteArray} {ms : Nat} {sf : Int}

theorem St.mono {S' : Nat → Prop} (h : St w S be bp relocs bs hdr k idx ver secs ms sf) (hs : ∀ j, S j → S' j) (hlt : ∀ j, S' j → j < w.heap.size) : St w S' be bp relocs bs hdr k idx ver secs ms sf := by
  obtain ⟨F, G, sl, h1, h2, h3, h4, h5, h6⟩ := h
  exact ⟨F, G, sl, h1, h2, h3, fun j hj => hs j (h4 j hj), fun j hj => hs j (h5 j hj), hlt⟩

theorem St.lt (h : St w S be bp relocs bs hdr k idx ver secs ms sf) : ∀ j, S j → j < w.heap.size := by obtain ⟨F, G, sl, h1, h2, h3, h4, h5, h6⟩ := h; exact h6

theorem StPut.refl (h : St w S be bp relocs bs hdr k idx ver secs ms sf) : StPut w S be bp relocs bs hdr k idx ver secs ms sf w := ⟨h.mono (fun _ hj => Or.inl hj) (grow_lt h.lt (Nat.le_refl _)), Keeps.refl _ _⟩

theorem StPut.trans (h : StPut w S be bp relocs1 bs1 hdr1 k idx ver secs1 ms sf w1) (h2 : StPut w1 (Grow S w w1) be bp relocs2 bs2 hdr2 k idx ver secs2 ms sf w2) (hlt : ∀ j, S j → j < w.heap.size) : StPut w S be bp relocs2 bs2 hdr2 k idx ver secs2 ms sf w2 := by
  refine ⟨h2.1.mono (fun j hj => ?_) (grow_lt hlt (Nat.le_trans h.2.size h2.2.size)), h.2.trans' h2.2⟩
  rcases hj with (hj | hj) | hj
  · exact Or.inl hj
  · exact Or.inr ⟨hj.1, Nat.lt_of_lt_of_le hj.2 h2.2.size⟩
  · exact Or.inr ⟨Nat.le_trans h.2.size hj.1, hj.2⟩

/-- What an encoder's method does to the encoder alone. -/
theorem St.enc (h : St w S be bp relocs bs hdr k idx ver secs ms sf) : ∃ F pc, EncF w F be bp relocs bs hdr k idx pc sf ∧ ∀ relocs' bs' hdr' w', EncFPut w F be bp relocs' bs' hdr' k idx pc sf w' → StPut w S be bp relocs' bs' hdr' k idx ver secs ms sf w' := by
  obtain ⟨F, G, sl, h1, h2, h3, h4, h5, h6⟩ := h
  refine ⟨F, _, h1, fun relocs' bs' hdr' w' ⟨he, hk⟩ => ⟨⟨Grow F w w', G, sl, he, h2.keeps hk (fun j hj hF => h3 j hF hj), ?_, ?_, fun j hj => Or.inl (h5 j hj), grow_lt h6 hk.size⟩, hk.mono fun j _ hj => h4 j hj⟩⟩
  · rintro j (hj | hj) hG
    · exact h3 j hj hG
    · have := h2.all.lt j hG; omega
  · rintro j (hj | hj)
    · exact Or.inl (h4 j hj)
    · exact Or.inr hj
end

section
variable {w : World} {G : Nat → Prop} {bp : Nat} {ver : Int} {sl : Nat → Value} {secs : Nat → List ByteArray} {ms : Nat} {sf : Int}

/-- What NewEncoderRaw leaves: a new encoder in block be. -/
def NewEnc (w : World) (G : Nat → Prop) (bp k : Nat) (ver : Int) (secs : Nat → List ByteArray) (ms : Nat) (sf : Int) (bs : List UInt8) (be : Nat) (w' : World) : Prop :=
  w.heap.size ≤ be ∧ St w' (Grow G w w') be bp [] bs false k (secs k).length ver (secPut secs k ⟨#[]⟩) ms sf ∧ Keeps G w w'

set_option maxRecDepth 10000 in
set_option maxHeartbeats 1600000 in
theorem newEncoderRaw (h : PkgS w G bp ver sl secs ms sf) (k : Nat) (hk1 : 1 ≤ k) (hk10 : k < 10) (hlen : (secs k).length < 1000000) :
    Calls Tryd.prog 21 #[.pointer (some ⟨bp, 0, none⟩), .int .i32 k] w fun e w' => ∃ be, e = .returned (.pointer (some ⟨be, 0, none⟩)) ∧ NewEnc w G bp k ver secs ms sf [] be w' := by
  obtain ⟨i0, hi, hz0, hz1, hz2⟩ := info_parts info9
  have c1 := h.all.cell k hk10
  obtain ⟨ao, cap, hsl, hcap, hcap2⟩ := h.all.slice k hk10
  rw [hsl] at c1
  have hbl := Lib.lt_of_heap h.all.blk
  have kp : (0 : Int) ≤ (k : Int) := by omega
  have kp10 : (k : Int) < 10 := by omega
  have fin : ∀ v' w1, w1.ownsRow 0 9 1 v' ((secs k).length + 1) (strCells (secs k) ++ [.string ⟨#[]⟩]) → (w.drew.alloc (.cells #[.string ⟨#[]⟩] 9)).grownBy w1 (sl k).ownBlock → Fresh (w.drew.alloc (.cells #[.string ⟨#[]⟩] 9)) (sl k) v' →
      w1.cell? ⟨bp, 1 + k, none⟩ = some (.slice ao (secs k).length cap) ∧ w1.frozen? ⟨bp, 1 + k, none⟩ = false ∧
        NewEnc w G bp k ver secs ms sf [] w1.heap.size ((w1.setCell ⟨bp, 1 + k, none⟩ v').alloc (.cells #[.pointer (some ⟨bp, 0, none⟩), .slice none 0 0, .map none, .slice none 0 0, .int .i64 0, .int .i8 0, .bool false, .int .i32 k, .int .i32 (secs k).length] 88)) := by
    intro v' w1 ho hg hf
    have hk1' : Keeps (fun j => (sl k).ownBlock = some j) w w1 := (((Keeps.refl _ _).drew).alloc _).grown hg (fun j hj => Or.inl hj)
    have hf1 : Fresh w (sl k) v' := by
      rcases hf with hf | ⟨j, hf, hj⟩
      · exact Or.inl hf
      · exact Or.inr ⟨j, hf, by simp at hj; omega⟩
    obtain ⟨a1, a2, a3, a4⟩ := h.all.appended hk10 ho hk1' hf1
    generalize hW2 : w1.setCell ⟨bp, 1 + k, none⟩ v' = W2 at *
    have hsz : W2.heap.size = w1.heap.size := by rw [← hW2]; simp [World.setCell]
    rw [← hsz]
    have hge : w.heap.size ≤ W2.heap.size := a4.size
    obtain ⟨W3, hW3⟩ : ∃ W3, W3 = W2.alloc (.cells #[.pointer (some ⟨bp, 0, none⟩), .slice none 0 0, .map none, .slice none 0 0, .int .i64 0, .int .i8 0, .bool false, .int .i32 k, .int .i32 (secs k).length] 88) := ⟨_, rfl⟩
    rw [← hW3]
    have hn := heap_alloc_new W2 (.cells #[.pointer (some ⟨bp, 0, none⟩), .slice none 0 0, .map none, .slice none 0 0, .int .i64 0, .int .i8 0, .bool false, .int .i32 k, .int .i32 (secs k).length] 88)
    rw [← hW3] at hn
    have hk3 : Keeps (fun _ => False) W2 W3 := by rw [hW3]; exact (Keeps.refl _ _).alloc _
    have hsz3 : W3.heap.size = W2.heap.size + 1 := by rw [hW3]; simp
    have e0 : secPut secs k ⟨#[]⟩ 0 = secs 0 := by simp only [secPut]; rw [if_neg (by omega)]
    have hkk : Keeps G w W3 := a4.same (hk3.mono fun _ _ h => h.elim)
    have hP3 : PkgR W3 (Grow G w W2) bp ver (slPut sl k v') (secPut secs k ⟨#[]⟩) ms (strEntries (secs 0)) (secs 0).length sf := a3.keeps hk3 (fun _ _ h => h)
    refine ⟨by rw [← hsl]; exact a1, a2, hge, ⟨fun j => j = W2.heap.size, Grow G w W2, slPut sl k v', ?_, ⟨by rw [e0]; exact hP3, by rw [e0]; exact h.nodup, by rw [e0]; exact h.sizes⟩, ?_, ?_, ?_, grow_lt h.all.lt hkk.size⟩, hkk⟩
    · refine ⟨.slice none 0 0, .map none, .slice none 0 0, ⟨bf_zero (lr := 0) ⟨_, hn, rfl, rfl, rfl, fun i hi => ?_⟩, rfl, hP3.blk, rfl⟩, by simpa [relCells] using World.ownsRow_nil _ _ _ _, Or.inl ⟨rfl, rfl⟩, List.nodup_nil, by simp, rfl, by simp [Value.ownBlock], by simp [Value.ownBlock], by simp, fun j hj => by omega⟩
      rcases i with _ | _ | _ | _ | _ | _ | _ | _ | _ | i
      all_goals first | rfl | omega | simp [encR]
    · rintro j rfl hG
      have := a3.lt _ hG
      omega
    · rintro j rfl; exact Or.inr ⟨hge, by omega⟩
    · rintro j (hj | hj)
      · exact Or.inl hj
      · exact Or.inr ⟨hj.1, by omega⟩
  have hrA : (w.drew.alloc (.cells #[.string ⟨#[]⟩] 9)).ownsRow 0 9 1 (sl k) (secs k).length (strCells (secs k)) := (show w.drew.ownsRow 0 9 1 (sl k) (secs k).length (strCells (secs k)) from h.all.row k hk10).alloc _
  have HC : Hid (∀ j u, [Value.string ⟨#[]⟩][j]? = some u → (w.alloc (.cells #[.string ⟨#[]⟩] 9)).drew.cell? ((⟨w.heap.size, 0, none⟩ : Addr).add j) = some u) := news_cells w [Value.string ⟨#[]⟩] 9
  rw [hsl] at hrA fin
  have HA := Lib.hid hrA
  have HF := Lib.hid fin
  clear hrA fin h hsl
  generalize secs k = L at *
  go_enter Tryd.func21, Tryd.ntmps21
  go_wp2
  go_region_law (
    refine step_append_fresh rfl (.tmp 21) (.tmp 22) 28 rfl 9 i0 (.string ⟨#[]⟩) 1 16 Tryd.underlying28 hi hz0 hz1 hz2 rfl (by decide) (.slice ao L.length cap) L.length (strCells L) (by simp [Act.eval, Act.put]) HA.out ⟨w.heap.size, 0, none⟩ 1 1 [.string ⟨#[]⟩] (by simp [Act.eval, Act.put]) rfl ?_ ?_ ?_ ?_ ?_
    · exact HC.out
    · simp [Value.oneCell']
    · unfold maxLen; omega
    · omega
    intro v' w1 hown hgrow hfresh
    obtain ⟨d1', e1', hS⟩ := HF.out v' w1 hown hgrow hfresh
    obtain ⟨ao', cap', hv'⟩ := slice_form hown
    subst hv'
    have HS := Lib.hid hS
    clear hS hown hgrow hfresh)
  all_goals (
    go_wp2
    go_ret
    exact ⟨_, rfl, HS.out⟩)

end
end Go.Proofs.YthhpmeaajgjdeaaDoor
