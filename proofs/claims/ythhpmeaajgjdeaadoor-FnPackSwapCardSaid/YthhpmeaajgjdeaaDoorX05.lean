/- The encoder's raw relocation, first part. -/
import Derived.Test.YthhpmeaajgjdeaaDoorX04
import Derived.Test.YthhpmeaajgjdeaaDoorX03
import Derived.Deep.DeepFit

set_option linter.unusedVariables false
set_option linter.unusedSimpArgs false

/- Ha: An encoder with its references: what its blocks are, and how a writer of bytes leaves them. -/
namespace Go.Proofs.YthhpmeaajgjdeaaDoor
open Go Go.RowKit
open Go.ChangeMaps (setBlock)

/-- The other fields of an encoder. -/
def encR (bp : Nat) (rsv mapv : Value) (hdr : Bool) (k idx : Int) : Nat → Option Value
  | 0 => some (.pointer (some ⟨bp, 0, none⟩))
  | 1 => some rsv
  | 2 => some mapv
  | 6 => some (.bool hdr)
  | 7 => some (.int .i32 k)
  | 8 => some (.int .i32 idx)
  | _ => none

def relVal (p : Int × Int) : Value := .agg #[.int .i32 p.1, .int .i32 p.2]
def relCells (l : List (Int × Int)) : List Value := l.flatMap fun p => [.int .i32 p.1, .int .i32 p.2]
def relEntries (l : List (Int × Int)) : Array MapEntry := (l.mapIdx fun i p => (⟨relVal p, .int .u32 i, i⟩ : MapEntry)).toArray
def ok32 (p : Int × Int) : Prop := (Lit.int .i32 p.1).wf = true ∧ (Lit.int .i32 p.2).wf = true

/-- The map of the references: none yet, or one that tells each one's place. -/
def RelMap (w : World) (mapv : Value) (relocs : List (Int × Int)) : Prop :=
  (mapv = .map none ∧ relocs = []) ∨ ∃ m, mapv = .map (some m) ∧ w.heap[m]? = some (.map (relEntries relocs) relocs.length)

theorem relEntries_push (l : List (Int × Int)) (p : Int × Int) : (relEntries l).push ⟨relVal p, .int .u32 l.length, l.length⟩ = relEntries (l ++ [p]) := by
  simp [relEntries, List.mapIdx_append]

theorem relCells_length (l : List (Int × Int)) : (relCells l).length = l.length * 2 := by
  induction l with
  | nil => rfl
  | cons p l ih => simp only [relCells, List.flatMap_cons, List.length_append, List.length_cons, List.length_nil] at ih ⊢; omega

theorem relEntries_mem {l : List (Int × Int)} {x : MapEntry} (h : x ∈ (relEntries l).toList) : ∃ (i : Nat) (p : Int × Int), l[i]? = some p ∧ x = ⟨relVal p, .int .u32 i, i⟩ := by
  obtain ⟨i, hi⟩ := List.getElem?_of_mem h
  simp only [relEntries, List.toList_toArray, List.getElem?_mapIdx, Option.map_eq_some_iff] at hi
  obtain ⟨p, hp, rfl⟩ := hi
  exact ⟨i, p, hp, rfl⟩

theorem relVal_inj {p q : Int × Int} (h : relVal p = relVal q) : p = q := by
  simp only [relVal, Value.agg.injEq, Array.mk.injEq, List.cons.injEq, Value.int.injEq] at h
  obtain ⟨⟨-, h1⟩, ⟨-, h2⟩, -⟩ := h
  exact Prod.ext h1 h2

/-- An encoder, all of it; F holds its blocks. -/
def EncF (w : World) (F : Nat → Prop) (be bp : Nat) (relocs : List (Int × Int)) (bs : List UInt8) (hdr : Bool) (k idx : Int) (pc : Array Value) (sf : Int) : Prop :=
  ∃ rsv mapv v, Enc w be bp (encR bp rsv mapv hdr k idx) v bs pc sf ∧ w.ownsRow 0 97 2 rsv relocs.length (relCells relocs) ∧ RelMap w mapv relocs ∧ relocs.Nodup ∧ (∀ p ∈ relocs, ok32 p) ∧
    F be ∧ (∀ j, v.ownBlock = some j → F j) ∧ (∀ j, rsv.ownBlock = some j → F j) ∧ (∀ m, mapv = .map (some m) → F m) ∧ ∀ j, F j → j < w.heap.size

/-- What an encoder's method leaves. -/
def EncFPut (w : World) (F : Nat → Prop) (be bp : Nat) (relocs : List (Int × Int)) (bs : List UInt8) (hdr : Bool) (k idx : Int) (pc : Array Value) (sf : Int) (w' : World) : Prop :=
  EncF w' (Grow F w w') be bp relocs bs hdr k idx pc sf ∧ Keeps F w w'

theorem grow_lt {F : Nat → Prop} {w w' : World} (hF : ∀ j, F j → j < w.heap.size) (hs : w.heap.size ≤ w'.heap.size) : ∀ j, Grow F w w' j → j < w'.heap.size := by
  rintro j (h | h)
  · exact Nat.lt_of_lt_of_le (hF j h) hs
  · exact h.2

theorem grow_fresh {F : Nat → Prop} {w w' : World} {v v' : Value} (hF : ∀ j, v.ownBlock = some j → F j) (hf : Fresh w v v') (hl : ∀ j, v'.ownBlock = some j → j < w'.heap.size) : ∀ j, v'.ownBlock = some j → Grow F w w' j := by
  intro j hj
  rcases hf with hf | ⟨i, hf, hi⟩
  · exact Or.inl (hF j (by rw [← hf]; exact hj))
  · rw [hf] at hj; cases hj; exact Or.inr ⟨hi, hl _ hf⟩

theorem ownsRow_lt {w : World} {base : Nat} {e : TypeId} {size : Nat} {v : Value} {n : Nat} {xs : List Value} (h : w.ownsRow base e size v n xs) : ∀ j, v.ownBlock = some j → j < w.heap.size := fun j hj => (h.lt j hj).2

theorem bf_map {w : World} {b q : Nat} {T : TypeId} {R : Nat → Option Value} {v : Value} {bs : List Value} (h : Bf w b q T R v bs) {m : Nat} {es : Array MapEntry} {c : Nat} (hm : w.heap[m]? = some (.map es c)) : ¬ BfS b v m := by
  obtain ⟨lr, ⟨cs, hb, -⟩, ho, -⟩ := h
  rintro (rfl | e)
  · rw [hb] at hm; cases hm
  · rcases ho.2 with ⟨rfl, _⟩ | ⟨g, cap, cur, rfl, -, hg, -⟩
    · simp [Value.ownBlock] at e
    · simp only [Value.ownBlock, Option.some.injEq] at e
      subst e
      rw [hg] at hm; cases hm

theorem ownsRow_block {w : World} {base : Nat} {e : TypeId} {size : Nat} {v : Value} {n : Nat} {xs : List Value} (h : w.ownsRow base e size v n xs) {g : Nat} (hg : v.ownBlock = some g) : ∃ cur, w.heap[g]? = some (.cells cur e (0, 0)) := by
  rcases h.2 with ⟨rfl, _⟩ | ⟨g', cap, cur, rfl, hb, hg', r⟩
  · simp [Value.ownBlock] at hg
  · simp only [Value.ownBlock, Option.some.injEq] at hg
    subst hg
    exact ⟨cur, hg'⟩

/-- A writer of bytes leaves an encoder whole. -/
theorem EncF.lift {w : World} {F : Nat → Prop} {be bp : Nat} {relocs : List (Int × Int)} {bs : List UInt8} {hdr : Bool} {k idx : Int} {pc : Array Value} {sf : Int} (h : EncF w F be bp relocs bs hdr k idx pc sf) :
    ∃ R v, Enc w be bp R v bs pc sf ∧ ∀ bs' w', EncPut w be bp R v bs' pc sf w' → EncFPut w F be bp relocs bs' hdr k idx pc sf w' := by
  obtain ⟨rsv, mapv, v, he, hr, hm, hnd, hok, hFb, hFv, hFr, hFm, hlt⟩ := h
  refine ⟨_, v, he, fun bs' w' ⟨v', he', hf, hk⟩ => ⟨⟨rsv, mapv, v', he', ?_, ?_, hnd, hok, Or.inl hFb, ?_, fun j hj => Or.inl (hFr j hj), fun m hm => Or.inl (hFm m hm), grow_lt hlt hk.size⟩, ?_⟩⟩
  · refine ownsRow_keeps hr hk fun g hg => ?_
    obtain ⟨cur, hgg⟩ := ownsRow_block hr hg
    exact bf_tag he.buf hgg (by decide) (by decide)
  · rcases hm with hm | ⟨m, rfl, hm⟩
    · exact Or.inl hm
    · exact Or.inr ⟨m, rfl, hk.heap hm (bf_map he.buf hm)⟩
  · obtain ⟨lr, -, ho, -⟩ := he'.buf
    exact grow_fresh hFv hf (ownsRow_lt ho)
  · refine hk.mono fun j _ hj => ?_
    rcases hj with rfl | hj
    · exact hFb
    · exact hFv j hj

theorem EncFPut.refl {w : World} {F : Nat → Prop} {be bp : Nat} {relocs : List (Int × Int)} {bs : List UInt8} {hdr : Bool} {k idx : Int} {pc : Array Value} {sf : Int} (h : EncF w F be bp relocs bs hdr k idx pc sf) : EncFPut w F be bp relocs bs hdr k idx pc sf w := by
  refine ⟨?_, Keeps.refl _ _⟩
  obtain ⟨rsv, mapv, v, he, hr, hm, hnd, hok, hFb, hFv, hFr, hFm, hlt⟩ := h
  exact ⟨rsv, mapv, v, he, hr, hm, hnd, hok, Or.inl hFb, fun j hj => Or.inl (hFv j hj), fun j hj => Or.inl (hFr j hj), fun m hm => Or.inl (hFm m hm), grow_lt hlt (Nat.le_refl _)⟩

theorem EncF.mono {w : World} {F F' : Nat → Prop} {be bp : Nat} {relocs : List (Int × Int)} {bs : List UInt8} {hdr : Bool} {k idx : Int} {pc : Array Value} {sf : Int} (h : EncF w F be bp relocs bs hdr k idx pc sf) (hs : ∀ j, F j → F' j) (hlt' : ∀ j, F' j → j < w.heap.size) : EncF w F' be bp relocs bs hdr k idx pc sf := by
  obtain ⟨rsv, mapv, v, he, hr, hm, hnd, hok, hFb, hFv, hFr, hFm, hlt⟩ := h
  exact ⟨rsv, mapv, v, he, hr, hm, hnd, hok, hs _ hFb, fun j hj => hs _ (hFv j hj), fun j hj => hs _ (hFr j hj), fun m hm => hs _ (hFm m hm), hlt'⟩

theorem EncFPut.trans {w w1 w2 : World} {F : Nat → Prop} {be bp : Nat} {relocs1 relocs2 : List (Int × Int)} {bs1 bs2 : List UInt8} {hdr hdr2 : Bool} {k idx : Int} {pc pc2 : Array Value} {sf : Int}
    (h : EncFPut w F be bp relocs1 bs1 hdr k idx pc sf w1) (h2 : EncFPut w1 (Grow F w w1) be bp relocs2 bs2 hdr2 k idx pc2 sf w2) (hlt : ∀ j, F j → j < w.heap.size) : EncFPut w F be bp relocs2 bs2 hdr2 k idx pc2 sf w2 := by
  refine ⟨h2.1.mono (fun j hj => ?_) (grow_lt hlt (Nat.le_trans h.2.size h2.2.size)), h.2.trans' h2.2⟩
  rcases hj with (hj | hj) | hj
  · exact Or.inl hj
  · exact Or.inr ⟨hj.1, Nat.lt_of_lt_of_le hj.2 h2.2.size⟩
  · exact Or.inr ⟨Nat.le_trans h.2.size hj.1, hj.2⟩

theorem EncF.lt {w : World} {F : Nat → Prop} {be bp : Nat} {relocs : List (Int × Int)} {bs : List UInt8} {hdr : Bool} {k idx : Int} {pc : Array Value} {sf : Int} (h : EncF w F be bp relocs bs hdr k idx pc sf) : ∀ j, F j → j < w.heap.size := by
  obtain ⟨rsv, mapv, v, he, hr, hm, hnd, hok, hFb, hFv, hFr, hFm, hlt⟩ := h
  exact hlt

/-- Another field of the struct that holds the buffer. -/
theorem Bf.setOther {w : World} {b q : Nat} {T : TypeId} {R : Nat → Option Value} {v : Value} {bs : List Value} (h : Bf w b q T R v bs) (k : Nat) (hk : k < q ∨ q + 3 ≤ k) {old : Value} (hR : R k = some old) (x : Value) :
    Bf (w.setCell ⟨b, k, none⟩ x) b q T (fun i => if i = k then some x else R i) v bs := by
  obtain ⟨lr, ⟨cs, hb, h0, h1, h2, hr⟩, ho, hne⟩ := h
  have hlt : k < cs.size := by
    have := hr k hk; rw [hR] at this; exact (Array.getElem?_eq_some_iff.1 this).1
  refine ⟨lr, ⟨_, Lib.heap_setCell_same (i := k) hb x, ?_, ?_, ?_, fun i hi => ?_⟩, ownsRow_keeps (S := fun j => j = b) ho ((Keeps.refl _ _).setCell (by exact Or.inl rfl) _) (fun j e hj => hne (by rw [← hj]; exact e)), hne⟩
  · rw [Array.getElem?_setIfInBounds_ne (by omega)]; exact h0
  · rw [Array.getElem?_setIfInBounds_ne (by omega)]; exact h1
  · rw [Array.getElem?_setIfInBounds_ne (by omega)]; exact h2
  · by_cases e : i = k
    · subst e; simp [hlt]
    · rw [Array.getElem?_setIfInBounds_ne (Ne.symm e)]; simp only [if_neg e]; exact hr i hi

theorem encR_set2 (bp : Nat) (rsv mapv : Value) (hdr : Bool) (k idx : Int) (x : Value) : (fun i => if i = 2 then some x else encR bp rsv mapv hdr k idx i) = encR bp rsv x hdr k idx := by
  funext i
  rcases i with _ | _ | _ | _ | _ | _ | _ | _ | _ | i <;> simp [encR]
theorem encR_set1 (bp : Nat) (rsv mapv : Value) (hdr : Bool) (k idx : Int) (x : Value) : (fun i => if i = 1 then some x else encR bp rsv mapv hdr k idx i) = encR bp x mapv hdr k idx := by
  funext i
  rcases i with _ | _ | _ | _ | _ | _ | _ | _ | _ | i <;> simp [encR]
theorem encR_set6 (bp : Nat) (rsv mapv : Value) (hdr : Bool) (k idx : Int) (x : Bool) : (fun i => if i = 6 then some (.bool x) else encR bp rsv mapv hdr k idx i) = encR bp rsv mapv x k idx := by
  funext i
  rcases i with _ | _ | _ | _ | _ | _ | _ | _ | _ | i <;> simp [encR]

end Go.Proofs.YthhpmeaajgjdeaaDoor

/- Hb: (*Encoder).rawReloc: a reference's place among an encoder's references. -/
namespace Go.Proofs.YthhpmeaajgjdeaaDoor
open Go Go.RowKit
open Go.ChangeMaps (setBlock)

theorem relKeys {l : List (Int × Int)} (h : ∀ p ∈ l, ok32 p) : ∀ x ∈ (relEntries l).toList, ∃ k, keyOf Tryd.prog 97 x.key = some k := by
  intro x hx
  obtain ⟨i, p, hp, rfl⟩ := relEntries_mem hx
  have := h p (List.mem_of_getElem? hp)
  exact key97_mk this.1 this.2

theorem nodup_idx {l : List (Int × Int)} (hn : l.Nodup) {j : Nat} {p : Int × Int} (h : l[j]? = some p) : l.idxOf p = j := by
  obtain ⟨hj, rfl⟩ := List.getElem?_eq_some_iff.1 h
  exact hn.idxOf_getElem j hj

/-- The look-up in the map of the references. -/
theorem rel_lookup {w : World} {m : Nat} {l : List (Int × Int)} (hm : w.heap[m]? = some (.map (relEntries l) l.length)) (hok : ∀ p ∈ l, ok32 p) (hnd : l.Nodup) {p : Int × Int} (hp : ok32 p) :
    (p ∈ l → (Instr.lookup 86 (.map (some m)) (relVal p) true).run Tryd.prog w = .ok (.tuple #[.int .u32 (l.idxOf p), .bool true]) w) ∧
    (p ∉ l → (Instr.lookup 86 (.map (some m)) (relVal p) true).run Tryd.prog w = .ok (.tuple #[.int .u32 0, .bool false]) w) := by
  obtain ⟨kl, hk⟩ := key97_mk hp.1 hp.2
  rcases lookup_ok key97 Tryd.underlying86 (z := .int .u32 0) (by kernel_rfl) hm (relKeys hok) (key := relVal p) hk with ⟨h, hno⟩ | ⟨j, x, h, hx, hkey⟩
  · refine ⟨fun hmem => ?_, fun _ => h⟩
    obtain ⟨i, hi⟩ := List.getElem?_of_mem hmem
    exact absurd rfl (hno ⟨relVal p, .int .u32 i, i⟩ (List.mem_of_getElem? (i := i) (by simp [relEntries, hi])))
  · obtain ⟨i, q, hq, rfl⟩ := relEntries_mem (l := l) (List.mem_of_getElem? (i := j) (by simpa using hx))
    have e := relVal_inj hkey
    subst e
    refine ⟨fun _ => ?_, fun hn => absurd (List.mem_of_getElem? hq) hn⟩
    rw [nodup_idx hnd hq]
    exact h

/-- The store of a new reference. -/
theorem rel_update {w : World} {m : Nat} {l : List (Int × Int)} (hm : w.heap[m]? = some (.map (relEntries l) l.length)) (hok : ∀ p ∈ l, ok32 p) {p : Int × Int} (hp : ok32 p) (hno : p ∉ l) :
    (Instr.mapUpdate 86 (.map (some m)) (relVal p) (.int .u32 l.length)).run Tryd.prog w = .ok () (setBlock w m (.map (relEntries (l ++ [p])) (l.length + 1))) := by
  obtain ⟨kl, hk⟩ := key97_mk hp.1 hp.2
  rw [← relEntries_push]
  refine update_new key97 Tryd.underlying86 hm (relKeys hok) (key := relVal p) hk (fun x hx hkey => ?_) _
  obtain ⟨i, q, hq, rfl⟩ := relEntries_mem hx
  rw [relVal_inj hkey] at hq
  exact hno (List.mem_of_getElem? hq)

set_option maxRecDepth 10000 in
set_option maxHeartbeats 800000 in
/-- The reference is there. -/
theorem rawReloc_found (be bp m : Nat) (p : Int × Int) (l : List (Int × Int)) (R : Nat → Option Value) (v : Value) (bs : List Value) (w : World) (h : Bf w be 3 88 R v bs) (hR : R 2 = some (.map (some m)))
    (hm : w.heap[m]? = some (.map (relEntries l) l.length)) (hok : ∀ p ∈ l, ok32 p) (hnd : l.Nodup) (hp : ok32 p) (hmem : p ∈ l) (hlen : l.length < 4294967296) :
    Calls Tryd.prog 47 #[.pointer (some ⟨be, 0, none⟩), .int .i32 p.1, .int .i32 p.2] w fun e w' => e = .returned (.int .i64 (l.idxOf p)) ∧ Keeps (fun _ => False) w w' := by
  obtain ⟨lr, h3, -, -⟩ := h
  have hbl := h3.lt
  have c2 : w.cell? ⟨be, 2, none⟩ = some (.map (some m)) := (h3.rest 2 (by omega)).trans hR
  have hix : l.idxOf p < l.length := List.idxOf_lt_length_iff.2 hmem
  have hlk : (Instr.lookup 86 (.map (some m)) (.agg #[.int .i32 p.1, .int .i32 p.2]) true).run Tryd.prog (w.alloc (.cells #[.int .i32 p.1, .int .i32 p.2] 97)).drew = .ok (.tuple #[.int .u32 (l.idxOf p), .bool true]) (w.alloc (.cells #[.int .i32 p.1, .int .i32 p.2] 97)).drew :=
    (rel_lookup (w := (w.alloc (.cells #[.int .i32 p.1, .int .i32 p.2] 97)).drew) ((Below.heap_alloc w _ m (Lib.lt_of_heap hm)).trans hm) hok hnd hp).1 hmem
  have hnm : ∀ W, (binOp .neq 86 (.map (some m)) (.map none)).run Tryd.prog W = .ok (.bool true) W := fun W => run_neq_map_nil W 86 97 40 (some m) Tryd.underlying86
  clear h3
  generalize hI : l.idxOf p = I at *
  generalize p.1 = p1 at *
  generalize p.2 = p2 at *
  clear hI
  go_enter Tryd.func47, Tryd.ntmps47
  go_wp2
  go_region
  go_wp2
  go_ret
  exact ⟨rfl, ((Keeps.refl _ _).alloc _).drew⟩

theorem info97 : (Tryd.prog.info? 97).map (fun i => (i.zero, i.size, i.bytes)) = some (some (.agg #[.int .i32 0, .int .i32 0]), 2, 8) := by kernel_rfl

/-- The cells of a block that has just been laid. -/
theorem news_cells (W : World) (l : List Value) (T : TypeId) : ∀ j u, l[j]? = some u → (W.alloc (.cells l.toArray T)).cell? ((⟨W.heap.size, 0, none⟩ : Addr).add j) = some u := by
  intro j u hj
  rw [Lib.addr_add, Nat.zero_add, Lib.cell_of_heap (heap_alloc_new W _)]
  simpa using hj

theorem slice_form {w : World} {base : Nat} {e : TypeId} {size : Nat} {v : Value} {n : Nat} {xs : List Value} (h : w.ownsRow base e size v n xs) : ∃ ao cap, v = .slice ao n cap := by
  rcases h.2 with ⟨rfl, h0⟩ | ⟨g, cap, cur, rfl, -⟩
  · exact ⟨none, 0, by rw [h0]⟩
  · exact ⟨_, cap, rfl⟩

/-- What a new reference leaves. -/
def RelNew (w : World) (be bp m : Nat) (p : Int × Int) (l : List (Int × Int)) (rsv : Value) (hdr : Bool) (k idx : Int) (v : Value) (bs : List Value) (w' : World) : Prop :=
  ∃ rsv', Bf w' be 3 88 (encR bp rsv' (.map (some m)) hdr k idx) v bs ∧ w'.ownsRow 0 97 2 rsv' (l.length + 1) (relCells l ++ [.int .i32 p.1, .int .i32 p.2]) ∧ Fresh w rsv rsv' ∧
    w'.heap[m]? = some (.map (relEntries (l ++ [p])) (l.length + 1)) ∧ Keeps (fun j => j = be ∨ j = m ∨ rsv.ownBlock = some j) w w'

set_option maxRecDepth 10000 in
set_option maxHeartbeats 1600000 in
/-- The reference is not there; there is a map. -/
theorem rawReloc_new (be bp m : Nat) (p : Int × Int) (l : List (Int × Int)) (rsv : Value) (hdr : Bool) (k idx : Int) (v : Value) (bs : List Value) (w : World) (h : Bf w be 3 88 (encR bp rsv (.map (some m)) hdr k idx) v bs)
    (hrow : w.ownsRow 0 97 2 rsv l.length (relCells l))
    (hm : w.heap[m]? = some (.map (relEntries l) l.length)) (hok : ∀ p ∈ l, ok32 p) (hnd : l.Nodup) (hp : ok32 p) (hno : p ∉ l) (hlen : l.length < 1000000) :
    Calls Tryd.prog 47 #[.pointer (some ⟨be, 0, none⟩), .int .i32 p.1, .int .i32 p.2] w fun e w' => e = .returned (.int .i64 l.length) ∧ RelNew w be bp m p l rsv hdr k idx v bs w' := by
  obtain ⟨i0, hi, hz0, hz1, hz2⟩ := info_parts info97
  obtain ⟨lr, h3, -, -⟩ := id h
  have hbl := h3.lt
  have hml := Lib.lt_of_heap hm
  have hbm : m ≠ be := fun e => bf_map h hm (Or.inl e)
  have c2 : w.cell? ⟨be, 2, none⟩ = some (.map (some m)) := h3.rest 2 (by omega)
  obtain ⟨ao, cap, hrsv, hcap, hcap2⟩ : ∃ ao cap, rsv = .slice ao l.length cap ∧ l.length ≤ cap ∧ cap ≤ 9223372036854775807 := by
    rcases hrow.2 with ⟨rfl, h0⟩ | ⟨g, cap, cur, rfl, -, -, h1, h2, -⟩
    · exact ⟨none, 0, by rw [h0], by omega, by omega⟩
    · exact ⟨_, cap, rfl, h1, by simpa [maxLen] using h2⟩
  subst hrsv
  have c1 : w.cell? ⟨be, 1, none⟩ = some (.slice ao l.length cap) := h3.rest 1 (by omega)
  have hlk : (Instr.lookup 86 (.map (some m)) (.agg #[.int .i32 p.1, .int .i32 p.2]) true).run Tryd.prog (w.alloc (.cells #[.int .i32 p.1, .int .i32 p.2] 97)).drew = .ok (.tuple #[.int .u32 0, .bool false]) (w.alloc (.cells #[.int .i32 p.1, .int .i32 p.2] 97)).drew :=
    (rel_lookup (w := (w.alloc (.cells #[.int .i32 p.1, .int .i32 p.2] 97)).drew) ((Below.heap_alloc w _ m (Lib.lt_of_heap hm)).trans hm) hok hnd hp).2 hno
  have hnm : ∀ W, (binOp .neq 86 (.map (some m)) (.map none)).run Tryd.prog W = .ok (.bool true) W := fun W => run_neq_map_nil W 86 97 40 (some m) Tryd.underlying86
  obtain ⟨W, hW⟩ : ∃ W, W = setBlock (w.alloc (.cells #[.int .i32 p.1, .int .i32 p.2] 97)).drew.drew m (.map (relEntries (l ++ [p])) (l.length + 1)) := ⟨_, rfl⟩
  have hup : (Instr.mapUpdate 86 (.map (some m)) (.agg #[.int .i32 p.1, .int .i32 p.2]) (.int .u32 l.length)).run Tryd.prog (w.alloc (.cells #[.int .i32 p.1, .int .i32 p.2] 97)).drew.drew = .ok () W := by
    rw [hW]; exact rel_update (w := (w.alloc (.cells #[.int .i32 p.1, .int .i32 p.2] 97)).drew.drew) ((Below.heap_alloc w _ m (Lib.lt_of_heap hm)).trans hm) hok hp hno
  have hk : Keeps (fun j => j = m) w W := by
    rw [hW]; exact ((((Keeps.refl _ _).alloc _).drew).drew).setBlock (by exact Or.inl rfl) _
  have hmW : W.heap[m]? = some (.map (relEntries (l ++ [p])) (l.length + 1)) := by
    rw [hW]; exact ChangeMaps.heap_setBlock_same (w := (w.alloc (.cells #[.int .i32 p.1, .int .i32 p.2] 97)).drew.drew) ((Below.heap_alloc w _ m (Lib.lt_of_heap hm)).trans hm) _
  have hN : W.heap[w.heap.size]? = some (.cells #[.int .i32 p.1, .int .i32 p.2] 97 (0, 0)) := by
    rw [hW, ChangeMaps.heap_setBlock_other (w := (w.alloc (.cells #[.int .i32 p.1, .int .i32 p.2] 97)).drew.drew) ((Below.heap_alloc w _ m (Lib.lt_of_heap hm)).trans hm) _ (by omega)]; exact heap_alloc_new w _
  have hB : Bf W be 3 88 (encR bp (.slice ao l.length cap) (.map (some m)) hdr k idx) v bs := h.keeps hk fun j hj e => bf_map h hm (by rw [← e]; exact hj)
  have hrW : W.ownsRow 0 97 2 (.slice ao l.length cap) l.length (relCells l) := ownsRow_keeps hrow hk fun j hj e => by
    obtain ⟨cur, hg⟩ := ownsRow_block hrow hj
    rw [e, hm] at hg; cases hg
  clear h3 hW
  obtain ⟨lr2, h3W, -, -⟩ := id hB
  have hbW := h3W.lt
  have d1 : W.cell? ⟨be, 1, none⟩ = some (.slice ao l.length cap) := h3W.rest 1 (by omega)
  have n0 : W.cell? ⟨w.heap.size, 0, none⟩ = some (.int .i32 p.1) := by rw [Lib.cell_of_heap hN]; rfl
  have n1 : W.cell? ⟨w.heap.size, 1, none⟩ = some (.int .i32 p.2) := by rw [Lib.cell_of_heap hN]; rfl
  have hNl := Lib.lt_of_heap hN
  have hWl : W.heap.size ≠ be := by omega
  -- what the append leaves
  have fin : ∀ v' w', w'.ownsRow 0 97 2 v' (l.length + 1) (relCells l ++ [.int .i32 p.1, .int .i32 p.2]) → (W.drew.alloc (.cells #[.int .i32 p.1, .int .i32 p.2] 97)).grownBy w' (Value.slice ao l.length cap).ownBlock → Fresh (W.drew.alloc (.cells #[.int .i32 p.1, .int .i32 p.2] 97)) (.slice ao l.length cap) v' →
      w'.cell? ⟨be, 1, none⟩ = some (.slice ao l.length cap) ∧ w'.frozen? ⟨be, 1, none⟩ = false ∧ RelNew w be bp m p l (.slice ao l.length cap) hdr k idx v bs (w'.setCell ⟨be, 1, none⟩ v') := by
    intro v' w' ho hg hf
    have hk2 : Keeps (fun j => (Value.slice ao l.length cap).ownBlock = some j) W w' := (((Keeps.refl _ _).drew).alloc _).grown hg (fun j hj => Or.inl hj)
    have hB2 : Bf w' be 3 88 (encR bp (.slice ao l.length cap) (.map (some m)) hdr k idx) v bs := hB.keeps hk2 fun j hj e => by
      obtain ⟨cur, hgg⟩ := ownsRow_block hrW e
      exact bf_tag hB hgg (by decide) (by decide) hj
    obtain ⟨lr4, h34, -, -⟩ := id hB2
    have hkf : Keeps (fun j => j = be ∨ j = m ∨ (Value.slice ao l.length cap).ownBlock = some j) w w' :=
      (hk.mono (S' := fun j => j = be ∨ j = m ∨ (Value.slice ao l.length cap).ownBlock = some j) fun j _ e => Or.inr (Or.inl e)).trans hk2 fun j hj => Or.inl (Or.inr (Or.inr hj))
    have hob : ∀ j, v'.ownBlock = some j → j ≠ be := by
      intro j hj e
      obtain ⟨cur, hgg⟩ := ownsRow_block ho hj
      rw [e] at hgg
      exact absurd (h34.tag hgg) (by decide)
    refine ⟨h34.rest 1 (by omega), h34.f 1, v', ?_, ?_, ?_, ?_, hkf.setCell (by exact Or.inl (Or.inl rfl)) _⟩
    · have := hB2.setOther 1 (by omega) (old := .slice ao l.length cap) rfl v'
      rw [encR_set1] at this
      exact this
    · exact ownsRow_keeps (S := fun j => j = be) ho ((Keeps.refl _ _).setCell (by exact Or.inl rfl) _) hob
    · rcases hf with hf | ⟨j, hf, hj⟩
      · exact Or.inl hf
      · refine Or.inr ⟨j, hf, ?_⟩
        have : W.heap.size ≤ j := by simp at hj; omega
        have := hk.size
        omega
    · rw [Below.heap_setCell _ _ _ _ hbm]
      refine hk2.heap hmW fun e => ?_
      obtain ⟨cur, hgg⟩ := ownsRow_block hrW e
      rw [hmW] at hgg; cases hgg
  have hrA : (W.drew.alloc (.cells #[.int .i32 p.1, .int .i32 p.2] 97)).ownsRow 0 97 2 (.slice ao l.length cap) l.length (relCells l) := (show W.drew.ownsRow 0 97 2 (.slice ao l.length cap) l.length (relCells l) from hrW).alloc _
  have HC : Hid (∀ j u, [Value.int .i32 p.1, Value.int .i32 p.2][j]? = some u → (W.alloc (.cells #[.int .i32 p.1, .int .i32 p.2] 97)).drew.cell? ((⟨W.heap.size, 0, none⟩ : Addr).add j) = some u) := news_cells W [Value.int .i32 p.1, Value.int .i32 p.2] 97
  have HA := Lib.hid hrA
  have HF := Lib.hid fin
  have HL := Lib.hid hlen
  clear hrA fin hB hrW h3W hmW hN hk hrow h hm
  go_enter Tryd.func47, Tryd.ntmps47
  go_wp2
  go_region
  go_wp2
  go_region
  go_wp2
  go_region_law (
    refine step_append_fresh rfl (.tmp 51) (.tmp 53) 85 rfl 97 i0 (.agg #[.int .i32 0, .int .i32 0]) 2 8 Tryd.underlying85 hi hz0 hz1 hz2 rfl (by decide) (.slice ao l.length cap) l.length (relCells l) (by simp [Act.eval, Act.put]) HA.out ⟨W.heap.size, 0, none⟩ 1 1 [.int .i32 p.1, .int .i32 p.2] (by simp [Act.eval, Act.put]) rfl ?_ ?_ ?_ ?_ ?_
    · exact HC.out
    · simp [Value.oneCell']
    · have := HL.out; unfold maxLen; omega
    · have := HL.out; omega
    intro v' w' hown hgrow hfresh
    obtain ⟨d1', e1', hnew⟩ := HF.out v' w' hown hgrow hfresh
    obtain ⟨ao', cap', hv'⟩ := slice_form hown
    subst hv'
    have HN := Lib.hid hnew
    clear hnew hown hgrow hfresh)
  all_goals (
    go_wp2
    go_ret
    exact ⟨rfl, HN.out⟩)
end Go.Proofs.YthhpmeaajgjdeaaDoor
