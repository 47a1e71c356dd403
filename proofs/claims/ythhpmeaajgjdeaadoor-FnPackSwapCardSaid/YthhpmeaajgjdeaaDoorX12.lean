/- The encoder's Flush. -/
import Derived.Test.YthhpmeaajgjdeaaDoorX11
import Derived.Deep.RegionHeld3

set_option linter.unusedVariables false
set_option linter.unusedSimpArgs false

/- Ma: For Flush: the bytes of its header; an encoder taken apart; a string of a section replaced. -/
namespace Go.Proofs.YthhpmeaajgjdeaaDoor
open Go Go.RowKit

def relBytes (sf : Int) (p : Int × Int) : List UInt8 := sy sf 9 ++ ((sy sf 4 ++ Lib.uvarint p.1.toNat) ++ (sy sf 4 ++ Lib.uvarint p.2.toNat))
/-- The header, so many references told. -/
def hdrTo (sf : Int) (relocs : List (Int × Int)) (i : Nat) : List UInt8 := (sy sf 8 ++ (sy sf 4 ++ Lib.uvarint relocs.length)) ++ (relocs.take i).flatMap (relBytes sf)
def hdrBytes (sf : Int) (relocs : List (Int × Int)) : List UInt8 := hdrTo sf relocs relocs.length
/-- What Flush leaves of an element. -/
def Es.flush (sf : Int) (e : Es) : List UInt8 := hdrBytes sf e.relocs ++ e.bs

theorem hdrTo_succ {sf : Int} {relocs : List (Int × Int)} {i : Nat} {p : Int × Int} (h : relocs[i]? = some p) : hdrTo sf relocs (i + 1) = ((hdrTo sf relocs i ++ sy sf 9) ++ (sy sf 4 ++ Lib.uvarint p.1.toNat)) ++ (sy sf 4 ++ Lib.uvarint p.2.toNat) := by
  obtain ⟨hk, rfl⟩ := List.getElem?_eq_some_iff.1 h
  simp only [hdrTo]
  rw [List.take_succ_eq_append_getElem hk, List.flatMap_append]
  simp [relBytes, List.append_assoc]

theorem relBytes_length (sf : Int) (p : Int × Int) (h1 : p.1.toNat < 18446744073709551616) (h2 : p.2.toNat < 18446744073709551616) : (relBytes sf p).length ≤ 80 := by
  have := sy_length sf 9 (by omega)
  have := sy_length sf 4 (by omega)
  have := Lib.uvarint_length64 h1
  have := Lib.uvarint_length64 h2
  simp only [relBytes, List.length_append]; omega

theorem hdrTo_length (sf : Int) (relocs : List (Int × Int)) (hok : ∀ p ∈ relocs, ok32 p) (hn : relocs.length < 1000000) : ∀ i, i ≤ relocs.length → (hdrTo sf relocs i).length ≤ 100 + 80 * i
  | 0, _ => by
    have := sy_length sf 8 (by omega)
    have := sy_length sf 4 (by omega)
    have := Lib.uvarint_length64 (x := relocs.length) (by omega)
    simp only [hdrTo, List.take_zero, List.flatMap_nil, List.append_nil, List.length_append]; omega
  | i + 1, hi => by
    have h1 := hdrTo_length sf relocs hok hn i (by omega)
    have hge := List.getElem?_eq_getElem (by omega : i < relocs.length)
    rw [hdrTo_succ hge]
    have hp := hok _ (List.getElem_mem (by omega : i < relocs.length))
    obtain ⟨a, b⟩ := hp
    simp [Lit.wf, IntKind.min, IntKind.max, IntKind.signed, IntKind.bits] at a b
    have := sy_length sf 9 (by omega)
    have := sy_length sf 4 (by omega)
    have := Lib.uvarint_length64 (x := relocs[i].1.toNat) (by omega)
    have := Lib.uvarint_length64 (x := relocs[i].2.toNat) (by omega)
    simp only [List.length_append]; omega

theorem hdr_ne (sf : Int) (relocs : List (Int × Int)) : hdrBytes sf relocs ≠ [] := by
  intro h
  have := congrArg List.length h
  simp only [hdrBytes, hdrTo, List.length_append, List.length_nil] at this
  have h2 : (Lib.uvarint relocs.length).length = 0 := by omega
  have h3 : Lib.uvarint relocs.length = [] := List.eq_nil_of_length_eq_zero h2
  rw [Lib.uvarint] at h3
  split at h3 <;> simp at h3

theorem relCells_get : ∀ (l : List (Int × Int)) (i : Nat) (p : Int × Int), l[i]? = some p → (relCells l)[2 * i]? = some (.int .i32 p.1) ∧ (relCells l)[2 * i + 1]? = some (.int .i32 p.2)
  | [], i, p, h => by simp at h
  | q :: l, 0, p, h => by simp at h; subst h; exact ⟨rfl, rfl⟩
  | q :: l, i + 1, p, h => by
    have := relCells_get l i p (by simpa using h)
    rw [show 2 * (i + 1) = 2 * i + 2 by omega]
    exact this

/-- The header's flag set. -/
theorem Enc.setHdr {w : World} {be bp : Nat} {rsv mapv : Value} {hdr : Bool} {k idx : Int} {v : Value} {bs : List UInt8} {pc : Array Value} {sf : Int} (h : Enc w be bp (encR bp rsv mapv hdr k idx) v bs pc sf) (x : Bool) :
    Enc (w.setCell ⟨be, 6, none⟩ (.bool x)) be bp (encR bp rsv mapv x k idx) v bs pc sf := by
  have hne : bp ≠ be := by
    obtain ⟨lr, h3, -⟩ := h.buf
    exact three_tag h3 h.pkg (by decide)
  refine ⟨?_, rfl, ?_, h.frames⟩
  · rw [← encR_set6 bp rsv mapv hdr k idx x]
    exact h.buf.setOther 6 (Or.inr (by omega)) (old := .bool hdr) rfl _
  · rw [Below.heap_setCell _ _ _ _ (show bp ≠ (⟨be, 6, none⟩ : Addr).block from hne)]; exact h.pkg

/-- One string of a section replaced. -/
def secSet (secs : Nat → List ByteArray) (k i : Nat) (s : ByteArray) : Nat → List ByteArray := fun j => if j = k then (secs j).set i s else secs j

theorem PkgS.setStr {w : World} {G : Nat → Prop} {bp : Nat} {ver : Int} {sl : Nat → Value} {secs : Nat → List ByteArray} {ms : Nat} {sf : Int} (h : PkgS w G bp ver sl secs ms sf) {k : Nat} (hk : k < 10) (hk0 : k ≠ 0) {i : Nat} (hi : i < (secs k).length) (s : ByteArray) :
    ∃ g cap, sl k = .slice (some ⟨g, 0, none⟩) (secs k).length cap ∧ G g ∧ w.frozen? ⟨g, i, none⟩ = false ∧ (∃ old, w.cell? ⟨g, i, none⟩ = some old) ∧ PkgS (w.setCell ⟨g, i, none⟩ (.string s)) G bp ver sl (secSet secs k i s) ms sf := by
  have hrow := h.all.row k hk
  rcases id hrow.2 with ⟨e, h0⟩ | ⟨g, cap, cur, e, hb, hg, hnc, hcm, hcs, htk⟩
  · exact absurd h0 (by omega)
  have hk1 : Keeps (fun j => j = g) w (w.setCell ⟨g, i, none⟩ (.string s)) := (Keeps.refl (fun j => j = g) w).setCell (p := ⟨g, i, none⟩) (by exact Or.inl rfl) _
  have e0 : secSet secs k i s 0 = secs 0 := by simp only [secSet]; rw [if_neg (Ne.symm hk0)]
  have hne1 : g ≠ bp := fun e2 => by rw [e2, h.all.blk] at hg; cases hg
  have hne2 : g ≠ ms := fun e2 => by have := h.all.map; rw [← e2, hg] at this; cases this
  have hgl : (sl k).ownBlock = some g := by rw [e]; rfl
  refine ⟨g, cap, e, h.all.Gr k hk g hgl, Lib.frozen_of_heap hg i, ⟨_, by rw [Lib.cell_of_heap hg]; exact Array.getElem?_eq_getElem (by omega)⟩, ⟨⟨hk1.heap h.all.blk (Ne.symm hne1), fun j hj => ?_, h.all.apart, ?_, h.all.Gb, h.all.Gm, h.all.Gr, fun j hj => Nat.lt_of_lt_of_le (h.all.lt j hj) hk1.size⟩, by rw [e0]; exact h.nodup, by rw [e0]; exact h.sizes⟩⟩
  · by_cases hjk : j = k
    · subst hjk
      simp only [secSet, if_true, List.length_set]
      refine ⟨by simp [strCells], .inr ⟨g, cap, _, e, hb, Lib.heap_setCell_same (i := i) hg _, hnc, hcm, by simpa using hcs, ?_⟩⟩
      rw [Array.toList_setIfInBounds]
      rw [List.take_set, htk]
      simp [strCells, List.map_set]
    · simp only [secSet, if_neg hjk]
      exact ownsRow_keeps (h.all.row j hj) hk1 fun b hb2 e2 => h.all.apart j k hj hk hjk b hb2 (by rw [hgl, e2])
  · rw [e0]; exact hk1.heap h.all.map (Ne.symm hne2)

end Go.Proofs.YthhpmeaajgjdeaaDoor

/- Mb: (*Encoder).Flush over this program. -/
namespace Go.Proofs.YthhpmeaajgjdeaaDoor
open Go Go.RowKit

section
variable {w w1 w2 : World} {be bp : Nat} {R : Nat → Option Value} {v : Value} {bs bs2 : List UInt8} {pc : Array Value} {sf : Int}
theorem Enc.keeps {T : Nat → Prop} (h : Enc w be bp R v bs pc sf) (hk : Keeps T w w1) (hn : ∀ k, BfS be v k → ¬ T k) (hbp : ¬ T bp) : Enc w1 be bp R v bs pc sf :=
  ⟨h.buf.keeps hk hn, h.ptr, hk.heap h.pkg hbp, h.frames⟩
theorem Enc.alloc (h : Enc w be bp R v bs pc sf) (o : Obj) : Enc (w.alloc o) be bp R v bs pc sf := h.keeps (T := fun _ => False) ((Keeps.refl _ _).alloc _) (fun _ _ h => h) (fun h => h)
theorem EncPut.alloc (h : EncPut w be bp R v bs pc sf w1) (o : Obj) : EncPut w be bp R v bs pc sf (w1.alloc o) := by
  obtain ⟨v1, h1, h2, h3⟩ := h
  exact ⟨v1, h1.alloc o, h2, h3.alloc o⟩
theorem EncPut.after (hk : Keeps (fun _ => False) w w1) (h : EncPut w1 be bp R v bs pc sf w2) (hlt : be < w.heap.size ∧ ∀ j, v.ownBlock = some j → j < w.heap.size) : EncPut w be bp R v bs pc sf w2 := by
  obtain ⟨v1, h1, h2, h3⟩ := h
  exact ⟨v1, h1, Fresh.trans (Fresh.refl w v) h2 hk.size, (hk.mono fun _ _ h => h.elim).same h3⟩
theorem EncPut.lt (h : EncPut w be bp R v bs pc sf w1) : w.heap.size ≤ w1.heap.size := by
  obtain ⟨v1, h1, h2, h3⟩ := h
  exact h3.size
end

/-- A row of references, read. -/
def RelRow (w : World) (ao : Option Addr) (relocs : List (Int × Int)) (S : Nat → Prop) : Prop :=
  relocs = [] ∨ ∃ g, ao = some ⟨g, 0, none⟩ ∧ ¬ S g ∧ g < w.heap.size ∧ ∀ i p, relocs[i]? = some p → w.cell? ⟨g, 2 * i, none⟩ = some (.int .i32 p.1) ∧ w.cell? ⟨g, 2 * i + 1, none⟩ = some (.int .i32 p.2)

theorem RelRow.keeps {w w1 : World} {ao : Option Addr} {relocs : List (Int × Int)} {S T : Nat → Prop} (h : RelRow w ao relocs S) (hk : Keeps T w w1) (hT : ∀ k, k < w.heap.size → T k → S k) : RelRow w1 ao relocs S := by
  rcases h with h | ⟨g, h1, h2, h3, h4⟩
  · exact Or.inl h
  · exact Or.inr ⟨g, h1, h2, Nat.lt_of_lt_of_le h3 hk.size, fun i p hp => ⟨hk.cell (h4 i p hp).1 fun e => h2 (hT g h3 e), hk.cell (h4 i p hp).2 fun e => h2 (hT g h3 e)⟩⟩

set_option maxHeartbeats 8000000 in
set_option maxRecDepth 10000 in
theorem flush {w : World} {S : Nat → Prop} {be bp : Nat} {e : Es} {k idx : Nat} {ver : Int} {ms : Nat} {sf : Int} (h : StE w S be bp e false k idx ver ms sf) {N : Nat} (hN : e.Le N) (hN9 : N < 200000) (hk : k < 10) (hk0 : k ≠ 0)
    (hidx : idx < (e.secs k).length) (hidx2 : idx < 2147483648) (hnn : ∀ p ∈ e.relocs, 0 ≤ p.1 ∧ 0 ≤ p.2) :
    Calls Tryd.prog 15 #[.pointer (some ⟨be, 0, none⟩)] w fun r w' => r = .returned (.int .i32 idx) ∧ (∃ sl, PkgS w' S bp ver sl (secSet e.secs k idx ⟨(e.flush sf).toArray⟩) ms sf) ∧ Keeps S w w' := by
  obtain ⟨F, G, sl, hF, hP, hFG, hFS, hGS, hSlt⟩ := h
  obtain ⟨rsv, mapv, v, he, hr, hm, hnd, hok, hFb, hFv, hFr, hFm, hFlt⟩ := hF
  obtain ⟨ao, rcap, hrsv⟩ := slice_form hr
  have hbs := hN.bs
  have hrn := hN.relocs
  have hbp : ¬ BfS be v bp := bf_tag he.buf he.pkg (by decide) (by decide)
  have hRow : RelRow w ao e.relocs (BfS be v) := by
    rcases id hr.2 with ⟨e1, e2⟩ | ⟨g, cap, cur, e1, e2, hg, -⟩
    · exact Or.inl (List.eq_nil_of_length_eq_zero e2)
    · refine Or.inr ⟨g, ?_, bf_tag he.buf hg (by decide) (by decide), Lib.lt_of_heap hg, fun i p hp => ?_⟩
      · rw [e1] at hrsv; cases hrsv; rfl
      · have := relCells_get _ _ _ hp
        have h1 := hr.cells (g := g) (by rw [e1]; rfl) _ _ this.1
        have h2 := hr.cells (g := g) (by rw [e1]; rfl) _ _ this.2
        simp only [Lib.addr_add, Nat.zero_add] at h1 h2
        exact ⟨h1, h2⟩
  subst hrsv
  have hbelt : be < w.heap.size := hFlt be hFb
  -- the two locals
  have hkA : Keeps (fun _ => False) w ((w.alloc (.cells #[.pointer none, .slice none 0 0] 93)).alloc (.cells #[.slice none 0 0, .int .i64 0, .int .i8 0] 61)) := ((Keeps.refl _ _).alloc _).alloc _
  have hnS := heap_alloc_new w (.cells #[.pointer none, .slice none 0 0] 93)
  have hnT := heap_alloc_new (w.alloc (.cells #[.pointer none, .slice none 0 0] 93)) (.cells #[.slice none 0 0, .int .i64 0, .int .i8 0] 61)
  have hszA : (w.alloc (.cells #[.pointer none, .slice none 0 0] 93)).heap.size = w.heap.size + 1 := by simp
  rw [hszA] at hnT
  have hnS2 : ((w.alloc (.cells #[.pointer none, .slice none 0 0] 93)).alloc (.cells #[.slice none 0 0, .int .i64 0, .int .i8 0] 61)).heap[w.heap.size]? = some (.cells #[.pointer none, .slice none 0 0] 93 (0, 0)) := by
    rw [Below.heap_alloc _ _ _ (by rw [hszA]; omega)]; exact hnS
  have hsz2 : ((w.alloc (.cells #[.pointer none, .slice none 0 0] 93)).alloc (.cells #[.slice none 0 0, .int .i64 0, .int .i8 0] 61)).heap.size = w.heap.size + 2 := by simp
  have he2 : Enc ((w.alloc (.cells #[.pointer none, .slice none 0 0] 93)).alloc (.cells #[.slice none 0 0, .int .i64 0, .int .i8 0] 61)) be bp (encR bp (.slice ao e.relocs.length rcap) mapv false k idx) v e.bs (pkgCells ver sl ms sf) sf := (he.alloc _).alloc _
  have hT2 : Bf ((w.alloc (.cells #[.pointer none, .slice none 0 0] 93)).alloc (.cells #[.slice none 0 0, .int .i64 0, .int .i8 0] 61)) (w.heap.size + 1) 0 61 (fun _ => none) (.slice none 0 0) (Lib.byteCells []) := by
    refine bf_zero (lr := 0) ⟨_, hnT, rfl, rfl, rfl, fun i hi => ?_⟩
    rcases i with _ | _ | _ | i
    all_goals first | rfl | omega | simp
  have hD2 : Bd ((w.alloc (.cells #[.pointer none, .slice none 0 0] 93)).alloc (.cells #[.slice none 0 0, .int .i64 0, .int .i8 0] 61)) w.heap.size (.slice none 0 0) (Lib.byteCells []) := ⟨_, hnS2, Or.inl rfl, World.ownsRow_nil _ _ _ _, by simp [Value.ownBlock]⟩
  have hvlt : ∀ j, v.ownBlock = some j → j < w.heap.size := fun j hj => hFlt j (hFv j hj)
  have hnilS : ∀ t j, BfS t (.slice none 0 0) j → j = t := by
    rintro t j (hj | hj)
    · exact hj
    · simp [Value.ownBlock] at hj
  have hc1 := ioCopy_bf be 3 88 _ v e.bs (w.heap.size + 1) _ (.slice none 0 0) [] _ he2.buf hT2 (by
    rintro j hj hj2
    have := hnilS _ _ hj2
    subst this
    rcases hj with hj | hj
    · omega
    · have := hvlt _ hj; omega) (by simp only [List.length_nil]; omega)
  have hRn : (e.relocs.length : Int) ≤ 1000000 := by omega
  have hPC := pkgCells_sec ver sl ms sf k hk
  have HNN := Lib.hid hnn
  have HOK := Lib.hid hok
  clear hnn hok hnd hr hm hFr hFm hN
  go_enter Tryd.func15, Tryd.ntmps15
  go_wp2_with (go_at_call 34; refine hc1.mono ?_; rintro r w3 ⟨rfl, ⟨v3, hB3, hv3⟩, ⟨vt, hT3, hft⟩, hk3⟩; refine Hid.out ?_)
  refine Lib.hid ?_
  generalize hW2 : (w.alloc (.cells #[.pointer none, .slice none 0 0] 93)).alloc (.cells #[.slice none 0 0, .int .i64 0, .int .i8 0] 61) = W2 at *
  clear hW2 hc1 hnS hnT hnS2
  have hbe3 : ∀ j, BfS be v3 j ↔ BfS be v j := fun j => by unfold BfS; rw [hv3]
  have hk03 : Keeps (BfS be v) w w3 := (hkA.mono (S' := BfS be v) fun _ _ h => h.elim).trans (S' := fun j => BfS be v j ∨ BfS (w.heap.size + 1) (.slice none 0 0) j) hk3 (by
    rintro j (hj | hj)
    · exact Or.inl hj
    · right; rw [hnilS _ _ hj]; omega)
  have he3 : Enc w3 be bp (encR bp (.slice ao e.relocs.length rcap) mapv false k idx) v3 [] (pkgCells ver sl ms sf) sf := ⟨hB3, rfl, hk03.heap he.pkg hbp, he.frames⟩
  have he4 := he3.setHdr true
  obtain ⟨lr3, t3, -, -⟩ := id hB3
  have d6 : w3.cell? ⟨be, 6, none⟩ = some (.bool false) := t3.rest 6 (by omega)
  have f6 := t3.f 6
  go_wp2_with (go_at_call 22; refine (sync be bp 8 (by omega) _ v3 [] _ sf _ he4 (by simp)).mono ?_; rintro r w4 ⟨rfl, hp4⟩; refine Hid.out ?_)
  refine Lib.hid ?_
  have hk34 : Keeps (fun j => j = be) w3 (w3.setCell ⟨be, 6, none⟩ (.bool true)) := (Keeps.refl (fun j => j = be) w3).setCell (p := ⟨be, 6, none⟩) (by exact Or.inl rfl) _
  generalize hW3 : w3.setCell ⟨be, 6, none⟩ (.bool true) = W3 at *
  clear hW3 d6 f6 t3
  have hk0W : Keeps (BfS be v) w W3 := hk03.same (hk34.mono fun j _ e => Or.inl e)
  have hRow3 : RelRow W3 ao e.relocs (BfS be v) := hRow.keeps hk0W fun _ _ h => h
  have hRow3' : RelRow W3 ao e.relocs (BfS be v3) := by
    rcases hRow3 with h | ⟨g, h1, h2, h3, h4⟩
    · exact Or.inl h
    · exact Or.inr ⟨g, h1, fun e2 => h2 ((hbe3 g).1 e2), h3, h4⟩
  obtain ⟨v4, he5, hf4, hk4⟩ := id hp4
  obtain ⟨lr4, t4, -, -⟩ := id he5.buf
  have d1 : w4.cell? ⟨be, 1, none⟩ = some (.slice ao e.relocs.length rcap) := t4.rest 1 (by omega)
  clear t4
  have hl8 := sy_length sf 8 (by omega)
  go_wp2_with (go_at_call 25; refine (encLen be bp _ v4 _ _ sf _ he5 (by simp only [List.length_append, List.length_nil]; omega) e.relocs.length (by omega)).mono ?_; rintro r w5 ⟨rfl, hp5⟩; refine Hid.out ?_)
  refine Lib.hid ?_
  have hp5' : EncPut W3 be bp (encR bp (.slice ao e.relocs.length rcap) mapv true k idx) v3 (hdrTo sf e.relocs 0) (pkgCells ver sl ms sf) sf w5 := by
    have := EncPut.trans hf4 hk4 hp5
    simpa [hdrTo, List.append_assoc] using this
  obtain ⟨v5, he6, hf5, hk5⟩ := id hp5'
  obtain ⟨lr5, t5, -, -⟩ := id he6.buf
  have d1' : w5.cell? ⟨be, 1, none⟩ = some (.slice ao e.relocs.length rcap) := t5.rest 1 (by omega)
  clear t5 d1
  go_wp2
  go_loopw [35] (fun i wr => ∃ j : Nat, j ≤ e.relocs.length ∧ i = .int .i64 j ∧ EncPut W3 be bp (encR bp (.slice ao e.relocs.length rcap) mapv true k idx) v3 (hdrTo sf e.relocs j) (pkgCells ver sl ms sf) sf wr) (fun i _ => e.relocs.length - (intOf i).toNat)
  case atStart => exact ⟨0, Nat.zero_le _, rfl, hp5'⟩
  case round =>
    obtain ⟨j, hj, rfl, hp⟩ := hrel
    by_cases hlj : j < e.relocs.length
    · have hge := List.getElem?_eq_getElem hlj
      have hmem := List.getElem_mem hlj
      have hnn1 := HNN.out _ hmem
      have hok1 := HOK.out _ hmem
      have hsucc := hdrTo_succ (sf := sf) hge
      have hlen := hdrTo_length sf e.relocs HOK.out (by omega) j hj
      generalize hp0 : e.relocs[j] = p at *
      clear hp0
      obtain ⟨p1, p2⟩ := p
      obtain ⟨ha, hb⟩ := hnn1
      obtain ⟨o1, o2⟩ := hok1
      simp [Lit.wf, IntKind.min, IntKind.max, IntKind.signed, IntKind.bits] at o1 o2
      simp only at ha hb
      obtain ⟨a, rfl⟩ := Int.eq_ofNat_of_zero_le ha
      obtain ⟨b, rfl⟩ := Int.eq_ofNat_of_zero_le hb
      rcases hRow3' with h | ⟨g, rfl, h2, h3, h4⟩
      · rw [h] at hlj; simp at hlj
      obtain ⟨vr, her, hfr, hkr⟩ := id hp
      have hc := h4 _ _ hge
      have r0 : wr.cell? ⟨g, 2 * j, none⟩ = some (.int .i32 a) := hkr.cell hc.1 h2
      have r1 : wr.cell? ⟨g, 2 * j + 1, none⟩ = some (.int .i32 b) := hkr.cell hc.2 h2
      rw [Nat.mul_comm] at r0 r1
      have HG := Lib.hid hge
      have HSU := Lib.hid hsucc
      clear hge hsucc hc h4
      go_wp2_with (go_at_call 22; refine (sync be bp 9 (by omega) _ vr _ _ sf _ (her.alloc _) (by omega)).mono ?_; rintro r wa ⟨rfl, hpa⟩; refine Hid.out ?_)
      refine Lib.hid ?_
      obtain ⟨va, hea, hfa, hka⟩ := id hpa
      have x0 : (wr.alloc (.cells #[.int .i32 a, .int .i32 b] 97)).cell? ⟨wr.heap.size, 0, none⟩ = some (.int .i32 a) := by rw [Lib.cell_of_heap (heap_alloc_new wr _)]; rfl
      have x1 : (wr.alloc (.cells #[.int .i32 a, .int .i32 b] 97)).cell? ⟨wr.heap.size, 1, none⟩ = some (.int .i32 b) := by rw [Lib.cell_of_heap (heap_alloc_new wr _)]; rfl
      have hbr : ¬ BfS be vr wr.heap.size := by
        obtain ⟨lrr, tr, owr, -⟩ := her.buf
        rintro (e1 | e1)
        · have := tr.lt; omega
        · have := ownsRow_lt owr _ e1; omega
      have y0 : wa.cell? ⟨wr.heap.size, 0, none⟩ = some (.int .i32 a) := hka.cell x0 hbr
      have y1 : wa.cell? ⟨wr.heap.size, 1, none⟩ = some (.int .i32 b) := hka.cell x1 hbr
      clear x0 x1
      have hl9 := sy_length sf 9 (by omega)
      have hl4 := sy_length sf 4 (by omega)
      have hua := Lib.uvarint_length64 (x := a) (by omega)
      have hli1 : (hdrTo sf e.relocs j ++ sy sf 9).length + 100 ≤ 140737488355328 := by rw [List.length_append]; omega
      have hli2 : (hdrTo sf e.relocs j ++ sy sf 9 ++ (sy sf 4 ++ Lib.uvarint a)).length + 100 ≤ 140737488355328 := by simp only [List.length_append]; omega
      go_wp2_with (go_at_call 25; refine (encLen be bp _ va _ _ sf _ hea hli1 a (by omega)).mono ?_; rintro r wb ⟨rfl, hpb⟩; refine Hid.out ?_)
      refine Lib.hid ?_
      obtain ⟨vb, heb, hfb, hkb⟩ := id hpb
      have z1 : wb.cell? ⟨wr.heap.size, 1, none⟩ = some (.int .i32 b) := hkb.cell y1 fun e1 => hbr (by
        rcases e1 with e1 | e1
        · exact Or.inl e1
        · rcases hfa with e2 | ⟨n2, e2, hn2⟩
          · exact Or.inr (e2 ▸ e1)
          · rw [e2] at e1; have e1 : n2 = wr.heap.size := by injection e1
            simp at hn2; omega)
      go_wp2_with (go_at_call 25; refine (encLen be bp _ vb _ _ sf _ heb hli2 b (by omega)).mono ?_; rintro r wc ⟨rfl, hpc⟩; refine Hid.out ?_)
      refine Lib.hid ?_
      go_wp2
      go_roundw
      case rel =>
        refine ⟨j + 1, by omega, by go_num, ?_⟩
        rw [HSU.out]
        exact EncPut.trans hfr hkr (EncPut.after ((Keeps.refl _ _).alloc _) (EncPut.trans hfa hka (EncPut.trans hfb hkb hpc)) (by
          obtain ⟨lrr, tr, owr, -⟩ := her.buf
          exact ⟨tr.lt, ownsRow_lt owr⟩))
      case measure => simp [intOf]; omega
    · have hjn : j = e.relocs.length := by omega
      subst hjn
      obtain ⟨v6, he7, hf7, hk7⟩ := hp
      have hk0r : Keeps (BfS be v) w wr := hk0W.same (hk7.mono fun j _ h => (hbe3 j).1 h)
      have hlenH := hdrTo_length sf e.relocs HOK.out (by omega) _ (Nat.le_refl _)
      have hS2 : W2.heap.size ≤ W3.heap.size := Nat.le_trans hk3.size hk34.size
      have hS3 : W3.heap.size ≤ wr.heap.size := hk7.size
      have hS4 : w3.heap.size ≤ wr.heap.size := Nat.le_trans hk34.size hk7.size
      have hbv : ∀ j, BfS be v j → j < w.heap.size := by
        rintro j (h | h)
        · omega
        · exact hvlt j h
      have hvt : ∀ j, BfS (w.heap.size + 1) vt j → w.heap.size + 1 ≤ j ∧ j < w3.heap.size := by
        obtain ⟨lrT, tT, oT, -⟩ := hT3
        rintro j (h | h)
        · have := tT.lt; omega
        · refine ⟨?_, ownsRow_lt oT j h⟩
          rcases hft with e1 | ⟨n2, e1, hn2⟩
          · rw [e1] at h; simp [Value.ownBlock] at h
          · rw [e1] at h; injection h with h; omega
      have hD7 : Bd wr w.heap.size (.slice none 0 0) (Lib.byteCells []) := by
        refine ((hD2.keeps hk3 fun j hj h => ?_).keeps hk34 fun j hj h => ?_).keeps hk7 fun j hj h => ?_
        · rw [hnilS _ _ hj] at h
          rcases h with h | h
          · have := hbv _ h; omega
          · have := hnilS _ _ h; omega
        · rw [hnilS _ _ hj] at h; omega
        · rw [hnilS _ _ hj] at h
          have := hbv _ ((hbe3 _).1 h); omega
      have hT7 : Bf wr (w.heap.size + 1) 0 61 (fun _ => none) vt (Lib.byteCells ([] ++ e.bs)) := by
        refine (hT3.keeps hk34 fun j hj h => ?_).keeps hk7 fun j hj h => ?_
        · have := hvt j hj; omega
        · have := hvt j hj; have := hbv _ ((hbe3 _).1 h); omega
      rw [List.nil_append] at hT7
      have hv6 : ∀ j, BfS be v6 j → BfS be v j ∨ W3.heap.size ≤ j := by
        rintro j (h | h)
        · exact Or.inl (Or.inl h)
        · rcases hf7 with e1 | ⟨n2, e1, hn2⟩
          · exact Or.inl ((hbe3 j).1 (Or.inr (by rw [← e1]; exact h)))
          · rw [e1] at h; injection h with h; exact Or.inr (by omega)
      have hc2 := ioCopy_bd be 3 88 _ v6 (hdrTo sf e.relocs e.relocs.length) w.heap.size (.slice none 0 0) [] wr he7.buf hD7 (by
        intro j hj h
        rw [hnilS _ _ h] at hj
        rcases hv6 _ hj with h | h
        · have := hbv _ h; omega
        · omega) (by simp only [List.length_nil]; omega)
      go_wp2_with (go_at_call 34; refine hc2.mono ?_; rintro r w7 ⟨rfl, ⟨v7, hB7, hv7⟩, ⟨vs, hD8, hfs⟩, hk8⟩; refine Hid.out ?_)
      refine Lib.hid ?_
      clear hc2
      have hT8 : Bf w7 (w.heap.size + 1) 0 61 (fun _ => none) vt (Lib.byteCells e.bs) := by
        refine hT7.keeps hk8 fun j hj h => ?_
        have h1 := hvt j hj
        rcases h with h | h
        · rcases hv6 _ h with h | h
          · have := hbv _ h; omega
          · have := hk34.size; omega
        · have := hnilS _ _ h; omega
      have hvs : ∀ j, BfS w.heap.size vs j → j = w.heap.size ∨ wr.heap.size ≤ j := by
        rintro j (h | h)
        · exact Or.inl h
        · rcases hfs with e1 | ⟨n2, e1, hn2⟩
          · rw [e1] at h; simp [Value.ownBlock] at h
          · rw [e1] at h; injection h with h; exact Or.inr (by omega)
      rw [List.nil_append] at hD8
      have hc3 := ioCopy_bd (w.heap.size + 1) 0 61 _ vt e.bs w.heap.size vs (hdrTo sf e.relocs e.relocs.length) w7 hT8 hD8 (by
        intro j hj h
        have h1 := hvt j hj
        rcases hvs j h with h | h <;> omega) (by omega)
      go_wp2_with (go_at_call 34; refine hc3.mono ?_; rintro r w8 ⟨rfl, -, ⟨vu, hD9, hfu⟩, hk9⟩; refine Hid.out ?_)
      refine Lib.hid ?_
      clear hc3
      have hk07 : Keeps (BfS be v) w w7 := hk0r.trans hk8 fun j h => by
        rcases h with h | h
        · rcases hv6 _ h with h | h
          · exact Or.inl h
          · have := hk03.size; have := hk34.size; omega
        · have := hnilS _ _ h; omega
      have hT9 : ∀ j, (BfS (w.heap.size + 1) vt j ∨ BfS w.heap.size vs j) → w.heap.size ≤ j := by
        have := hk0r.size
        rintro j (h | h)
        · have := hvt j h; omega
        · rcases hvs j h with h | h <;> omega
      have hk08 : Keeps (BfS be v) w w8 := hk07.trans hk9 fun j h => Or.inr (hT9 j h)
      have hvu : ∀ j, BfS w.heap.size vu j → w.heap.size ≤ j := by
        have := hk07.size
        rintro j (h | h)
        · omega
        · rcases hfu with e1 | ⟨n2, e1, hn2⟩
          · exact hT9 j (Or.inr (Or.inr (by rw [← e1]; exact h)))
          · rw [e1] at h; injection h with h; omega
      have hFB : ∀ j, BfS be v j → F j := by
        rintro j (h | h)
        · rw [h]; exact hFb
        · exact hFv j h
      have hP8 : PkgS w8 G bp ver sl e.secs ms sf := hP.keeps hk08 fun j hG h => hFG j (hFB j h) hG
      have hGlt := hP.all.lt
      obtain ⟨g, cap, hslk, hGg, -, -, -⟩ := hP8.setStr hk hk0 hidx ⟨(e.flush sf).toArray⟩
      have hgb : g ≠ be := fun e1 => hFG be hFb (e1 ▸ hGg)
      have hgp : g ≠ bp := fun e1 => by
        obtain ⟨cur, hg⟩ := ownsRow_block (hP8.all.row k hk) (g := g) (by rw [hslk]; rfl)
        rw [e1, hP8.all.blk] at hg; cases hg
      have hgp' := Ne.symm hgp
      have hgb' := Ne.symm hgb
      have hcapn : (e.secs k).length ≤ cap ∧ cap ≤ 9223372036854775807 := by
        obtain ⟨ao', cap', e1, e2, e3⟩ := hP8.all.slice k hk
        rw [hslk] at e1; cases e1; exact ⟨e2, e3⟩
      have fin : ∀ w9, Keeps (BfS w.heap.size vu) w8 w9 → w9.cell? ⟨be, 0, none⟩ = some (.pointer (some ⟨bp, 0, none⟩)) ∧ w9.cell? ⟨be, 7, none⟩ = some (.int .i32 k) ∧ w9.cell? ⟨be, 8, none⟩ = some (.int .i32 idx) ∧
          w9.cell? ⟨bp, 1 + k, none⟩ = some (.slice (some ⟨g, 0, none⟩) (e.secs k).length cap) ∧ w9.frozen? ⟨g, idx, none⟩ = false ∧ (∃ old, w9.cell? ⟨g, idx, none⟩ = some old) ∧
          PkgS (w9.setCell ⟨g, idx, none⟩ (.string ⟨(e.flush sf).toArray⟩)) S bp ver sl (secSet e.secs k idx ⟨(e.flush sf).toArray⟩) ms sf ∧ Keeps S w (w9.setCell ⟨g, idx, none⟩ (.string ⟨(e.flush sf).toArray⟩)) := by
        intro w9 hk10
        obtain ⟨lr7, t7, -, -⟩ := hB7
        have hkk := hk9.size
        have kb : ¬ (BfS (w.heap.size + 1) vt be ∨ BfS w.heap.size vs be) := fun h => by have := hT9 be h; omega
        have kb2 : ¬ BfS w.heap.size vu be := fun h => by have := hvu be h; omega
        have hP9 : PkgS w9 G bp ver sl e.secs ms sf := hP8.keeps hk10 fun j hG h => by have := hvu j h; have := hGlt j hG; omega
        obtain ⟨g', cap', hslk', hGg', hfz, hold, hfin⟩ := hP9.setStr hk hk0 hidx ⟨(e.flush sf).toArray⟩
        rw [hslk] at hslk'; cases hslk'
        have c9 := hP9.all.cell k hk
        rw [hslk] at c9
        have hkF : Keeps S w (w9.setCell ⟨g, idx, none⟩ (.string ⟨(e.flush sf).toArray⟩)) := ((hk08.mono (S' := S) fun j _ h => hFS j (hFB j h)).trans hk10 fun j h => Or.inr (hvu j h)).setCell (by exact Or.inl (hGS g hGg)) _
        refine ⟨hk10.cell (hk9.cell ((t7.rest 0 (by omega)).trans rfl) kb) kb2, hk10.cell (hk9.cell ((t7.rest 7 (by omega)).trans rfl) kb) kb2, hk10.cell (hk9.cell ((t7.rest 8 (by omega)).trans rfl) kb) kb2, c9, hfz, hold, ?_, hkF⟩
        exact hfin.mono hGS fun j hj => Nat.lt_of_lt_of_le (hSlt j hj) hkF.size
      obtain ⟨q0, q7, q8, qp, -, -, -, -⟩ := fin w8 (Keeps.refl _ _)
      have hcS := bdString_some w.heap.size vu (hdrTo sf e.relocs e.relocs.length ++ e.bs) w8.drew hD9 (by
        have := hdr_ne sf e.relocs
        unfold hdrBytes at this
        simp [this])
      have FIN := Lib.hid fin
      clear fin hP8 hP hk08 hk07 hk9 hk8 hk0r hk7 hk34 hk3 hk03 hk0W hRow hRow3 hRow3' hD2 hD7 hD8 hD9 hT2 hT3 hT7 hT8 hB7 hp4 hp5 hp5' he he2 he3 he4 he5 he6 he7 hB3 hPC hslk
      clear hvt hvs hvu hbv hv6 hT9 hFB hkA hbe3 hGlt hnilS hvlt HNN HOK
      have hkz : (k : Int) < 10 := by omega
      have hkz0 : (0 : Int) ≤ (k : Int) := by omega
      have hidxI : (idx : Int) < ((e.secs k).length : Int) := by omega
      have hidx0 : (0 : Int) ≤ (idx : Int) := by omega
      go_wp2
      go_region_held3 (fun W => W.cell? ⟨be, 0, none⟩ = some (.pointer (some ⟨bp, 0, none⟩)) ∧ W.cell? ⟨be, 7, none⟩ = some (.int .i32 k) ∧ W.cell? ⟨be, 8, none⟩ = some (.int .i32 idx) ∧ W.cell? ⟨bp, 1 + k, none⟩ = some (.slice (some ⟨g, 0, none⟩) (e.secs k).length cap))
       (first
        | exact ⟨q0, q7, q8, qp⟩
        | exact ⟨p0, p7, p8, pp⟩
        | go_keep)
       (first
        | (go_at_call 35
           refine hcS.mono ?_
           rintro r w9 ⟨rfl, hk10⟩
           obtain ⟨p0, p7, p8, pp, pf, ⟨old, po⟩, pP, pK⟩ := FIN.out w9 ((Keeps.refl _ w8).drew.same hk10)
           have PP := Lib.hid (And.intro pP pK)
           clear pP pK hcS hk10))
      go_wp2
      go_ret
      exact ⟨rfl, ⟨sl, PP.out.1⟩, PP.out.2⟩
end Go.Proofs.YthhpmeaajgjdeaaDoor
