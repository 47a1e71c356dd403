/- The encoder's raw relocation, its contract. -/
import Derived.Test.YthhpmeaajgjdeaaDoorX05

set_option linter.unusedVariables false
set_option linter.unusedSimpArgs false

/- Hc: (*Encoder).rawReloc, the first reference of an encoder; and the three cases as one contract. -/
namespace Go.Proofs.YthhpmeaajgjdeaaDoor
open Go Go.RowKit
open Go.ChangeMaps (setBlock)

set_option maxRecDepth 10000 in
set_option maxHeartbeats 1600000 in
/-- There is no map yet. -/
theorem rawReloc_first (be bp : Nat) (p : Int × Int) (rsv : Value) (hdr : Bool) (k idx : Int) (v : Value) (bs : List Value) (w : World) (h : Bf w be 3 88 (encR bp rsv (.map none) hdr k idx) v bs)
    (hrow : w.ownsRow 0 97 2 rsv 0 []) (hp : ok32 p) :
    Calls Tryd.prog 47 #[.pointer (some ⟨be, 0, none⟩), .int .i32 p.1, .int .i32 p.2] w fun e w' => e = .returned (.int .i64 0) ∧ ∃ m, w.heap.size ≤ m ∧ m < w'.heap.size ∧ RelNew w be bp m p [] rsv hdr k idx v bs w' := by
  obtain ⟨i0, hi, hz0, hz1, hz2⟩ := info_parts info97
  obtain ⟨lr, h3, -, -⟩ := id h
  have hbl := h3.lt
  have c2 : w.cell? ⟨be, 2, none⟩ = some (.map none) := h3.rest 2 (by omega)
  have f2 : w.frozen? ⟨be, 2, none⟩ = false := h3.f 2
  obtain ⟨ao, cap, hrsv, hcap, hcap2⟩ : ∃ ao cap, rsv = .slice ao 0 cap ∧ 0 ≤ cap ∧ cap ≤ 9223372036854775807 := by
    rcases hrow.2 with ⟨rfl, h0⟩ | ⟨g, cap, cur, rfl, -, -, h1, h2, -⟩
    · exact ⟨none, 0, rfl, by omega, by omega⟩
    · exact ⟨_, cap, rfl, h1, by simpa [maxLen] using h2⟩
  subst hrsv
  have c1 : w.cell? ⟨be, 1, none⟩ = some (.slice ao 0 cap) := h3.rest 1 (by omega)
  have hnm : ∀ W, (binOp .neq 86 (.map none) (.map none)).run Tryd.prog W = .ok (.bool false) W := fun W => run_neq_map_nil W 86 97 40 none Tryd.underlying86
  have hmm := @run_makeMap Tryd.prog
  obtain ⟨m, hm0⟩ : ∃ m, m = w.heap.size + 1 := ⟨_, rfl⟩
  obtain ⟨W0, hW0⟩ : ∃ W0, W0 = ((w.setCell ⟨be, 2, none⟩ (.map (some (w.heap.size + 1)))).alloc (.cells #[.int .i32 p.1, .int .i32 p.2] 97)).alloc (.map #[] 0) := ⟨_, rfl⟩
  have hsz : (w.setCell ⟨be, 2, none⟩ (.map (some (w.heap.size + 1)))).heap.size = w.heap.size := by simp [World.setCell]
  have hm : W0.heap[m]? = some (.map (relEntries []) ([] : List (Int × Int)).length) := by
    have := (MapKept.heap_alloc ((w.setCell ⟨be, 2, none⟩ (.map (some (w.heap.size + 1)))).alloc (.cells #[.int .i32 p.1, .int .i32 p.2] 97)) (.map #[] 0)).1
    rw [World.size_alloc, hsz] at this
    rw [hW0, hm0]; exact this
  have hN : W0.heap[w.heap.size]? = some (.cells #[.int .i32 p.1, .int .i32 p.2] 97 (0, 0)) := by
    have h2 := heap_alloc_new (w.setCell ⟨be, 2, none⟩ (.map (some (w.heap.size + 1)))) (.cells #[.int .i32 p.1, .int .i32 p.2] 97)
    rw [hsz] at h2
    rw [hW0, Below.heap_alloc _ _ _ (by rw [World.size_alloc, hsz]; omega)]; exact h2
  have hbm : m ≠ be := by omega
  have hk0 : Keeps (fun j => j = be) w W0 := by rw [hW0]; exact (((Keeps.refl _ _).setCell (by exact Or.inl rfl) _).alloc _).alloc _
  have hB0 : Bf W0 be 3 88 (encR bp (.slice ao 0 cap) (.map (some m)) hdr k idx) v bs := by
    have h2 := h.setOther 2 (by omega) (old := .map none) rfl (.map (some m))
    rw [encR_set2] at h2
    refine h2.keeps (S := fun _ => False) ?_ (fun _ _ h => h)
    rw [hW0, hm0]; exact ((Keeps.refl _ _).alloc _).alloc _
  have hr0 : W0.ownsRow 0 97 2 (.slice ao 0 cap) 0 [] := ownsRow_keeps hrow hk0 fun j hj e => by
    obtain ⟨cur, hg⟩ := ownsRow_block hrow hj
    rw [e] at hg; exact absurd (h3.tag hg) (by decide)
  obtain ⟨W, hW⟩ : ∃ W, W = setBlock W0.drew m (.map (relEntries ([] ++ [p])) (([] : List (Int × Int)).length + 1)) := ⟨_, rfl⟩
  have hup : (Instr.mapUpdate 86 (.map (some m)) (.agg #[.int .i32 p.1, .int .i32 p.2]) (.int .u32 0)).run Tryd.prog W0.drew = .ok () W := by
    rw [hW]; exact rel_update (w := W0.drew) (l := []) hm (by simp) hp (by simp)
  have hk : Keeps (fun j => j = m) W0 W := by
    rw [hW]; exact ((Keeps.refl _ _).drew).setBlock (by exact Or.inl rfl) _
  have hmW : W.heap[m]? = some (.map (relEntries ([] ++ [p])) (([] : List (Int × Int)).length + 1)) := by
    rw [hW]; exact ChangeMaps.heap_setBlock_same (w := W0.drew) hm _
  have hNW : W.heap[w.heap.size]? = some (.cells #[.int .i32 p.1, .int .i32 p.2] 97 (0, 0)) := hk.heap hN (by omega)
  have hB : Bf W be 3 88 (encR bp (.slice ao 0 cap) (.map (some m)) hdr k idx) v bs := hB0.keeps hk fun j hj e => bf_map hB0 hm (by rw [← e]; exact hj)
  have hrW : W.ownsRow 0 97 2 (.slice ao 0 cap) 0 [] := ownsRow_keeps hr0 hk fun j hj e => by
    obtain ⟨cur, hg⟩ := ownsRow_block hr0 hj
    rw [e, hm] at hg; cases hg
  clear h3 hW
  obtain ⟨lr2, h3W, -, -⟩ := id hB
  obtain ⟨lr0, h30, -, -⟩ := id hB0
  have hbW := h3W.lt
  have d1 : W.cell? ⟨be, 1, none⟩ = some (.slice ao 0 cap) := h3W.rest 1 (by omega)
  have e2 : W0.cell? ⟨be, 2, none⟩ = some (.map (some m)) := h30.rest 2 (by omega)
  have o0 : W0.cell? ⟨w.heap.size, 0, none⟩ = some (.int .i32 p.1) := by rw [Lib.cell_of_heap hN]; rfl
  have o1 : W0.cell? ⟨w.heap.size, 1, none⟩ = some (.int .i32 p.2) := by rw [Lib.cell_of_heap hN]; rfl
  have n0 : W.cell? ⟨w.heap.size, 0, none⟩ = some (.int .i32 p.1) := by rw [Lib.cell_of_heap hNW]; rfl
  have n1 : W.cell? ⟨w.heap.size, 1, none⟩ = some (.int .i32 p.2) := by rw [Lib.cell_of_heap hNW]; rfl
  have hNl := Lib.lt_of_heap hNW
  have hWl : W.heap.size ≠ be := by omega
  have hkW : Keeps (fun j => j = be ∨ j = m ∨ (Value.slice ao 0 cap).ownBlock = some j) w W :=
    (hk0.mono (S' := fun j => j = be ∨ j = m ∨ (Value.slice ao 0 cap).ownBlock = some j) fun j _ e => Or.inl e).trans hk fun j hj => Or.inl (Or.inr (Or.inl hj))
  have fin : ∀ v' w', w'.ownsRow 0 97 2 v' 1 [.int .i32 p.1, .int .i32 p.2] → (W.drew.alloc (.cells #[.int .i32 p.1, .int .i32 p.2] 97)).grownBy w' (Value.slice ao 0 cap).ownBlock → Fresh (W.drew.alloc (.cells #[.int .i32 p.1, .int .i32 p.2] 97)) (.slice ao 0 cap) v' →
      w'.cell? ⟨be, 1, none⟩ = some (.slice ao 0 cap) ∧ w'.frozen? ⟨be, 1, none⟩ = false ∧ w.heap.size + 1 < w'.heap.size ∧ RelNew w be bp m p [] (.slice ao 0 cap) hdr k idx v bs (w'.setCell ⟨be, 1, none⟩ v') := by
    intro v' w' ho hg hf
    have hk2 : Keeps (fun j => (Value.slice ao 0 cap).ownBlock = some j) W w' := (((Keeps.refl _ _).drew).alloc _).grown hg (fun j hj => Or.inl hj)
    have hB2 : Bf w' be 3 88 (encR bp (.slice ao 0 cap) (.map (some m)) hdr k idx) v bs := hB.keeps hk2 fun j hj e => by
      obtain ⟨cur, hgg⟩ := ownsRow_block hrW e
      exact bf_tag hB hgg (by decide) (by decide) hj
    obtain ⟨lr4, h34, -, -⟩ := id hB2
    have hkf := hkW.trans hk2 fun j hj => Or.inl (Or.inr (Or.inr hj))
    have hob : ∀ j, v'.ownBlock = some j → j ≠ be := by
      intro j hj e
      obtain ⟨cur, hgg⟩ := ownsRow_block ho hj
      rw [e] at hgg
      exact absurd (h34.tag hgg) (by decide)
    have hml : m < W.heap.size := Lib.lt_of_heap hmW
    refine ⟨h34.rest 1 (by omega), h34.f 1, by have := hk2.size; omega, v', ?_, ?_, ?_, ?_, hkf.setCell (by exact Or.inl (Or.inl rfl)) _⟩
    · have := hB2.setOther 1 (by omega) (old := .slice ao 0 cap) rfl v'
      rw [encR_set1] at this
      exact this
    · exact ownsRow_keeps (S := fun j => j = be) ho ((Keeps.refl _ _).setCell (by exact Or.inl rfl) _) hob
    · rcases hf with hf | ⟨j, hf, hj⟩
      · exact Or.inl hf
      · refine Or.inr ⟨j, hf, ?_⟩
        have : W.heap.size ≤ j := by simp at hj; omega
        omega
    · rw [Below.heap_setCell _ _ _ _ hbm]
      refine hk2.heap hmW fun e => ?_
      obtain ⟨cur, hgg⟩ := ownsRow_block hrW e
      rw [hmW] at hgg; cases hgg
  have hrA : (W.drew.alloc (.cells #[.int .i32 p.1, .int .i32 p.2] 97)).ownsRow 0 97 2 (.slice ao 0 cap) 0 [] := (show W.drew.ownsRow 0 97 2 (.slice ao 0 cap) 0 [] from hrW).alloc _
  have HC : Hid (∀ j u, [Value.int .i32 p.1, Value.int .i32 p.2][j]? = some u → (W.alloc (.cells #[.int .i32 p.1, .int .i32 p.2] 97)).drew.cell? ((⟨W.heap.size, 0, none⟩ : Addr).add j) = some u) := news_cells W [Value.int .i32 p.1, Value.int .i32 p.2] 97
  have HA := Lib.hid hrA
  have HF := Lib.hid fin
  have HM := Lib.hid hm0
  clear hrA fin hB hrW h3W hmW hN hNW hk hrow h hm hk0 hkW hB0 h30 hr0
  go_enter Tryd.func47, Tryd.ntmps47
  go_wp2
  rw [← hm0] at hW0 ⊢
  rw [← hW0]
  clear hW0 hm0
  go_region
  go_wp2
  go_region_law (
    refine step_append_fresh rfl (.tmp 51) (.tmp 53) 85 rfl 97 i0 (.agg #[.int .i32 0, .int .i32 0]) 2 8 Tryd.underlying85 hi hz0 hz1 hz2 rfl (by decide) (.slice ao 0 cap) 0 [] (by simp [Act.eval, Act.put]) HA.out ⟨W.heap.size, 0, none⟩ 1 1 [.int .i32 p.1, .int .i32 p.2] (by simp [Act.eval, Act.put]) rfl ?_ ?_ ?_ ?_ ?_
    · exact HC.out
    · simp [Value.oneCell']
    · unfold maxLen; omega
    · omega
    intro v' w' hown hgrow hfresh
    obtain ⟨d1', e1', hsz', hnew⟩ := HF.out v' w' hown hgrow hfresh
    obtain ⟨ao', cap', hv'⟩ := slice_form hown
    subst hv'
    have HN := Lib.hid hnew
    have HS := Lib.hid hsz'
    clear hnew hown hgrow hfresh hsz')
  all_goals (
    go_wp2
    go_ret
    have h1 := HS.out
    have h2 := HM.out
    refine ⟨rfl, m, by omega, ?_, HN.out⟩
    have h3 : ∀ (W : World) (a : Addr) (x : Value), (W.setCell a x).heap.size = W.heap.size := fun W a x => by simp [World.setCell]
    rw [h3]
    omega)

/-- The references behind one more. -/
def relPut (l : List (Int × Int)) (p : Int × Int) : List (Int × Int) := if p ∈ l then l else l ++ [p]

theorem relCells_snoc (l : List (Int × Int)) (p : Int × Int) : relCells (l ++ [p]) = relCells l ++ [.int .i32 p.1, .int .i32 p.2] := by simp [relCells]

theorem relNew_put {w w' : World} {F : Nat → Prop} {be bp m : Nat} {p : Int × Int} {l : List (Int × Int)} {rsv mapv v : Value} {bs : List UInt8} {hdr : Bool} {k idx : Int} {pc : Array Value} {sf : Int}
    (he : Enc w be bp (encR bp rsv mapv hdr k idx) v bs pc sf) (hr : w.ownsRow 0 97 2 rsv l.length (relCells l)) (hnd : l.Nodup) (hok : ∀ p ∈ l, ok32 p) (hp : ok32 p) (hno : p ∉ l)
    (hFb : F be) (hFv : ∀ j, v.ownBlock = some j → F j) (hFr : ∀ j, rsv.ownBlock = some j → F j) (hlt : ∀ j, F j → j < w.heap.size)
    (hm : F m ∨ (w.heap.size ≤ m ∧ m < w'.heap.size)) (hmc : ∀ c e fz, w.heap[m]? ≠ some (.cells c e fz)) (hnew : RelNew w be bp m p l rsv hdr k idx v (Lib.byteCells bs) w') : EncFPut w F be bp (l ++ [p]) bs hdr k idx pc sf w' := by
  obtain ⟨rsv', hB, ho, hf, hmw, hk⟩ := hnew
  obtain ⟨lr, h3, -, -⟩ := id he.buf
  refine ⟨⟨rsv', .map (some m), v, ⟨hB, rfl, hk.heap he.pkg ?_, he.frames⟩, ?_, Or.inr ⟨m, rfl, by simpa using hmw⟩, ?_, ?_, Or.inl hFb, fun j hj => Or.inl (hFv j hj), grow_fresh hFr hf (ownsRow_lt ho), fun m' e => ?_, grow_lt hlt hk.size⟩, ?_⟩
  · rintro (e | e | e)
    · exact three_tag h3 he.pkg (by decide) e
    · exact hmc _ _ _ (by rw [← e]; exact he.pkg)
    · exact row_tag hr he.pkg (by decide) e
  · rw [relCells_snoc]; simpa using ho
  · exact List.nodup_append.2 ⟨hnd, by simp, fun a ha b hb e => hno (by rw [List.mem_singleton.1 hb] at e; rw [← e]; exact ha)⟩
  · intro q hq
    rcases List.mem_append.1 hq with hq | hq
    · exact hok q hq
    · rw [List.mem_singleton.1 hq]; exact hp
  · cases e; exact hm
  · refine ⟨hk.os, hk.tape, hk.output, hk.size, fun j hj hn => hk.block j hj ?_⟩
    rintro (e | e | e)
    · exact hn (e ▸ hFb)
    · rcases hm with hm | hm
      · exact hn (e ▸ hm)
      · omega
    · exact hn (hFr j e)

/-- rawReloc: the reference's place; it is put behind the others if it was not there. -/
theorem rawReloc {w : World} {F : Nat → Prop} {be bp : Nat} {l : List (Int × Int)} {bs : List UInt8} {hdr : Bool} {k idx : Int} {pc : Array Value} {sf : Int} (h : EncF w F be bp l bs hdr k idx pc sf) (p : Int × Int) (hp : ok32 p) (hlen : l.length < 1000000) :
    Calls Tryd.prog 47 #[.pointer (some ⟨be, 0, none⟩), .int .i32 p.1, .int .i32 p.2] w fun e w' => e = .returned (.int .i64 (l.idxOf p)) ∧ EncFPut w F be bp (relPut l p) bs hdr k idx pc sf w' := by
  obtain ⟨rsv, mapv, v, he, hr, hm, hnd, hok, hFb, hFv, hFr, hFm, hlt⟩ := id h
  rcases hm with ⟨rfl, rfl⟩ | ⟨m, rfl, hm⟩
  · refine (rawReloc_first be bp p rsv hdr k idx v _ w he.buf (by simpa [relCells] using hr) hp).mono ?_
    rintro e w' ⟨rfl, m, h1, h2, hn⟩
    refine ⟨by simp, ?_⟩
    have := relNew_put he hr hnd hok hp (by simp) hFb hFv hFr hlt (Or.inr ⟨h1, h2⟩) (fun c e fz hc => by have := Lib.lt_of_heap hc; omega) hn
    simpa [relPut] using this
  · by_cases hmem : p ∈ l
    · refine (rawReloc_found be bp m p l _ v _ w he.buf rfl hm hok hnd hp hmem (by omega)).mono ?_
      rintro e w' ⟨rfl, hk⟩
      refine ⟨rfl, ?_⟩
      unfold relPut
      rw [if_pos hmem]
      refine ⟨⟨rsv, .map (some m), v, ⟨he.buf.keeps hk (fun _ _ h => h), he.ptr, hk.heap he.pkg (fun h => h), he.frames⟩, ownsRow_keeps hr hk (fun _ _ h => h), Or.inr ⟨m, rfl, hk.heap hm (fun h => h)⟩, hnd, hok, Or.inl hFb, fun j hj => Or.inl (hFv j hj), fun j hj => Or.inl (hFr j hj), fun j hj => Or.inl (hFm j hj), grow_lt hlt hk.size⟩, hk.mono fun _ _ h => h.elim⟩
    · refine (rawReloc_new be bp m p l rsv hdr k idx v _ w he.buf hr hm hok hnd hp hmem hlen).mono ?_
      rintro e w' ⟨rfl, hn⟩
      refine ⟨by rw [List.idxOf_eq_length hmem], ?_⟩
      unfold relPut
      rw [if_neg hmem]
      exact relNew_put he hr hnd hok hp hmem hFb hFv hFr hlt (Or.inl (hFm m rfl)) (fun c e fz hc => by rw [hm] at hc; cases hc) hn

end Go.Proofs.YthhpmeaajgjdeaaDoor
