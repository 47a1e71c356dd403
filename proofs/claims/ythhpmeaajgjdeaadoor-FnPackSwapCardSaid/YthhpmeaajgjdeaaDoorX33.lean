/- Pack as a plain function; the copy of the elements. -/
import Derived.Test.YthhpmeaajgjdeaaDoorX32
import Derived.Test.YthhpmeaajgjdeaaDoorX29
import Derived.Test.YthhpmeaajgjdeaaDoorX31

set_option linter.unusedVariables false
set_option linter.unusedSimpArgs false

/- Td: impl.Pack: its answer as a plain function. -/
namespace Go.Proofs.YthhpmeaajgjdeaaDoor
open Go Go.RowKit

/-- What Pack writes. -/
def packCs (ver : Int) (fr : Bool) (els : List El) : List (List UInt8) := dumpCs ver (sfOf fr) (packAll (sfOf fr) els)
def packData (K : Nat → Int) (ver : Int) (fr : Bool) (els : List El) : List UInt8 := (packCs ver fr els).flatten ++ fpOf K (packCs ver fr els)
def packFp (K : Nat → Int) (ver : Int) (fr : Bool) (els : List El) (i : Nat) : Int := byteAt (fpOf K (packCs ver fr els)) i

theorem list8 (l : List UInt8) (h : l.length = 8) : (Lib.byteCells l).toArray = #[.int .u8 (byteAt l 0), .int .u8 (byteAt l 1), .int .u8 (byteAt l 2), .int .u8 (byteAt l 3), .int .u8 (byteAt l 4), .int .u8 (byteAt l 5), .int .u8 (byteAt l 6), .int .u8 (byteAt l 7)] := by
  match l, h with
  | [a, b, c, d, e, f, g, i], _ => rfl

theorem packC {w : World} {ver : Int} (hv0 : 0 ≤ ver) (hv5 : ver ≤ 5) {fr : Bool} {v : Value} {els : List El} (hels : ElsAt w w.heap.size v els) (hok : ∀ x ∈ els, x.Ok) (hs : ∀ x ∈ els, x.Short) (h60 : els.length ≤ 60) {K : Nat → Int} (hK : Gl w K) (h7 : 7 < w.heap.size) :
    Calls Tryd.prog 7 #[.int .i64 ver, .bool fr, v] w fun e w' => (∃ iao ni ic tao nt tc, e = .returned (.agg #[.string ⟨(packData K ver fr els).toArray⟩, .slice iao ni ic, .slice tao nt tc, .int .u8 (packFp K ver fr els 0), .int .u8 (packFp K ver fr els 1), .int .u8 (packFp K ver fr els 2), .int .u8 (packFp K ver fr els 3), .int .u8 (packFp K ver fr els 4), .int .u8 (packFp K ver fr els 5), .int .u8 (packFp K ver fr els 6), .int .u8 (packFp K ver fr els 7)])) ∧ Keeps (fun _ => False) w w' := by
  obtain ⟨h1, h2⟩ := packAll_fits (sf := sfOf fr) hok hs h60
  refine pack hv0 hv5 hels hok h60 hK h7 (packData K ver fr els) _ _ _ _ _ _ _ _ ?_
  intro W G sl bp ms bb R hP hG hGn hB hbG hb7
  refine (dumpTo hP hG hGn hB hbG hb7 hv0 hv5 h1 h2).mono fun e w' h => ⟨?_, h.2.1, h.2.2⟩
  rw [h.1, list8 _ (fpOf_length _ _)]
  rfl

theorem packData_pos (K : Nat → Int) (ver : Int) (fr : Bool) (els : List El) : 0 < (packData K ver fr els).length := by
  rw [packData, List.length_append, fpOf_length]
  omega

/-- The same sections, the same answer. -/
theorem packCs_swap (ver : Int) (fr : Bool) {els els' : List El} (h : packAll (sfOf fr) els = packAll (sfOf fr) els') : packCs ver fr els = packCs ver fr els' := by
  rw [packCs, packCs, h]

end Go.Proofs.YthhpmeaajgjdeaaDoor

/- Te: A copy of the elements in a row of its own, two of which are stored anew. -/
namespace Go.Proofs.YthhpmeaajgjdeaaDoor
open Go Go.RowKit

/-- Elements in row g, their bits below B. -/
structure ElsG (w : World) (B g n : Nat) (els : List ElI) : Prop where
  len : els.length = n
  row : ∃ cs, w.heap[g]? = some (.cells cs 27 (0, 0))
  at_ : ∀ (j : Nat) (x : ElI), els[j]? = some x →
    w.cell? ⟨g, j * 3, none⟩ = some (.int .i64 x.sec) ∧ w.cell? ⟨g, j * 3 + 1, none⟩ = some (.int .i64 x.marker) ∧ ∃ bv, w.cell? ⟨g, j * 3 + 2, none⟩ = some bv ∧ BitsAt w B bv x.bits

theorem cell_set_ne {w : World} {g i j : Nat} {v u : Value} {cs : Array Value} (hb : w.heap[g]? = some (.cells cs 27 (0, 0))) (h : w.cell? ⟨g, j, none⟩ = some u) (hne : ¬ i = j) : (w.setCell ⟨g, i, none⟩ v).cell? ⟨g, j, none⟩ = some u := by
  rw [Lib.cell_of_heap (Lib.heap_setCell_same (i := i) hb v)]
  rw [Lib.cell_of_heap hb] at h
  rw [Array.getElem?_setIfInBounds, if_neg hne]
  exact h
theorem cell_set_eq {w : World} {g i : Nat} {v u : Value} {cs : Array Value} (hb : w.heap[g]? = some (.cells cs 27 (0, 0))) (h : w.cell? ⟨g, i, none⟩ = some u) : (w.setCell ⟨g, i, none⟩ v).cell? ⟨g, i, none⟩ = some v := by
  rw [Lib.cell_of_heap (Lib.heap_setCell_same (i := i) hb v)]
  rw [Lib.cell_of_heap hb] at h
  have hlt : i < cs.size := (Array.getElem?_eq_some_iff.1 h).1
  rw [Array.getElem?_setIfInBounds, if_pos rfl, if_pos hlt]

theorem ElsG.keeps {w w1 : World} {B g n : Nat} {els : List ElI} (h : ElsG w B g n els) {T : Nat → Prop} (hk : Keeps T w w1) (hg : ¬ T g) (hT : ∀ k, T k → B ≤ k) : ElsG w1 B g n els := by
  obtain ⟨cs, hr⟩ := h.row
  refine ⟨h.len, ⟨cs, hk.heap hr hg⟩, fun j x hj => ?_⟩
  obtain ⟨a0, a1, bv, a2, a3⟩ := h.at_ j x hj
  exact ⟨hk.cell a0 hg, hk.cell a1 hg, bv, hk.cell a2 hg, a3.keeps (hk.mono fun k _ h => hT k h)⟩

/-- An element stored anew. -/
theorem ElsG.store {w : World} {B g n i : Nat} {els : List ElI} (h : ElsG w B g n els) (hB : B ≤ g) (hi : i < n) (y : ElI) (bv : Value) (hy : BitsAt w B bv y.bits) :
    ElsG (((w.setCell ⟨g, i * 3, none⟩ (.int .i64 y.sec)).setCell ⟨g, i * 3 + 1, none⟩ (.int .i64 y.marker)).setCell ⟨g, i * 3 + 2, none⟩ bv) B g n (els.set i y) := by
  obtain ⟨hl, ⟨cs, hr⟩, ha⟩ := h
  have r1 := Lib.heap_setCell_same (i := i * 3) hr (.int .i64 y.sec)
  have r2 := Lib.heap_setCell_same (i := i * 3 + 1) r1 (.int .i64 y.marker)
  have r3 := Lib.heap_setCell_same (i := i * 3 + 2) r2 bv
  have hk : Keeps (fun k => k = g) w (((w.setCell ⟨g, i * 3, none⟩ (.int .i64 y.sec)).setCell ⟨g, i * 3 + 1, none⟩ (.int .i64 y.marker)).setCell ⟨g, i * 3 + 2, none⟩ bv) :=
    (((Keeps.refl (fun k => k = g) w).setCell (p := ⟨g, i * 3, none⟩) (by exact Or.inl rfl) _).setCell (p := ⟨g, i * 3 + 1, none⟩) (by exact Or.inl rfl) _).setCell (p := ⟨g, i * 3 + 2, none⟩) (by exact Or.inl rfl) _
  have hkB : Keeps (fun k => B ≤ k) w (((w.setCell ⟨g, i * 3, none⟩ (.int .i64 y.sec)).setCell ⟨g, i * 3 + 1, none⟩ (.int .i64 y.marker)).setCell ⟨g, i * 3 + 2, none⟩ bv) := hk.mono fun k _ e => by omega
  refine ⟨by rw [List.length_set, hl], ⟨_, r3⟩, fun j x hj => ?_⟩
  by_cases hij : i = j
  · subst hij
    have hlt : i < els.length := by omega
    rw [List.getElem?_set_self hlt] at hj
    cases hj
    obtain ⟨a0, a1, bv', a2, -⟩ := ha i _ (List.getElem?_eq_getElem hlt)
    refine ⟨?_, ?_, bv, ?_, hy.keeps hkB⟩
    · exact cell_set_ne r2 (cell_set_ne r1 (cell_set_eq hr a0) (by omega)) (by omega)
    · exact cell_set_ne r2 (cell_set_eq r1 (cell_set_ne hr a1 (by omega))) (by omega)
    · exact cell_set_eq r2 (cell_set_ne r1 (cell_set_ne hr a2 (by omega)) (by omega))
  · rw [List.getElem?_set_ne hij] at hj
    obtain ⟨a0, a1, bv', a2, a3⟩ := ha j x hj
    refine ⟨?_, ?_, bv', ?_, a3.keeps hkB⟩
    · exact cell_set_ne r2 (cell_set_ne r1 (cell_set_ne hr a0 (by omega)) (by omega)) (by omega)
    · exact cell_set_ne r2 (cell_set_ne r1 (cell_set_ne hr a1 (by omega)) (by omega)) (by omega)
    · exact cell_set_ne r2 (cell_set_ne r1 (cell_set_ne hr a2 (by omega)) (by omega)) (by omega)

theorem ElsG.els {w : World} {B g n c : Nat} {els : List ElI} (h : ElsG w B g n els) {B' : Nat} (hB : B ≤ B') (hg : g < B') : ElsI w B' (.slice (some ⟨g, 0, none⟩) n c) els := by
  refine Or.inr ⟨g, 0, c, by rw [h.len], hg, fun j x hj => ?_⟩
  obtain ⟨a0, a1, bv, a2, a3⟩ := h.at_ j x hj
  rw [Nat.zero_add]
  exact ⟨a0, a1, bv, a2, a3.mono hB⟩

theorem info27 : (Tryd.prog.info? 27).map (fun i => (i.zero, i.size, i.bytes)) = some (some (.agg #[.int .i64 0, .int .i64 0, .slice none 0 0]), 3, 40) := by kernel_rfl

/-- The elements appended to an empty slice: a copy in a row of its own. -/
theorem copyEls (w : World) (B b o n c g0 : Nat) (els : List ElI) (h : ElsI w B (.slice (some ⟨b, o, none⟩) n c) els) (hn : els.length = n) (hn60 : n ≤ 60) (hn0 : n ≠ 0) (h0 : w.heap[g0]? = some (.cells #[] 27 (0, 0))) (hB : B ≤ g0) :
    ∃ g c' w', (Builtin.append_ #[22, 22] 22 #[.slice (some ⟨g0, 0, none⟩) 0 0, .slice (some ⟨b, o, none⟩) n c]).run Tryd.prog w = .ok (.slice (some ⟨g, 0, none⟩) n c') w' ∧ ElsG w' B g n els ∧ g0 ≤ g ∧ n ≤ c' ∧ Keeps (fun k => k = g0) w w' := by
  obtain ⟨i0, hi, hz0, hz1, hz2⟩ := info_parts info27
  have hown : w.ownsRow 0 27 3 (.slice (some ⟨g0, 0, none⟩) 0 0) 0 [] := ⟨rfl, Or.inr ⟨g0, 0, #[], rfl, Nat.zero_le _, h0, Nat.le_refl _, by simp [maxLen], rfl, rfl⟩⟩
  have hcell : ∀ j, j < n * 3 → ∃ u, w.cell? ⟨b, o + j, none⟩ = some u ∧ u.oneCell' = true := by
    intro j hj
    have hq : j / 3 < els.length := by omega
    obtain ⟨b', o', e, -, a0, a1, bv, a2, a3⟩ := h.get (List.getElem?_eq_getElem hq)
    cases e
    obtain ⟨ao, bc, rfl⟩ := a3.form
    have h3 : j % 3 = 0 ∨ j % 3 = 1 ∨ j % 3 = 2 := by omega
    rcases h3 with h3 | h3 | h3
    · have e : o + j = o + j / 3 * 3 := by omega
      rw [e]; exact ⟨_, a0, rfl⟩
    · have e : o + j = o + j / 3 * 3 + 1 := by omega
      rw [e]; exact ⟨_, a1, rfl⟩
    · have e : o + j = o + j / 3 * 3 + 2 := by omega
      rw [e]; exact ⟨_, a2, rfl⟩
  obtain ⟨news, hnews⟩ : ∃ news, news = (List.range (n * 3)).map fun j => (w.cell? ⟨b, o + j, none⟩).getD undef := ⟨_, rfl⟩
  have hnl : news.length = n * 3 := by rw [hnews]; simp
  have hnat : ∀ j, j < n * 3 → news[j]? = w.cell? ⟨b, o + j, none⟩ := by
    intro j hj
    obtain ⟨u, hu, -⟩ := hcell j hj
    rw [hnews, List.getElem?_map, List.getElem?_range hj, Option.map_some, hu]
    rfl
  obtain ⟨v', w', h1, h2, h3, h4⟩ := run_append_fresh (P := Tryd.prog) w 22 22 27 i0 (.agg #[.int .i64 0, .int .i64 0, .slice none 0 0]) 3 40 Tryd.underlying22 hi hz0 hz1 hz2 rfl (by decide) _ 0 [] hown ⟨b, o, none⟩ n c news hnl (fun j u hj => by
    have hlt : j < n * 3 := by rw [← hnl]; exact (List.getElem?_eq_some_iff.1 hj).1
    rw [Lib.addr_add, ← hnat j hlt]
    exact hj) (fun u hu => by
    obtain ⟨j, hj⟩ := List.mem_iff_getElem?.1 hu
    have hlt : j < n * 3 := by rw [← hnl]; exact (List.getElem?_eq_some_iff.1 hj).1
    obtain ⟨u', hu', h1⟩ := hcell j hlt
    rw [hnat j hlt, hu'] at hj
    cases hj
    exact h1) (by unfold maxLen; omega) (by omega)
  rw [Nat.zero_add, List.nil_append] at h2
  have hk : Keeps (fun k => k = g0) w w' := by
    refine (Keeps.refl (fun k => k = g0) w).grown h3 fun k hk => Or.inl ?_
    simp only [Value.ownBlock, Option.some.injEq] at hk
    exact hk.symm
  · rcases h2.2 with ⟨-, hz⟩ | ⟨g, cap, cur, rfl, -, hg, hnc, hcm, hcs, htk⟩
    · exact absurd hz hn0
    · have hBg : g0 ≤ g := by
        rcases h4 with e | ⟨k, e, hk⟩
        · simp only [Value.ownBlock, Option.some.injEq] at e; omega
        · simp only [Value.ownBlock, Option.some.injEq] at e
          have := Lib.lt_of_heap h0
          omega
      have hc' : ∀ j, j < n * 3 → w'.cell? ⟨g, j, none⟩ = w.cell? ⟨b, o + j, none⟩ := by
        intro j hj
        rw [← hnat j hj, Lib.cell_of_heap hg, ← htk, List.getElem?_take, if_pos hj]
        simp
      have hkB : Keeps (fun k => B ≤ k) w w' := hk.mono fun k _ e => by omega
      refine ⟨g, cap, w', h1, ⟨hn, ⟨cur, hg⟩, fun j x hj => ?_⟩, hBg, hnc, hk⟩
      have hlt : j < els.length := (List.getElem?_eq_some_iff.1 hj).1
      obtain ⟨b', o', e, -, a0, a1, bv, a2, a3⟩ := h.get hj
      cases e
      refine ⟨by rw [hc' _ (by omega)]; exact a0, ?_, bv, ?_, a3.keeps hkB⟩
      · rw [hc' _ (by omega), show o + (j * 3 + 1) = o + j * 3 + 1 by omega]; exact a1
      · rw [hc' _ (by omega), show o + (j * 3 + 2) = o + j * 3 + 2 by omega]; exact a2

end Go.Proofs.YthhpmeaajgjdeaaDoor
