/- The walk of Pack. -/
import Derived.Test.YthhpmeaajgjdeaaDoorX13
import Derived.Deep.CutRange

set_option linter.unusedVariables false
set_option linter.unusedSimpArgs false

/- Nd: impl.Pack: the walk, with DumpTo by whatever it is shown to do. -/
namespace Go.Proofs.YthhpmeaajgjdeaaDoor
open Go Go.RowKit

theorem ElsAt.form {w : World} {B : Nat} {v : Value} {els : List El} (h : ElsAt w B v els) : ∃ ao c, v = .slice ao els.length c := by
  rcases h with ⟨ao, rfl, rfl⟩ | ⟨b, o, c, rfl, -⟩
  · exact ⟨ao, 0, rfl⟩
  · exact ⟨_, c, rfl⟩
theorem BitsAt.form {w : World} {B : Nat} {v : Value} {bits : List Bt} (h : BitsAt w B v bits) : ∃ ao c, v = .slice ao bits.length c := by
  rcases h with ⟨ao, rfl, rfl⟩ | ⟨b, o, c, rfl, -⟩
  · exact ⟨ao, 0, rfl⟩
  · exact ⟨_, c, rfl⟩
theorem ElsAt.get {w : World} {B : Nat} {ao : Option Addr} {n c : Nat} {els : List El} (h : ElsAt w B (.slice ao n c) els) {j : Nat} {x : El} (hx : els[j]? = some x) :
    ∃ b o, ao = some ⟨b, o, none⟩ ∧ b < B ∧ w.cell? ⟨b, o + j * 3, none⟩ = some (.int .i64 x.sec) ∧ w.cell? ⟨b, o + j * 3 + 1, none⟩ = some (.int .i64 x.marker) ∧ ∃ bv, w.cell? ⟨b, o + j * 3 + 2, none⟩ = some bv ∧ BitsAt w B bv x.bits := by
  rcases h with ⟨_, -, h⟩ | ⟨b, o, c', e, h1, h2⟩
  · subst h; simp at hx
  · cases e
    exact ⟨b, o, rfl, h1, h2 j x hx⟩
theorem BitsAt.get {w : World} {B : Nat} {ao : Option Addr} {n c : Nat} {bits : List Bt} (h : BitsAt w B (.slice ao n c) bits) {j : Nat} {x : Bt} (hx : bits[j]? = some x) :
    ∃ b o, ao = some ⟨b, o, none⟩ ∧ b < B ∧ w.cell? ⟨b, o + j * 5, none⟩ = some (.int .i64 x.kind) ∧ w.cell? ⟨b, o + j * 5 + 1, none⟩ = some (.int .i64 x.num) ∧ w.cell? ⟨b, o + j * 5 + 2, none⟩ = some (.int .i64 x.sec) ∧
    w.cell? ⟨b, o + j * 5 + 3, none⟩ = some (.string x.text) ∧ ∃ tv, w.cell? ⟨b, o + j * 5 + 4, none⟩ = some tv ∧ StrsAt w (fun k => B ≤ k) tv x.texts := by
  rcases h with ⟨_, -, h⟩ | ⟨b, o, c', e, h1, h2⟩
  · subst h; simp at hx
  · cases e
    exact ⟨b, o, rfl, h1, h2 j x hx⟩

theorem StrsAt.form {w : World} {S : Nat → Prop} {v : Value} {ss : List ByteArray} (h : StrsAt w S v ss) : ∃ ao c, v = .slice ao ss.length c := by
  rcases h with ⟨ao, rfl, rfl⟩ | ⟨b, o, c, rfl, -⟩
  · exact ⟨ao, 0, rfl⟩
  · exact ⟨_, c, rfl⟩

def packTo (sf : Int) (els : List El) (i : Nat) : Nat → List ByteArray := (els.take i).foldl (packEl sf) fun _ => []
theorem packTo_succ {sf : Int} {els : List El} {i : Nat} {x : El} (h : els[i]? = some x) : packTo sf els (i + 1) = packEl sf (packTo sf els i) x := by
  obtain ⟨hk, rfl⟩ := List.getElem?_eq_some_iff.1 h
  simp only [packTo]
  rw [List.take_succ_eq_append_getElem hk, List.foldl_append]
  rfl
theorem packTo_all (sf : Int) (els : List El) : packTo sf els els.length = packAll sf els := by simp [packTo, packAll]
theorem packTo_ok {sf : Int} {els : List El} (hok : ∀ x ∈ els, x.Ok) (h60 : els.length ≤ 60) : ∀ i, i ≤ els.length → PkUpTo i (packTo sf els i)
  | 0, _ => ⟨by simp [packTo], fun k _ => by simp [packTo]⟩
  | i + 1, hi => by
    have hge := List.getElem?_eq_getElem (by omega : i < els.length)
    rw [packTo_succ hge]
    exact packEl_ok (hok _ (List.getElem_mem (by omega))) (by omega) (packTo_ok hok h60 i (by omega))

/-- A new package encoder in its block. -/
theorem pkg_new {w : World} {bp ms : Nat} {ver sf : Int} (hb : w.heap[bp]? = some (.cells (pkgCells ver (fun _ => .slice none 0 0) ms sf) 45 (0, 0))) (hm : w.heap[ms]? = some (.map #[] 0)) :
    PkgS w (fun j => j = bp ∨ j = ms) bp ver (fun _ => .slice none 0 0) (fun _ => []) ms sf := by
  refine ⟨⟨hb, fun i _ => World.ownsRow_nil _ _ _ _, fun i j _ _ _ k hk => by simp [Value.ownBlock] at hk, hm, Or.inl rfl, Or.inr rfl, fun i _ k hk => by simp [Value.ownBlock] at hk, ?_⟩, List.nodup_nil, by simp⟩
  rintro j (rfl | rfl)
  · exact Lib.lt_of_heap hb
  · exact Lib.lt_of_heap hm

theorem info4 : (Tryd.prog.info? 4).map (fun i => (i.zero, i.size, i.bytes)) = some (some (.bool false), 1, 1) := by kernel_rfl
theorem info2 : (Tryd.prog.info? 2).map (fun i => (i.zero, i.size, i.bytes)) = some (some (.int .i64 0), 1, 8) := by kernel_rfl

theorem set11 (W : World) (g : Nat) (v0 v1 v2 v3 v4 v5 v6 v7 v8 v9 v10 y0 y1 y2 y3 y4 y5 y6 y7 y8 y9 y10 : Value) (h : W.heap[g]? = some (.cells #[v0, v1, v2, v3, v4, v5, v6, v7, v8, v9, v10] 34 (0, 0))) :
    (((((((((((W.setCell ⟨g, 0, none⟩ y0).setCell ⟨g, 1, none⟩ y1).setCell ⟨g, 2, none⟩ y2).setCell ⟨g, 3, none⟩ y3).setCell ⟨g, 4, none⟩ y4).setCell ⟨g, 5, none⟩ y5).setCell ⟨g, 6, none⟩ y6).setCell ⟨g, 7, none⟩ y7).setCell ⟨g, 8, none⟩ y8).setCell ⟨g, 9, none⟩ y9).setCell ⟨g, 10, none⟩ y10).heap[g]? = some (.cells #[y0, y1, y2, y3, y4, y5, y6, y7, y8, y9, y10] 34 (0, 0)) := by
  have g1 := Lib.heap_setCell_same (i := 0) h y0
  simp at g1
  have g2 := Lib.heap_setCell_same (i := 1) g1 y1
  simp at g2
  have g3 := Lib.heap_setCell_same (i := 2) g2 y2
  simp at g3
  have g4 := Lib.heap_setCell_same (i := 3) g3 y3
  simp at g4
  have g5 := Lib.heap_setCell_same (i := 4) g4 y4
  simp at g5
  have g6 := Lib.heap_setCell_same (i := 5) g5 y5
  simp at g6
  have g7 := Lib.heap_setCell_same (i := 6) g6 y6
  simp at g7
  have g8 := Lib.heap_setCell_same (i := 7) g7 y7
  simp at g8
  have g9 := Lib.heap_setCell_same (i := 8) g8 y8
  simp at g9
  have g10 := Lib.heap_setCell_same (i := 9) g9 y9
  simp at g10
  have g11 := Lib.heap_setCell_same (i := 10) g10 y10
  simp at g11
  exact g11
theorem set11_keeps {a W : World} {S : Nat → Prop} (h : Keeps S a W) (g : Nat) (hg : S g ∨ a.heap.size ≤ g) (y0 y1 y2 y3 y4 y5 y6 y7 y8 y9 y10 : Value) : Keeps S a (((((((((((W.setCell ⟨g, 0, none⟩ y0).setCell ⟨g, 1, none⟩ y1).setCell ⟨g, 2, none⟩ y2).setCell ⟨g, 3, none⟩ y3).setCell ⟨g, 4, none⟩ y4).setCell ⟨g, 5, none⟩ y5).setCell ⟨g, 6, none⟩ y6).setCell ⟨g, 7, none⟩ y7).setCell ⟨g, 8, none⟩ y8).setCell ⟨g, 9, none⟩ y9).setCell ⟨g, 10, none⟩ y10) :=
  (((((((((((h.setCell (p := ⟨g, 0, none⟩) hg y0).setCell (p := ⟨g, 1, none⟩) hg y1).setCell (p := ⟨g, 2, none⟩) hg y2).setCell (p := ⟨g, 3, none⟩) hg y3).setCell (p := ⟨g, 4, none⟩) hg y4).setCell (p := ⟨g, 5, none⟩) hg y5).setCell (p := ⟨g, 6, none⟩) hg y6).setCell (p := ⟨g, 7, none⟩) hg y7).setCell (p := ⟨g, 8, none⟩) hg y8).setCell (p := ⟨g, 9, none⟩) hg y9).setCell (p := ⟨g, 10, none⟩) hg y10)
theorem set8_keeps {a W : World} {S : Nat → Prop} (h : Keeps S a W) (g : Nat) (hg : S g ∨ a.heap.size ≤ g) (y0 y1 y2 y3 y4 y5 y6 y7 : Value) : Keeps S a ((((((((W.setCell ⟨g, 3, none⟩ y0).setCell ⟨g, 4, none⟩ y1).setCell ⟨g, 5, none⟩ y2).setCell ⟨g, 6, none⟩ y3).setCell ⟨g, 7, none⟩ y4).setCell ⟨g, 8, none⟩ y5).setCell ⟨g, 9, none⟩ y6).setCell ⟨g, 10, none⟩ y7) :=
  ((((((((h.setCell (p := ⟨g, 3, none⟩) hg y0).setCell (p := ⟨g, 4, none⟩) hg y1).setCell (p := ⟨g, 5, none⟩) hg y2).setCell (p := ⟨g, 6, none⟩) hg y3).setCell (p := ⟨g, 7, none⟩) hg y4).setCell (p := ⟨g, 8, none⟩) hg y5).setCell (p := ⟨g, 9, none⟩) hg y6).setCell (p := ⟨g, 10, none⟩) hg y7)

/-- The tables of this program that are read: sha256's constants, and where the first field came and went. -/
def Gl (w : World) (K : Nat → Int) : Prop := Kat w K ∧ w.cell? ⟨0, 0, none⟩ = some (.int .u32 1) ∧ w.cell? ⟨1, 0, none⟩ = some (.int .u32 0)
theorem Gl.keeps {w w1 : World} {T : Nat → Prop} {K : Nat → Int} (h : Gl w K) (hk : Keeps T w w1) (hT : ∀ g, g ≤ 7 → ¬ T g) : Gl w1 K :=
  ⟨h.1.keeps hk (hT 7 (by omega)), hk.cell h.2.1 (hT 0 (by omega)), hk.cell h.2.2 (hT 1 (by omega))⟩

set_option maxHeartbeats 8000000 in
set_option maxRecDepth 10000 in
theorem pack {w : World} {ver : Int} (hv0 : 0 ≤ ver) (hv5 : ver ≤ 5) {fr : Bool} {v : Value} {els : List El} (hels : ElsAt w w.heap.size v els) (hok : ∀ x ∈ els, x.Ok) (h60 : els.length ≤ 60) {K : Nat → Int} (hK : Gl w K) (h7 : 7 < w.heap.size)
    (data : List UInt8) (a0 a1 a2 a3 a4 a5 a6 a7 : Int)
    (hdump : ∀ (W : World) (G : Nat → Prop) (sl : Nat → Value) (bp ms bb : Nat) (R : Nat → Option Value), PkgS W G bp ver sl (packAll (sfOf fr) els) ms (sfOf fr) → Gl W K → (∀ g, g ≤ 7 → ¬ G g) → Bf W bb 0 61 R (.slice none 0 0) [] → ¬ G bb → 7 < bb →
      Calls Tryd.prog 16 #[.pointer (some ⟨bp, 0, none⟩), .iface 56 (.pointer (some ⟨bb, 0, none⟩))] W fun e w' => e = .returned (.agg #[.int .u8 a0, .int .u8 a1, .int .u8 a2, .int .u8 a3, .int .u8 a4, .int .u8 a5, .int .u8 a6, .int .u8 a7]) ∧ (∃ v', Bf w' bb 0 61 R v' (Lib.byteCells data)) ∧ Keeps (fun j => j = bb) W w') :
    Calls Tryd.prog 7 #[.int .i64 ver, .bool fr, v] w fun e w' => (∃ iao ni ic tao nt tc, e = .returned (.agg #[.string ⟨data.toArray⟩, .slice iao ni ic, .slice tao nt tc, .int .u8 a0, .int .u8 a1, .int .u8 a2, .int .u8 a3, .int .u8 a4, .int .u8 a5, .int .u8 a6, .int .u8 a7])) ∧ Keeps (fun _ => False) w w' := by
  obtain ⟨ao, cap, rfl⟩ := hels.form
  have hwr : IntKind.u32.wrap ver = ver := by
    have : ver = 0 ∨ ver = 1 ∨ ver = 2 ∨ ver = 3 ∨ ver = 4 ∨ ver = 5 := by omega
    rcases this with rfl | rfl | rfl | rfl | rfl | rfl <;> rfl
  have hnp := newPkg ver (sfOf fr) (w.alloc (.cells (tiCells (.slice none 0 0) (.slice none 0 0)) 34))
  unfold pkgCells tiCells at hnp
  have hnS := heap_alloc_new w (.cells (tiCells (.slice none 0 0) (.slice none 0 0)) 34)
  have hszS : (w.alloc (.cells (tiCells (.slice none 0 0) (.slice none 0 0)) 34)).heap.size = w.heap.size + 1 := by simp
  unfold tiCells at hnS hszS
  have hkS : Keeps (fun _ => False) w (w.alloc (.cells #[.string ⟨#[]⟩, .slice none 0 0, .slice none 0 0, .int .u8 0, .int .u8 0, .int .u8 0, .int .u8 0, .int .u8 0, .int .u8 0, .int .u8 0, .int .u8 0] 34)) := (Keeps.refl _ _).alloc _
  go_enter Tryd.func7, Tryd.ntmps7
  go_wp2_with (first
    | (go_at_call 11; refine (framesC fr _).mono ?_; rintro e w1 ⟨rfl, rfl⟩)
    | (go_at_call 10; refine hnp.mono ?_; rintro e w2 ⟨ms, rfl, hm2, hms, hk2⟩; refine Hid.out ?_))
  refine Lib.hid ?_
  clear hnp
  generalize hP0 : w.alloc (.cells #[.string ⟨#[]⟩, .slice none 0 0, .slice none 0 0, .int .u8 0, .int .u8 0, .int .u8 0, .int .u8 0, .int .u8 0, .int .u8 0, .int .u8 0, .int .u8 0] 34) = P0 at *
  clear hP0
  go_wp2
  obtain ⟨W3, hW3⟩ : ∃ W3, W3 = (w2.alloc (.cells (pkgCells ver (fun _ => .slice none 0 0) ms (sfOf fr)) 45)).alloc (.cells (tiCells (.slice none 0 0) (.slice none 0 0)) 34) := ⟨_, rfl⟩
  have hbpn : W3.heap[w2.heap.size]? = some (.cells (pkgCells ver (fun _ => .slice none 0 0) ms (sfOf fr)) 45 (0, 0)) := by rw [hW3]; exact heap_alloc2_old w2 _ _
  have hpkn : W3.heap[w2.heap.size + 1]? = some (.cells (tiCells (.slice none 0 0) (.slice none 0 0)) 34 (0, 0)) := by rw [hW3]; exact heap_alloc2_new w2 _ _
  have hk23 : Keeps (fun _ => False) w2 W3 := by rw [hW3]; exact ((Keeps.refl _ _).alloc _).alloc _
  unfold pkgCells tiCells at hW3
  rw [← hW3]
  clear hW3
  have hP := pkg_new hbpn (hk23.heap hm2 (fun h => h))
  have hmlt := Lib.lt_of_heap hm2
  have hsP := hk2.size
  have hkP3 : Keeps (fun j => P0.heap.size ≤ j) P0 W3 := (hk2.same hk23).mono fun _ _ h => h.elim
  have hT : TI W3 (fun j => j = w2.heap.size ∨ j = ms) P0.heap.size (w2.heap.size + 1) (.slice none 0 0) (.slice none 0 0) 0 0 :=
    ⟨hpkn, ⟨[], World.ownsRow_nil _ _ _ _⟩, ⟨[], World.ownsRow_nil _ _ _ _⟩, by omega, by rintro (h | h) <;> omega, by simp [Value.ownBlock], by simp [Value.ownBlock]⟩
  have hels0 : ElsAt P0 P0.heap.size (.slice ao els.length cap) els := (hels.mono (B' := P0.heap.size) (by omega)).keeps (hkS.mono fun _ _ h => h.elim)
  have hn0 : (els.length : Int) ≤ 60 := by omega
  have hGB : ∀ j, (j = w2.heap.size ∨ j = ms) → P0.heap.size ≤ j := by rintro j (h | h) <;> omega
  have HN := Lib.hid (And.intro hP (And.intro hT (And.intro hkP3 hGB)))
  generalize hbp : w2.heap.size = bp at *
  have HN2 := Lib.hid hbp
  clear hP hT hkP3 hGB hbpn hpkn hm2 hbp
  go_loopw [23] (fun i wr => ∃ (j : Nat) (G : Nat → Prop) (sl : Nat → Value) (iv tv : Value) (nt : Nat), j ≤ els.length ∧ i = .int .i64 j ∧ PkgS wr G bp ver sl (packTo (sfOf fr) els j) ms (sfOf fr) ∧ TI wr G P0.heap.size (bp + 1) iv tv j nt ∧ nt ≤ 60 * j ∧
      (∀ b, G b → P0.heap.size ≤ b) ∧ Keeps (fun b => P0.heap.size ≤ b) P0 wr) (fun i _ => els.length - (intOf i).toNat)
  case atStart => exact ⟨0, _, _, _, _, 0, Nat.zero_le _, rfl, by simpa [packTo] using HN.out.1, HN.out.2.1, Nat.le_refl _, HN.out.2.2.2, HN.out.2.2.1⟩
  case round =>
    generalize hwo : wr = wo at *
    clear hwo
    obtain ⟨i, G, sl, iv, tv, nt, hi, rfl, hP, hT, hnt, hGB, hkP⟩ := hrel
    by_cases hli : i < els.length
    · have hge := List.getElem?_eq_getElem hli
      have hx := hok _ (List.getElem_mem hli)
      have hpk := packTo_ok (sf := sfOf fr) hok h60 i (by omega)
      have hsucc := packTo_succ (sf := sfOf fr) hge
      generalize hx0 : els[i] = x at *
      clear hx0
      obtain ⟨b0, o0, rfl, hb0, c0, c1, bv, c2, hbits⟩ := (hels0.keeps hkP).get hge
      obtain ⟨bao, bcap, rfl⟩ := hbits.form
      obtain ⟨s1, s10, m1, m60, hbl, hbok⟩ := hx
      have s1i : (0 : Int) ≤ (x.sec : Int) := by omega
      have s10i : (x.sec : Int) < 10 := by omega
      have hkA : Keeps (fun _ => False) wo (wo.alloc (.cells #[.int .i64 x.sec, .int .i64 x.marker, .slice bao x.bits.length bcap] 27)) := (Keeps.refl _ _).alloc _
      have hnA := heap_alloc_new wo (.cells #[.int .i64 x.sec, .int .i64 x.marker, .slice bao x.bits.length bcap] 27)
      have hc12 := newEncoder (hP.keeps hkA fun _ _ h => h) x.sec s1 s10 (by have := hpk.other x.sec (by omega); omega) x.marker (by omega)
      have HGE := Lib.hid hge
      have HSU := Lib.hid hsucc
      have hTA := hT.keep hkA
      have hkPA : Keeps (fun b => P0.heap.size ≤ b) P0 (wo.alloc (.cells #[.int .i64 x.sec, .int .i64 x.marker, .slice bao x.bits.length bcap] 27)) := hkP.same (hkA.mono fun _ _ h => h.elim)
      have hGlt := hP.all.lt
      clear hge hsucc
      go_wp2_with (go_at_call 12; refine hc12.mono ?_; rintro r w4 ⟨be, rfl, hNE⟩; refine Hid.out ?_)
      refine Lib.hid ?_
      clear hc12
      have hsA : (wo.alloc (.cells #[.int .i64 x.sec, .int .i64 x.marker, .slice bao x.bits.length bcap] 27)).heap.size = wo.heap.size + 1 := by simp
      generalize hWA : wo.alloc (.cells #[.int .i64 x.sec, .int .i64 x.marker, .slice bao x.bits.length bcap] 27) = WA at *
      clear hWA
      obtain ⟨q1, q2, q3⟩ := hNE
      have hT4 := hTA.put q3
      have hE4 : StE w4 (Grow G WA w4) be bp (Es.upTo (sfOf fr) (packTo (sfOf fr) els i) x 0) false x.sec (packTo (sfOf fr) els i x.sec).length ver ms (sfOf fr) := q2
      have hk4 : Keeps (fun b => P0.heap.size ≤ b) P0 w4 := hkPA.same (q3.mono fun j _ h => hGB j h)
      have hS4 : ∀ j, Grow G WA w4 j → P0.heap.size ≤ j := by
        rintro j (h | h)
        · exact hGB j h
        · have := hkPA.size; omega
      have hz := q3.heap hnA (fun h => by have := hGlt _ h; omega)
      have z2 : w4.cell? ⟨wo.heap.size, 2, none⟩ = some (.slice bao x.bits.length bcap) := by rw [Lib.cell_of_heap hz]; rfl
      have hbits4 : BitsAt w4 P0.heap.size (.slice bao x.bits.length bcap) x.bits := (hbits.keeps (hkA.mono fun _ _ h => h.elim)).keeps (q3.mono fun j _ h => hGB j h)
      have hbn0 : (x.bits.length : Int) ≤ 60 := by omega
      have HN4 := Lib.hid (And.intro hE4 (And.intro hT4 (And.intro hk4 hS4)))
      have HP := Lib.hid (And.intro hP hT)
      clear hE4 hT4 hk4 hS4 hP hT q2 hz hnA hTA hkPA hkA q3 hbits
      go_wp2
      go_loopw [36] (fun u wi => ∃ (j : Nat) (S : Nat → Prop) (tv' : Value) (nt' : Nat), j ≤ x.bits.length ∧ u = .int .i64 j ∧
          StE wi S be bp (Es.upTo (sfOf fr) (packTo (sfOf fr) els i) x j) false x.sec (packTo (sfOf fr) els i x.sec).length ver ms (sfOf fr) ∧ TI wi S P0.heap.size (bp + 1) iv tv' i nt' ∧ nt' ≤ 60 * i + j ∧
          (∀ b, S b → P0.heap.size ≤ b) ∧ Keeps (fun b => P0.heap.size ≤ b) P0 wi ∧ BitsAt wi P0.heap.size (.slice bao x.bits.length bcap) x.bits) (fun u _ => x.bits.length - (intOf u).toNat)
      case atStart => exact ⟨0, _, tv, nt, Nat.zero_le _, rfl, HN4.out.1, HN4.out.2.1, hnt, HN4.out.2.2.2, HN4.out.2.2.1, hbits4⟩
      case round =>
        generalize hwi : wr = wi at *
        clear hwi
        obtain ⟨j, S, tv', nt', hj, rfl, hE, hTI, hnt', hSB, hkI, hbI⟩ := hrel
        by_cases hlj : j < x.bits.length
        · have hgb := List.getElem?_eq_getElem hlj
          have hbo := hbok _ (List.getElem_mem hlj)
          have hsuc := upTo_succ (sf := sfOf fr) (secs := packTo (sfOf fr) els i) hgb
          have hup := (upTo_ok (sf := sfOf fr) ⟨s1, s10, m1, m60, hbl, hbok⟩ hpk.strs (by omega) j hj).le
          generalize hb0x : x.bits[j] = b at *
          clear hb0x
          obtain ⟨b1, o1, rfl, hb1, k0, k1, k2, k3, tvv, k4, hstrs⟩ := hbI.get hgb
          clear hgb
          obtain ⟨tao, tc, rfl⟩ := hstrs.form
          have hSlt := hE.lt
          have hstrsA := ((hstrs.mono fun _ h => hSB _ h : StrsAt wi S (.slice tao b.texts.length tc) b.texts)).alloc (.cells #[.int .i64 b.kind, .int .i64 b.num, .int .i64 b.sec, .string b.text, (.slice tao b.texts.length tc)] 39)
          have hEA := hE.alloc (.cells #[.int .i64 b.kind, .int .i64 b.num, .int .i64 b.sec, .string b.text, (.slice tao b.texts.length tc)] 39)
          have hkB : Keeps (fun _ => False) wi (wi.alloc (.cells #[.int .i64 b.kind, .int .i64 b.num, .int .i64 b.sec, .string b.text, (.slice tao b.texts.length tc)] 39)) := (Keeps.refl _ _).alloc _
          have hTA := hTI.keep hkB
          have hnB := heap_alloc_new wi (.cells #[.int .i64 b.kind, .int .i64 b.num, .int .i64 b.sec, .string b.text, (.slice tao b.texts.length tc)] 39)
          have hSUC := Lib.hid hsuc
          clear hsuc
          by_cases hk0 : b.kind = 0
          · have HST := Lib.hid (show ∀ e, Es.step (sfOf fr) e b = e.bool (sfOf fr) (b.num != 0) from fun e => by rw [Es.step, if_pos hk0])
            have hwb := write_bool (be := be) b.num b.sec b.text (.slice tao b.texts.length tc) (wi.alloc (.cells #[.int .i64 b.kind, .int .i64 b.num, .int .i64 b.sec, .string b.text, (.slice tao b.texts.length tc)] 39))
            have HB := Lib.hid hbo
            clear hbo
            generalize hbk : b.kind = bk at *
            clear hbk
            subst hk0
            generalize hbn : b.num = bn at *
            clear hbn
            have HW := Lib.hid (And.intro hE hTI)
            clear hE hTI
            go_wp2_with (go_at_call 13; refine hwb.mono ?_; rintro r w5 ⟨rfl, hk5⟩; refine Hid.out ?_)
            refine Lib.hid ?_
            have hE5 := hEA.keeps hk5 (fun _ _ h => h)
            have hT5 := hTA.keep hk5
            have p2 := hT5.cell2
            have hz5 := hk5.heap hnB (fun h => h)
            have q1 : w5.cell? ⟨wi.heap.size, 1, none⟩ = some (.int .i64 bn) := by rw [Lib.cell_of_heap hz5]; rfl
            have hkI5 : Keeps (fun b => P0.heap.size ≤ b) wi w5 := (hkB.same hk5).mono fun _ _ h => h.elim
            obtain ⟨i4, hi4, hz40, hz41, hz42⟩ := info_parts info4
            have hS5 := hkI.size
            have hS6 := hkI5.size
            have hc14 := stBool (w := w5.drew) (hE5.keeps (T := fun _ => False) (Keeps.refl _ _).drew (fun _ _ h => h)) hup (by omega) (bn != 0)
            have HU := Lib.hid hup
            have HT5 := Lib.hid hT5
            obtain ⟨tao', tcap', htv'⟩ : ∃ ao c, tv' = .slice ao nt' c := by
              obtain ⟨ys, hr⟩ := hT5.trow
              exact slice_form hr
            subst htv'
            clear hE5 hT5 hEA hTA hup hz5 hnB k0 k1 k2 k3 k4 hstrs hstrsA hwb
            go_wp2
            have HSB := Lib.hid hSB
            have HI := Lib.hid (And.intro hbI (And.intro hkI hkI5))
            clear hdump hok hels hels0 hbits4 hbI HN HN2 HN4 HP HSU HGE hpk hbok HW HB hkI hkI5 hkB hk5 hSB hGB hGlt hnt hSlt hK hkP hms hk2 hsP hmlt hkS hnS hk23
            go_region_law (first
              | (refine step_append_fresh rfl (.tmp 44) (.tmp 50) 31 rfl 4 i4 (.bool false) 1 1 Tryd.underlying31 hi4 hz40 hz41 hz42 rfl (by decide) (.slice tao' nt' tcap') nt' ys (by simp [Act.eval, Act.put]) HR.out ⟨w6.heap.size, 0, none⟩ 1 1 [.bool (bn != 0)] (by simp [Act.eval, Act.put]) rfl ?_ ?_ ?_ ?_ ?_
                 · exact HC.out
                 · simp [Value.oneCell']
                 · unfold maxLen; omega
                 · omega
                 intro v' w7 hown hgrow hfresh
                 obtain ⟨d1, d2, hTI7, hk7⟩ := HT6.out.told hsz6A HS6.out hown ((Keeps.refl (fun j => (Value.slice tao' nt' tcap').ownBlock = some j) _).grown hgrow (fun j hj => Or.inl hj)) hfresh
                 obtain ⟨ao', cap', hv'⟩ := slice_form hown
                 subst hv'
                 have HF := Lib.hid (And.intro hTI7 hk7)
                 clear hTI7 hk7 hown hgrow hfresh)
              | (go_simp
                 go_at_call 14
                 refine hc14.mono ?_
                 rintro r w6 ⟨rfl, hp6⟩
                 clear hc14
                 have hT6 := (HT5.out.keep (w' := w5.drew) (Keeps.refl _ _).drew).put hp6.2
                 have p6 := hT6.cell2
                 have hsz6 : w5.heap.size ≤ w6.heap.size := hp6.2.size
                 have hT6A := hT6.keep ((Keeps.refl (fun _ => False) w6).alloc (.cells #[.bool (bn != 0)] 4))
                 have p6A := hT6A.cell2
                 have hsz6A : P0.heap.size ≤ (w6.alloc (.cells #[.bool (bn != 0)] 4)).heap.size := by simp; omega
                 obtain ⟨ys, hr6⟩ := hT6A.trow
                 have HC : Hid (∀ j u, [Value.bool (bn != 0)][j]? = some u → (w6.alloc (.cells #[.bool (bn != 0)] 4)).cell? ((⟨w6.heap.size, 0, none⟩ : Addr).add j) = some u) := news_cells w6 [Value.bool (bn != 0)] 4
                 have HR := Lib.hid hr6
                 have HT6 := Lib.hid hT6A
                 have HS6 := Lib.hid (show ∀ j, Grow S w5.drew w6 j → j < (w6.alloc (.cells #[.bool (bn != 0)] 4)).heap.size from fun j h => by have := hp6.1.lt j h; simp; omega)
                 have HP6 := Lib.hid hp6
                 clear hp6 hT6 hT6A hr6))
            all_goals (
              go_wp2
              go_roundw
              case rel =>
                obtain ⟨hbI, hkI, hkI5⟩ := HI.out
                have r5 : Keeps (fun b => P0.heap.size ≤ b) w5 _ := (((Keeps.refl _ w5).drew.same (HP6.out.2.mono fun j _ h => HSB.out j h)).alloc _).same (HF.out.2.mono fun j _ h => h.1)
                refine ⟨j + 1, _, _, nt' + 1, by omega, by go_num, ?_, HF.out.1, by omega, ?_, hkI.same (hkI5.same r5), hbI.keeps (hkI5.same r5)⟩
                · rw [hSUC.out, HST.out]
                  exact StE.keeps (StE.alloc HP6.out.1 _) HF.out.2 fun j h e => e.2 h
                · rintro q (h | h)
                  · exact HSB.out q h
                  · have h1 : w5.heap.size ≤ q := h.1
                    omega
              case measure => simp [intOf]; omega)
          · have hcW := writeBit hEA hup (by omega) b hbo hk0 _ hstrsA
            unfold Bt.val at hcW
            have HW := Lib.hid (And.intro hE hTI)
            have HK0 := Lib.hid hk0
            clear hE hTI hk0 hEA hup
            go_wp2_with (go_at_call 13; refine hcW.mono ?_; rintro r w5 ⟨rfl, hp5⟩; refine Hid.out ?_)
            refine Lib.hid ?_
            go_wp2
            go_roundw
            case rel =>
              have hTP := hTA.put hp5.2
              have hkP5 : Keeps (fun b => P0.heap.size ≤ b) wi w5 := (hkB.mono fun _ _ h => h.elim).same (hp5.2.mono fun _ _ h => hSB _ h)
              refine ⟨j + 1, _, tv', nt', by omega, by go_num, ?_, hTP, by omega, ?_, hkI.same hkP5, hbI.keeps hkP5⟩
              · rw [hSUC.out, Es.step, if_neg HK0.out]
                exact hp5.1
              · rintro q (h | h)
                · exact hSB q h
                · have := hkI.size; have := hkB.size; omega
            case measure => simp [intOf]; omega
        · have hjn : j = x.bits.length := by omega
          subst hjn
          have hu := upTo_ok (sf := sfOf fr) ⟨s1, s10, m1, m60, hbl, hbok⟩ hpk.strs (by omega) x.bits.length (Nat.le_refl _)
          rw [upTo_all] at hu hE
          have hix := hpk.other x.sec (by omega)
          have hidx : (packTo (sfOf fr) els i x.sec).length < ((Es.all (sfOf fr) (packTo (sfOf fr) els i) x).secs x.sec).length := by
            rw [hu.other x.sec (by omega)]; simp [secPut]
          have hfl := flush (w := wi.drew) (StE.keeps (T := fun _ => False) hE (Keeps.refl _ _).drew (fun _ _ h => h)) hu.le (by omega) s10 (by omega) hidx (by omega) hu.nn
          have hSlt := hE.lt
          have hpe : secSet (Es.all (sfOf fr) (packTo (sfOf fr) els i) x).secs x.sec (packTo (sfOf fr) els i x.sec).length ⟨((Es.all (sfOf fr) (packTo (sfOf fr) els i) x).flush (sfOf fr)).toArray⟩ = packTo (sfOf fr) els (i + 1) := by
            rw [HSU.out]; rfl
          rw [hpe] at hfl
          have p1 := hTI.cell1
          obtain ⟨iao, icap, hiv⟩ : ∃ ao c, iv = .slice ao i c := by
            obtain ⟨ys, hr⟩ := hTI.irow
            exact slice_form hr
          subst hiv
          obtain ⟨i2, hi2, hz20, hz21, hz22⟩ := info_parts info2
          have hS5 := hkI.size
          have HTI := Lib.hid hTI
          have HSB := Lib.hid hSB
          have HI := Lib.hid hkI
          generalize hixg : (packTo (sfOf fr) els i x.sec).length = ix at *
          have hix0 : (0 : Int) ≤ (ix : Int) := by omega
          have hix1 : (ix : Int) ≤ 60 := by omega
          clear hixg hpe hu hE hTI hidx hdump hok hels hels0 hbits4 hbI HN HN2 HN4 HP HSU HGE hpk hbok hkI hSB hGB hGlt hSlt hK hkP hms hk2 hsP hmlt hkS hnS hk23 c0 c1 c2 z2 hj hlj
          go_wp2
          go_region_law (first
            | (go_simp
               go_at_call 15
               refine hfl.mono ?_
               rintro r w6 ⟨rfl, ⟨sl6, hp6⟩, hk6⟩
               clear hfl
               have hT6 := ((HTI.out.keep (w' := wi.drew) (Keeps.refl _ _).drew).put hk6).mono (T := S) (fun j _ h => Or.inl h)
               have p6 := hT6.cell1
               have hsz6 : wi.heap.size ≤ w6.heap.size := hk6.size
               have hT6A := hT6.keep ((Keeps.refl (fun _ => False) w6).alloc (.cells #[.int .i64 (IntKind.i64.wrap ix)] 2))
               have p6A := hT6A.cell1
               have hsz6A : P0.heap.size ≤ (w6.alloc (.cells #[.int .i64 (IntKind.i64.wrap ix)] 2)).heap.size := by simp; omega
               obtain ⟨ys, hr6⟩ := hT6A.irow
               have HC : Hid (∀ j u, [Value.int .i64 (IntKind.i64.wrap ix)][j]? = some u → (w6.alloc (.cells #[.int .i64 (IntKind.i64.wrap ix)] 2)).cell? ((⟨w6.heap.size, 0, none⟩ : Addr).add j) = some u) := news_cells w6 [Value.int .i64 (IntKind.i64.wrap ix)] 2
               have HR := Lib.hid hr6
               have HT6 := Lib.hid hT6A
               have HS6 := Lib.hid (show ∀ j, S j → j < (w6.alloc (.cells #[.int .i64 (IntKind.i64.wrap ix)] 2)).heap.size from fun j h => by have := hp6.all.lt j h; simp; omega)
               have HP6 := Lib.hid (And.intro hp6 hk6)
               clear hp6 hk6 hT6 hT6A hr6)
            | (refine step_append_fresh rfl (.tmp 55) (.tmp 59) 30 rfl 2 i2 (.int .i64 0) 1 8 Tryd.underlying30 hi2 hz20 hz21 hz22 rfl (by decide) (.slice iao i icap) i ys (by simp [Act.eval, Act.put]) HR.out ⟨w6.heap.size, 0, none⟩ 1 1 [.int .i64 (IntKind.i64.wrap ix)] (by simp [Act.eval, Act.put]) rfl ?_ ?_ ?_ ?_ ?_
               · exact HC.out
               · simp [Value.oneCell']
               · unfold maxLen; omega
               · omega
               intro v' w7 hown hgrow hfresh
               obtain ⟨d1, d2, hTI7, hk7⟩ := HT6.out.index hsz6A HS6.out hown ((Keeps.refl (fun j => (Value.slice iao i icap).ownBlock = some j) _).grown hgrow (fun j hj => Or.inl hj)) hfresh
               obtain ⟨ao', cap', hv'⟩ := slice_form hown
               subst hv'
               have HF := Lib.hid (And.intro hTI7 hk7)
               clear hTI7 hk7 hown hgrow hfresh))
          all_goals (
            go_wp2
            go_roundw
            case rel =>
              have r5 : Keeps (fun b => P0.heap.size ≤ b) wi _ := (((Keeps.refl _ wi).drew.same (HP6.out.2.mono fun j _ h => HSB.out j h)).alloc _).same (HF.out.2.mono fun j _ h => h.1)
              refine ⟨i + 1, S, sl6, _, _, nt', by omega, by go_num, ?_, HF.out.1, by omega, HSB.out, HI.out.same r5⟩
              exact (HP6.out.1.keeps (S := fun _ => False) ((Keeps.refl _ w6).alloc _) (fun _ _ h => h)).keeps HF.out.2 fun j h e => e.2 h
            case measure => simp [intOf]; omega)
    · have hin : i = els.length := by omega
      subst hin
      rw [packTo_all] at hP
      have hGlt := hP.all.lt
      have hkA : Keeps (fun _ => False) wo (wo.alloc (.cells #[.slice none 0 0, .int .i64 0, .int .i8 0] 61)) := (Keeps.refl _ _).alloc _
      have hnA := heap_alloc_new wo (.cells #[.slice none 0 0, .int .i64 0, .int .i8 0] 61)
      have hBf : Bf (wo.alloc (.cells #[.slice none 0 0, .int .i64 0, .int .i8 0] 61)) wo.heap.size 0 61 (fun _ => none) (.slice none 0 0) [] := by
        refine bf_zero (lr := 0) ⟨_, hnA, rfl, rfl, rfl, fun q hq => ?_⟩
        rcases q with _ | _ | _ | q
        all_goals first | rfl | omega | simp
      have hso := hkP.size
      have hK0 : Gl (wo.alloc (.cells #[.slice none 0 0, .int .i64 0, .int .i8 0] 61)) K := ((hK.keeps hkS (fun _ _ h => h)).keeps hkP (fun g hg => by omega)).keeps hkA (fun _ _ h => h)
      have hd := hdump _ G sl bp ms wo.heap.size _ (hP.keeps hkA fun _ _ h => h) hK0 (fun g hg h => by have := hGB g h; omega) hBf (fun h => by have := hGlt _ h; omega) (by omega)
      have hTA := hT.keep hkA
      have hpkl := hT.lt
      have hnSo := hkP.heap hnS (by omega)
      obtain ⟨iao, icap, hiv⟩ : ∃ ao c, iv = .slice ao els.length c := by
        obtain ⟨ys, hr⟩ := hT.irow
        exact slice_form hr
      obtain ⟨tao, tcap, htv⟩ : ∃ ao c, tv = .slice ao nt c := by
        obtain ⟨ys, hr⟩ := hT.trow
        exact slice_form hr
      subst hiv
      subst htv
      go_wp2_with (go_at_call 16; refine hd.mono ?_; rintro r w5 ⟨rfl, ⟨vb, hB5⟩, hk5⟩; refine Hid.out ?_)
      refine Lib.hid ?_
      have hblk5 := hk5.heap hTA.blk (show ¬ bp + 1 = wo.heap.size by omega)
      unfold tiCells at hblk5
      have KW : Hid (Keeps (fun _ => False) w w5) := Lib.hid (((hkS.trans hkP fun j h => Or.inr (by omega)).same hkA).trans hk5 fun j h => Or.inr (by omega))
      have hres5 := hk5.heap (hkA.heap hnSo (fun h => h)) (show ¬ w.heap.size = wo.heap.size by omega)
      clear hdump hok hels hels0 HN HN2 hd hTA hT hP hGlt hGB hK hK0 hBf hnA hnSo hkP hkA hkS hnS hk2 hk23
      have xs : ∀ q, q < 11 → w5.cell? ⟨bp + 1, q, none⟩ = (#[Value.string ⟨#[]⟩, .slice iao els.length icap, .slice tao nt tcap, .int .u8 0, .int .u8 0, .int .u8 0, .int .u8 0, .int .u8 0, .int .u8 0, .int .u8 0, .int .u8 0] : Array Value)[q]? := fun q _ => Lib.cell_of_heap hblk5 q
      have zs : ∀ q, q < 11 → w5.cell? ⟨w.heap.size, q, none⟩ = (#[Value.string ⟨#[]⟩, .slice none 0 0, .slice none 0 0, .int .u8 0, .int .u8 0, .int .u8 0, .int .u8 0, .int .u8 0, .int .u8 0, .int .u8 0, .int .u8 0] : Array Value)[q]? := fun q _ => Lib.cell_of_heap hres5 q
      have yf : ∀ q, w5.frozen? ⟨bp + 1, q, none⟩ = false := fun q => Lib.frozen_of_heap hblk5 q
      have zf : ∀ q, w5.frozen? ⟨w.heap.size, q, none⟩ = false := fun q => Lib.frozen_of_heap hres5 q
      have x0 := xs 0 (by omega)
      have z0 := zs 0 (by omega)
      simp at x0 z0
      have x1 := xs 1 (by omega)
      have z1 := zs 1 (by omega)
      simp at x1 z1
      have x2 := xs 2 (by omega)
      have z2 := zs 2 (by omega)
      simp at x2 z2
      have x3 := xs 3 (by omega)
      have z3 := zs 3 (by omega)
      simp at x3 z3
      have x4 := xs 4 (by omega)
      have z4 := zs 4 (by omega)
      simp at x4 z4
      have x5 := xs 5 (by omega)
      have z5 := zs 5 (by omega)
      simp at x5 z5
      have x6 := xs 6 (by omega)
      have z6 := zs 6 (by omega)
      simp at x6 z6
      have x7 := xs 7 (by omega)
      have z7 := zs 7 (by omega)
      simp at x7 z7
      have x8 := xs 8 (by omega)
      have z8 := zs 8 (by omega)
      simp at x8 z8
      have x9 := xs 9 (by omega)
      have z9 := zs 9 (by omega)
      simp at x9 z9
      have x10 := xs 10 (by omega)
      have z10 := zs 10 (by omega)
      simp at x10 z10
      clear xs zs
      have hne1 : ¬ w.heap.size = bp + 1 := by omega
      have hne2 : ¬ bp + 1 = w.heap.size := by omega
      have hk6 : Keeps (fun j => j = bp + 1) w5 ((((((((w5.setCell ⟨bp + 1, 3, none⟩ (.int .u8 a0)).setCell ⟨bp + 1, 4, none⟩ (.int .u8 a1)).setCell ⟨bp + 1, 5, none⟩ (.int .u8 a2)).setCell ⟨bp + 1, 6, none⟩ (.int .u8 a3)).setCell ⟨bp + 1, 7, none⟩ (.int .u8 a4)).setCell ⟨bp + 1, 8, none⟩ (.int .u8 a5)).setCell ⟨bp + 1, 9, none⟩ (.int .u8 a6)).setCell ⟨bp + 1, 10, none⟩ (.int .u8 a7)) := (((((((((Keeps.refl (fun j => j = bp + 1) w5).setCell (p := ⟨bp + 1, 3, none⟩) (by exact Or.inl rfl) _).setCell (p := ⟨bp + 1, 4, none⟩) (by exact Or.inl rfl) _).setCell (p := ⟨bp + 1, 5, none⟩) (by exact Or.inl rfl) _).setCell (p := ⟨bp + 1, 6, none⟩) (by exact Or.inl rfl) _).setCell (p := ⟨bp + 1, 7, none⟩) (by exact Or.inl rfl) _).setCell (p := ⟨bp + 1, 8, none⟩) (by exact Or.inl rfl) _).setCell (p := ⟨bp + 1, 9, none⟩) (by exact Or.inl rfl) _).setCell (p := ⟨bp + 1, 10, none⟩) (by exact Or.inl rfl) _)
      have hB6 := hB5.keeps hk6 (by
        intro j hj e
        rcases hj with hj | hj
        · omega
        · obtain ⟨lrb, -, hob, -⟩ := hB5
          exact row_tag hob hblk5 (by decide) (e ▸ hj))
      have HB6 := Lib.hid hB6
      clear hk6 hB6 hB5
      go_wp2_with (go_at_call 17; refine (bufString wo.heap.size 0 61 _ vb data _ HB6.out).mono ?_; rintro r w7 ⟨rfl, n7, rfl⟩; refine Hid.out ?_)
      refine Lib.hid ?_
      go_wp2
      have hm8 := ((set8_keeps (Keeps.refl (fun j => j = bp + 1) w5) (bp + 1) (Or.inl rfl) (.int .u8 a0) (.int .u8 a1) (.int .u8 a2) (.int .u8 a3) (.int .u8 a4) (.int .u8 a5) (.int .u8 a6) (.int .u8 a7)).drewN n7).setCell (p := ⟨bp + 1, 0, none⟩) (by exact Or.inl rfl) (.string ⟨data.toArray⟩)
      have hr8 := hm8.heap hres5 hne1
      have kw8 := ((set8_keeps KW.out (bp + 1) (Or.inr (by omega)) (.int .u8 a0) (.int .u8 a1) (.int .u8 a2) (.int .u8 a3) (.int .u8 a4) (.int .u8 a5) (.int .u8 a6) (.int .u8 a7)).drewN n7).setCell (p := ⟨bp + 1, 0, none⟩) (by right; show w.heap.size ≤ bp + 1; omega) (.string ⟨data.toArray⟩)
      have hv11 := set11 _ w.heap.size _ _ _ _ _ _ _ _ _ _ _ (.string ⟨data.toArray⟩) (.slice iao els.length icap) (.slice tao nt tcap) (.int .u8 a0) (.int .u8 a1) (.int .u8 a2) (.int .u8 a3) (.int .u8 a4) (.int .u8 a5) (.int .u8 a6) (.int .u8 a7) hr8
      have hk11 := set11_keeps kw8 w.heap.size (Or.inr (Nat.le_refl _)) (.string ⟨data.toArray⟩) (.slice iao els.length icap) (.slice tao nt tcap) (.int .u8 a0) (.int .u8 a1) (.int .u8 a2) (.int .u8 a3) (.int .u8 a4) (.int .u8 a5) (.int .u8 a6) (.int .u8 a7)
      clear hm8 hr8 kw8
      refine bodyPost_ret (results_cell_row rfl _ _ w.heap.size 34 _ (0, 0) _ rfl hv11 Tryd.underlying34 rfl (by kernel_rfl)) rfl ⟨⟨_, _, _, _, _, _, rfl⟩, hk11⟩

end Go.Proofs.YthhpmeaajgjdeaaDoor
