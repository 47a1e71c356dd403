/- The guards on all elements, and on the texts. -/
import Derived.Test.YthhpmeaajgjdeaaDoorX30
import Derived.Laws.OwnMore
import Derived.LoopN

set_option linter.unusedVariables false
set_option linter.unusedSimpArgs false

/- Sc: The laws' guards: elementOk, packOk. -/
namespace Go.Proofs.YthhpmeaajgjdeaaDoor
open Go Go.RowKit

structure Bt.OkB (b : Bt) : Prop where
  nums : b.OkN
  text : b.text.size ≤ 200
  texts : b.texts.length ≤ 20
  sizes : ∀ s ∈ b.texts, s.size ≤ 200

structure ElI.OkE (x : ElI) : Prop where
  sec1 : 1 ≤ x.sec
  sec10 : x.sec < 10
  marker1 : 1 ≤ x.marker
  marker60 : x.marker ≤ 60
  len : x.bits.length ≤ 60
  bits : ∀ b ∈ x.bits, b.OkB

set_option maxHeartbeats 2000000 in
theorem elementOk (B : Nat) (x : ElI) (bv : Value) (w : World) (h : BitsAt w B bv x.bits) (hB : B ≤ w.heap.size) (hf : x.Fit) :
    Calls Tryd.prog 9 #[x.val bv] w fun e w' => Ans x.OkE w e w' := by
  obtain ⟨ao, c, rfl⟩ := h.form
  obtain ⟨sec, marker, bits⟩ := x
  obtain ⟨hfl, hfb⟩ := hf
  simp only at h hfl hfb
  unfold ElI.val
  simp only
  obtain ⟨n, hn⟩ : ∃ n, n = bits.length := ⟨_, rfl⟩
  rw [← hn] at hfl ⊢
  have hk0 := (Keeps.refl (fun _ => False) w).alloc (.cells #[.int .i64 sec, .int .i64 marker, .slice ao n c] 27)
  have hq0 := heap_alloc_new w (.cells #[.int .i64 sec, .int .i64 marker, .slice ao n c] 27)
  have H := Lib.hid (And.intro h (And.intro hn (And.intro hfb (And.intro hk0 hq0))))
  clear h hn hfb hk0 hq0
  go_enter Tryd.func9, Tryd.ntmps9
  go_wp2
  obtain ⟨w0, hw0⟩ : ∃ w0, w0 = w.alloc (.cells #[.int .i64 sec, .int .i64 marker, .slice ao n c] 27) := ⟨_, rfl⟩
  rw [← hw0] at H ⊢
  clear hw0
  go_loopw [8] (fun u8 wr => ∃ j : Nat, j ≤ n ∧ u8 = .int .i64 j ∧ (∀ k x, k < j → bits[k]? = some x → x.OkB) ∧ Keeps (fun _ => False) w0 wr) (fun u8 _ => n - (intOf u8).toNat)
  case atStart => exact ⟨0, Nat.zero_le _, rfl, fun k x h => by omega, Keeps.refl _ _⟩
  case round =>
    generalize hwo : wr = wo at *
    clear hwo
    obtain ⟨j, hj, rfl, hall, hk⟩ := hrel
    by_cases hjn : j < n
    · have hjn' : (j : Int) < (n : Int) := by omega
      obtain ⟨h, hn, hfb, hk0, hq0⟩ := H.out
      have hge := List.getElem?_eq_getElem (show j < bits.length by omega)
      have hfx := hfb _ (List.getElem_mem (show j < bits.length by omega))
      generalize bits[j]'(by omega) = x at *
      rw [← hn] at h
      have h := h.keeps ((hk0.same hk).mono fun _ _ h => h.elim)
      obtain ⟨b, o, rfl, hbB, c0, c1, c2, c3, tv, c4, hst⟩ := h.get hge
      obtain ⟨tao, tc, rfl⟩ := hst.form
      have hkA := (Keeps.refl (fun _ => False) wo).alloc (.cells #[.int .i64 x.kind, .int .i64 x.num, .int .i64 x.sec, .string x.text, .slice tao x.texts.length tc] 39)
      have hnA := heap_alloc_new wo (.cells #[.int .i64 x.kind, .int .i64 x.num, .int .i64 x.sec, .string x.text, .slice tao x.texts.length tc] 39)
      have HC := bitOk x tao x.texts.length tc (wo.alloc (.cells #[.int .i64 x.kind, .int .i64 x.num, .int .i64 x.sec, .string x.text, .slice tao x.texts.length tc] 39))
      unfold Bt.val at HC
      have HC := Lib.hid HC
      have HK := Lib.hid (And.intro hall (And.intro hge (And.intro (hk.same hkA) (And.intro hnA (And.intro (hst.keeps hkA fun _ h => h.elim) hfx)))))
      clear h hge hn hall hk hkA hst hfb hk0 hq0 hnA hfx
      go_wp2_with (go_at_call 19; refine HC.out.mono ?_; rintro e w1 ⟨r, rfl, hr, hk1⟩; refine Hid.out ?_)
      refine Lib.hid ?_
      obtain ⟨hall, hge, hkw, hnA, hst, hfx⟩ := HK.out
      have hw1 := hk1.heap hnA fun h => h
      have d3 : w1.cell? ⟨wo.heap.size, 3, none⟩ = some (.string x.text) := by rw [Lib.cell_of_heap hw1]; rfl
      have d4 : w1.cell? ⟨wo.heap.size, 4, none⟩ = some (.slice tao x.texts.length tc) := by rw [Lib.cell_of_heap hw1]; rfl
      have HS := Lib.hid (shortC _ _ x.texts w1 (hst.keeps hk1 fun _ h => h.elim) hfx)
      have HR := Lib.hid (And.intro hr (hkw.same hk1))
      clear hr hk1 hkw hall hge HC hst hfx hw1 hnA
      cases r
      · go_wp2
        go_ret
        exact ⟨false, rfl, by simp, H.out.2.2.2.1.same HR.out.2⟩
      · by_cases ht : (200 : Int) < (x.text.size : Int)
        · go_wp2
          go_ret
          exact ⟨false, rfl, by simp, H.out.2.2.2.1.same HR.out.2⟩
        · go_wp2_with (go_at_call 20; refine HS.out.mono ?_; rintro e w2 ⟨r, rfl, hr, hk2⟩; refine Hid.out ?_)
          refine Lib.hid ?_
          have HT := Lib.hid (And.intro hr (HR.out.2.same hk2))
          clear hr hk2
          cases r
          · go_wp2
            go_ret
            exact ⟨false, rfl, by simp, H.out.2.2.2.1.same HT.out.2⟩
          · go_wp2
            have hs := HT.out.1 (by trivial)
            refine ⟨⟨j + 1, by omega, rfl, all_upto HK.out.1 HK.out.2.1 ⟨HR.out.1 (by trivial), by omega, hs.1, hs.2⟩, HT.out.2⟩, ?_⟩
            simp only [intOf]
            omega
    · have hjn' : ¬ (j : Int) < (n : Int) := by omega
      obtain ⟨h, hn, hfb, hk0, hq0⟩ := H.out
      have hqo := hk.heap hq0 fun h => h
      have e0 : wo.cell? ⟨w.heap.size, 0, none⟩ = some (.int .i64 sec) := by rw [Lib.cell_of_heap hqo]; rfl
      have e1 : wo.cell? ⟨w.heap.size, 1, none⟩ = some (.int .i64 marker) := by rw [Lib.cell_of_heap hqo]; rfl
      have e2 : wo.cell? ⟨w.heap.size, 2, none⟩ = some (.slice ao n c) := by rw [Lib.cell_of_heap hqo]; rfl
      have HK := Lib.hid (And.intro hall (hk0.same hk))
      have HN := Lib.hid hn
      clear hall hk h hn hfb hk0 hq0 hqo
      by_cases s1 : 1 ≤ sec
      · by_cases s2 : sec < 10
        · by_cases s3 : 1 ≤ marker
          · by_cases s4 : marker ≤ 60
            · go_wp2
              go_ret
              refine ⟨decide ((n : Int) ≤ 60), rfl, fun hr => ⟨s1, s2, s3, s4, ?_, fun x hx => ?_⟩, HK.out.2⟩
              · have := of_decide_eq_true hr; have := HN.out; simp only; omega
              · obtain ⟨k, hk⟩ := List.mem_iff_getElem?.1 hx
                have hlt : k < bits.length := (List.getElem?_eq_some_iff.1 hk).1
                exact HK.out.1 k x (by have := HN.out; omega) hk
            · go_wp2
              go_ret
              exact ⟨false, rfl, by simp, HK.out.2⟩
          · go_wp2
            go_ret
            exact ⟨false, rfl, by simp, HK.out.2⟩
        · go_wp2
          go_ret
          exact ⟨false, rfl, by simp, HK.out.2⟩
      · go_wp2
        go_ret
        exact ⟨false, rfl, by simp, HK.out.2⟩

end Go.Proofs.YthhpmeaajgjdeaaDoor

/- Sd: The laws' guards: packOk. -/
namespace Go.Proofs.YthhpmeaajgjdeaaDoor
open Go Go.RowKit

set_option maxHeartbeats 2000000 in
theorem packOk (B : Nat) (ver : Int) (sync : Bool) (v : Value) (els : List ElI) (w : World) (h : ElsI w B v els) (hB : B ≤ w.heap.size) (hl : els.length ≤ 2147483647) (hf : ∀ x ∈ els, x.Fit) :
    Calls Tryd.prog 5 #[.int .i64 ver, .bool sync, v] w fun e w' => Ans (0 ≤ ver ∧ ver ≤ 5 ∧ els.length ≤ 60 ∧ ∀ x ∈ els, x.OkE) w e w' := by
  obtain ⟨ao, c, rfl⟩ := h.form
  obtain ⟨n, hn⟩ : ∃ n, n = els.length := ⟨_, rfl⟩
  rw [← hn] at hl ⊢
  have H := Lib.hid (And.intro h (And.intro hn hf))
  clear h hn hf
  go_enter Tryd.func5, Tryd.ntmps5
  go_wp2
  go_loopw [11] (fun u11 wr => ∃ j : Nat, j ≤ n ∧ u11 = .int .i64 j ∧ (∀ k x, k < j → els[k]? = some x → x.OkE) ∧ Keeps (fun _ => False) w wr) (fun u11 _ => n - (intOf u11).toNat)
  case atStart => exact ⟨0, Nat.zero_le _, rfl, fun k x h => by omega, Keeps.refl _ _⟩
  case round =>
    generalize hwo : wr = wo at *
    clear hwo
    obtain ⟨j, hj, rfl, hall, hk⟩ := hrel
    by_cases hjn : j < n
    · have hjn' : (j : Int) < (n : Int) := by omega
      obtain ⟨h, hn, hf⟩ := H.out
      have hge := List.getElem?_eq_getElem (show j < els.length by omega)
      have hfx := hf _ (List.getElem_mem (show j < els.length by omega))
      generalize els[j]'(by omega) = x at *
      rw [← hn] at h
      have h := h.keeps (hk.mono fun _ _ h => h.elim)
      obtain ⟨b, o, rfl, hbB, c0, c1, bv, c2, hst⟩ := h.get hge
      obtain ⟨tao, tc, rfl⟩ := hst.form
      have hkA := (Keeps.refl (fun _ => False) wo).alloc (.cells #[.int .i64 x.sec, .int .i64 x.marker, .slice tao x.bits.length tc] 27)
      have HC := elementOk B x (.slice tao x.bits.length tc) _ (hst.keeps (hkA.mono fun _ _ h => h.elim)) (by have := hk.size; simp; omega) hfx
      unfold ElI.val at HC
      have HC := Lib.hid HC
      have HK := Lib.hid (And.intro hall (And.intro hge (hk.same hkA)))
      clear h hge hn hall hk hkA hst hf hfx
      go_wp2_with (go_at_call 9; refine HC.out.mono ?_; rintro e w1 ⟨r, rfl, hr, hk1⟩; refine Hid.out ?_)
      refine Lib.hid ?_
      have HR := Lib.hid (And.intro hr (HK.out.2.2.same hk1))
      clear hr hk1 HC
      cases r
      · go_wp2
        go_ret
        exact ⟨false, rfl, by simp, HR.out.2⟩
      · go_wp2
        refine ⟨⟨j + 1, by omega, rfl, all_upto HK.out.1 HK.out.2.1 (HR.out.1 (by trivial)), HR.out.2⟩, ?_⟩
        simp only [intOf]
        omega
    · have hjn' : ¬ (j : Int) < (n : Int) := by omega
      have HK := Lib.hid (And.intro hall hk)
      clear hall hk
      have fin : 0 ≤ ver → ver ≤ 5 → decide ((n : Int) ≤ 60) = true → (0 ≤ ver ∧ ver ≤ 5 ∧ n ≤ 60 ∧ ∀ x ∈ els, x.OkE) := by
        intro h0 h1 h2
        have h2 := of_decide_eq_true h2
        refine ⟨h0, h1, by omega, fun x hx => ?_⟩
        obtain ⟨k, hk⟩ := List.mem_iff_getElem?.1 hx
        have hlt : k < els.length := (List.getElem?_eq_some_iff.1 hk).1
        exact HK.out.1 k x (by have := H.out.2.1; omega) hk
      have FIN := Lib.hid fin
      clear fin
      by_cases s1 : 0 ≤ ver
      · by_cases s2 : ver ≤ 5
        · cases sync
          · go_wp2
            go_ret
            exact ⟨decide ((n : Int) ≤ 60), rfl, fun hr => (FIN.out s1 s2 hr).2.2, HK.out.2⟩
          · by_cases s3 : 1 ≤ ver
            · go_wp2
              go_ret
              exact ⟨decide ((n : Int) ≤ 60), rfl, fun hr => (FIN.out s1 s2 hr).2.2, HK.out.2⟩
            · go_wp2
              go_ret
              exact ⟨false, rfl, by simp, HK.out.2⟩
        · go_wp2
          go_ret
          exact ⟨false, rfl, by simp, HK.out.2⟩
      · go_wp2
        go_ret
        exact ⟨false, rfl, by simp, HK.out.2⟩

/-- zzFits1's and packOk's elements, as Pack takes them. -/
def ElI.el (x : ElI) : El := ⟨x.sec.toNat, x.marker.toNat, x.bits⟩
theorem ElI.OkE.el {x : ElI} (h : x.OkE) (hn : ∀ b ∈ x.bits, -9223372036854775808 ≤ b.num ∧ b.num ≤ 9223372036854775807) : x.el.Ok := by
  obtain ⟨h1, h2, h3, h4, h5, h6⟩ := h
  refine ⟨by simp only [ElI.el]; omega, by simp only [ElI.el]; omega, by simp only [ElI.el]; omega, by simp only [ElI.el]; omega, h5, fun b hb => ?_⟩
  obtain ⟨⟨a, b', c, d, e⟩, f, g, -⟩ := h6 b hb
  exact ⟨a, b', (hn b hb).1, (hn b hb).2, c, d, e, f, g⟩
theorem ElsI.at_ {w : World} {B : Nat} {v : Value} {els : List ElI} (h : ElsI w B v els) (hok : ∀ x ∈ els, x.OkE) : ElsAt w B v (els.map ElI.el) := by
  rcases h with ⟨ao, rfl, rfl⟩ | ⟨b, o, c, rfl, h1, h2⟩
  · exact Or.inl ⟨ao, rfl, rfl⟩
  · refine Or.inr ⟨b, o, c, by rw [List.length_map], h1, fun j x hj => ?_⟩
    rw [List.getElem?_map] at hj
    obtain ⟨y, hy, rfl⟩ := Option.map_eq_some_iff.1 hj
    obtain ⟨a0, a1, bv, a2, a3⟩ := h2 j y hy
    have ho := hok y (List.mem_of_getElem? hy)
    have e1 : ((y.el.sec : Nat) : Int) = y.sec := Int.toNat_of_nonneg (by have := ho.sec1; omega)
    have e2 : ((y.el.marker : Nat) : Int) = y.marker := Int.toNat_of_nonneg (by have := ho.marker1; omega)
    exact ⟨by rw [e1]; exact a0, by rw [e2]; exact a1, bv, a2, a3⟩

end Go.Proofs.YthhpmeaajgjdeaaDoor

/- Se: spec.TextsOf of one element. -/
namespace Go.Proofs.YthhpmeaajgjdeaaDoor
open Go Go.RowKit

/-- Strings appended. -/
theorem appendStrs (w : World) (S : Nat → Prop) (v tv : Value) (xs ss : List ByteArray) (hown : w.ownsRow 0 9 1 v xs.length (strCells xs)) (hs : StrsAt w S tv ss) (hl : xs.length + ss.length ≤ 100000) :
    ∃ v' w', (Builtin.append_ #[28, 28] 28 #[v, tv]).run Tryd.prog w = .ok v' w' ∧ w'.ownsRow 0 9 1 v' (xs ++ ss).length (strCells (xs ++ ss)) ∧ w.grownBy w' v.ownBlock ∧ Fresh w v v' := by
  obtain ⟨i0, hi, hz0, hz1, hz2⟩ := info_parts info9
  rcases hs with ⟨ao, rfl, rfl⟩ | ⟨b, o, c, rfl, -, hc⟩
  · cases ao with
    | none => exact ⟨v, w, run_append_owned_none (P := Tryd.prog) w 0 28 28 9 i0 1 Tryd.underlying28 hi v xs.length (strCells xs) hown, by simpa using hown, ⟨rfl, rfl, rfl, Nat.le_refl _, fun _ _ _ => rfl⟩, Fresh.refl _ _⟩
    | some ad =>
      obtain ⟨v', w', h1, h2, h3, h4⟩ := run_append_fresh (P := Tryd.prog) w 28 28 9 i0 (.string ⟨#[]⟩) 1 16 Tryd.underlying28 hi hz0 hz1 hz2 rfl (by decide) v xs.length (strCells xs) hown ad 0 0 [] rfl (by simp) (by simp) (by unfold maxLen; omega) (by omega)
      exact ⟨v', w', h1, by simpa using h2, h3, h4⟩
  · obtain ⟨v', w', h1, h2, h3, h4⟩ := run_append_fresh (P := Tryd.prog) w 28 28 9 i0 (.string ⟨#[]⟩) 1 16 Tryd.underlying28 hi hz0 hz1 hz2 rfl (by decide) v xs.length (strCells xs) hown ⟨b, o, none⟩ ss.length c (strCells ss) (by simp [strCells]) (fun j u hj => by
      simp only [strCells, List.getElem?_map] at hj
      obtain ⟨s, hs, rfl⟩ := Option.map_eq_some_iff.1 hj
      rw [Lib.addr_add]
      exact (hc j s hs).1) (by simp [strCells, Value.oneCell']) (by unfold maxLen; omega) (by omega)
    exact ⟨v', w', h1, by rw [List.length_append, strCells, List.map_append]; exact h2, h3, h4⟩

def textsTo (bits : List Bt) (j : Nat) : List ByteArray := (bits.take j).flatMap Bt.strs
theorem textsTo_succ {bits : List Bt} {j : Nat} {x : Bt} (h : bits[j]? = some x) : textsTo bits (j + 1) = textsTo bits j ++ x.strs := by
  obtain ⟨hk, rfl⟩ := List.getElem?_eq_some_iff.1 h
  simp only [textsTo]
  rw [List.take_succ_eq_append_getElem hk, List.flatMap_append]
  simp
theorem strs_len20 {b : Bt} (h : b.texts.length ≤ 20) : b.strs.length ≤ 20 := by
  unfold Bt.strs
  split
  · simp
  · split
    · exact h
    · simp
theorem textsTo_len {bits : List Bt} (h : ∀ b ∈ bits, b.texts.length ≤ 20) : ∀ j, (textsTo bits j).length ≤ 20 * j
  | 0 => by simp [textsTo]
  | j + 1 => by
    by_cases hj : j < bits.length
    · have hge := List.getElem?_eq_getElem hj
      rw [textsTo_succ hge, List.length_append]
      have h1 := textsTo_len h j
      have h2 := strs_len20 (h _ (List.getElem_mem hj))
      omega
    · have h1 := textsTo_len h j
      have e : textsTo bits (j + 1) = textsTo bits j := by simp only [textsTo]; rw [List.take_of_length_le (by omega), List.take_of_length_le (by omega)]
      rw [e]; omega

/-- A row below w's end. -/
theorem own_lt {w : World} {base : Nat} {e : TypeId} {size : Nat} {v : Value} {n : Nat} {xs : List Value} (h : w.ownsRow base e size v n xs) {k : Nat} (hk : v.ownBlock = some k) : k < w.heap.size := by
  rcases h.2 with ⟨rfl, -⟩ | ⟨g, cap, cur, rfl, -, hg, -⟩
  · simp [Value.ownBlock] at hk
  · simp only [Value.ownBlock, Option.some.injEq] at hk
    subst hk
    exact Lib.lt_of_heap hg

/-- An answer that is a slice of so many. -/
def AnsL (n : Nat) (w : World) (e : Ending) (w' : World) : Prop := ∃ ao c, e = .returned (.slice ao n c) ∧ Keeps (fun _ => False) w w'

set_option maxHeartbeats 2000000 in
theorem textsOf (B b o c : Nat) (x : ElI) (w : World) (h : ElsI w B (.slice (some ⟨b, o, none⟩) 1 c) [x]) (hx : x.OkE) :
    Calls Tryd.prog 6 #[.slice (some ⟨b, o, none⟩) 1 c] w fun e w' => AnsL (x.bits.flatMap Bt.strs).length w e w' := by
  obtain ⟨b', o', e, hbB, c0, c1, bv, c2, hbits⟩ := h.get (j := 0) (x := x) rfl
  cases e
  obtain ⟨ao, bc, rfl⟩ := hbits.form
  simp only [Nat.zero_mul, Nat.add_zero] at c0 c1 c2
  have hk1 := (Keeps.refl (fun _ => False) w).alloc (.cells #[] 9)
  have d0 := hk1.cell c0 fun h => h
  have d1 := hk1.cell c1 fun h => h
  have d2 := hk1.cell c2 fun h => h
  obtain ⟨n, hn⟩ : ∃ n, n = x.bits.length := ⟨_, rfl⟩
  rw [← hn] at d2 hbits
  have hn60 : n ≤ 60 := by rw [hn]; exact hx.len
  have H := Lib.hid (And.intro hbits (And.intro hx (And.intro hn hk1)))
  have HN := Lib.hid (heap_alloc_new w (.cells #[] 9))
  have hN := HN.out
  clear h hbits hx hn hk1 c0 c1 c2 hN
  go_enter Tryd.func6, Tryd.ntmps6
  go_wp2
  obtain ⟨w1, hw1⟩ : ∃ w1, w1 = w.alloc (.cells #[] 9) := ⟨_, rfl⟩
  rw [← hw1] at H HN d0 d1 d2 ⊢
  obtain ⟨g0, hg0⟩ : ∃ g0, g0 = w.heap.size := ⟨_, rfl⟩
  rw [← hg0] at HN ⊢
  have HG := Lib.hid (And.intro hg0 hw1)
  clear hw1 hg0
  refine wp_loop_rounds 2 ?_
  rw [rounds_succ]
  go_wp2
  have kA := (Keeps.refl (fun _ => False) w1).alloc (.cells #[.int .i64 x.sec, .int .i64 x.marker, .slice ao n bc] 27)
  have hown : (w1.alloc (.cells #[.int .i64 x.sec, .int .i64 x.marker, .slice ao n bc] 27)).ownsRow 0 9 1 (.slice (some ⟨g0, 0, none⟩) 0 0) (textsTo x.bits 0).length (strCells (textsTo x.bits 0)) :=
    ⟨rfl, Or.inr ⟨g0, 0, #[], rfl, Nat.zero_le _, kA.heap HN.out (fun h => h), Nat.le_refl _, by simp [maxLen], rfl, rfl⟩⟩
  have HO := Lib.hid (And.intro hown (H.out.2.2.2.same kA))
  clear kA hown
  go_loopw [3, 18] (fun u3 u18 wr => ∃ j : Nat, j ≤ n ∧ u18 = .int .i64 j ∧ wr.ownsRow 0 9 1 u3 (textsTo x.bits j).length (strCells (textsTo x.bits j)) ∧ (∀ k, u3.ownBlock = some k → w.heap.size ≤ k) ∧ Keeps (fun _ => False) w wr) (fun _ u18 _ => n - (intOf u18).toNat)
  case atStart => exact ⟨0, Nat.zero_le _, rfl, HO.out.1, by intro k hk; simp only [Value.ownBlock, Option.some.injEq] at hk; have := HG.out.1; omega, HO.out.2⟩
  case round =>
    generalize hwo : wr = wo at *
    clear hwo
    obtain ⟨j, hj, rfl, hown, hfr, hk⟩ := hrel
    obtain ⟨vao, vc, rfl⟩ := slice_form hown
    by_cases hjn : j < n
    · have hjn' : (j : Int) < (n : Int) := by omega
      obtain ⟨hbits, hx, hn, -⟩ := H.out
      have hge := List.getElem?_eq_getElem (show j < x.bits.length by omega)
      have hxb := hx.bits _ (List.getElem_mem (show j < x.bits.length by omega))
      have hsuc := textsTo_succ hge
      have htl := textsTo_len (fun b hb => (hx.bits b hb).texts) j
      generalize x.bits[j]'(by omega) = y at *
      have hbits := hbits.keeps (hk.mono fun _ _ h => h.elim)
      obtain ⟨b2, o2, rfl, hb2, e0, e1, e2, e3, tv, e4, hst⟩ := hbits.get hge
      obtain ⟨tao, tc, rfl⟩ := hst.form
      have kA := (Keeps.refl (fun _ => False) wo).alloc (.cells #[.int .i64 y.kind, .int .i64 y.num, .int .i64 y.sec, .string y.text, .slice tao y.texts.length tc] 39)
      have hnA := heap_alloc_new wo (.cells #[.int .i64 y.kind, .int .i64 y.num, .int .i64 y.sec, .string y.text, .slice tao y.texts.length tc] 39)
      have hownA := ownsRow_keeps hown kA fun _ _ h => h
      have hkA := hk.same kA
      have hstA := hst.keeps kA fun _ h => h.elim
      have htx := hxb.texts
      have hxt := hxb.text
      have hown0 := Lib.hid hown
      by_cases k6 : y.kind = 6
      · have hstr : y.strs = [y.text] := by simp [Bt.strs, k6]
        have HH := Lib.hid (And.intro hsuc (And.intro hstr (And.intro hownA (And.intro hkA (And.intro hnA hfr)))))
        clear hsuc hstr hownA hkA hnA hfr hst hstA hown hk hbits hx hn hxb hge kA
        rw [k6] at HH e0
        go_wp2_with (at_builtin; refine Hid.out ?_)
        refine Lib.hid ?_
        obtain ⟨hsuc, hstr, hownA, hkA, hnA, hfr⟩ := HH.out
        have kB := (Keeps.refl (fun _ => False) (wo.alloc (.cells #[.int .i64 6, .int .i64 y.num, .int .i64 y.sec, .string y.text, .slice tao y.texts.length tc] 39))).alloc (.cells #[.string y.text] 9)
        have hnB := heap_alloc_new (wo.alloc (.cells #[.int .i64 6, .int .i64 y.num, .int .i64 y.sec, .string y.text, .slice tao y.texts.length tc] 39)) (.cells #[.string y.text] 9)
        have hszA : (wo.alloc (.cells #[.int .i64 6, .int .i64 y.num, .int .i64 y.sec, .string y.text, .slice tao y.texts.length tc] 39)).heap.size = wo.heap.size + 1 := by simp
        rw [hszA] at hnB
        have hownB := ownsRow_keeps hownA kB fun _ _ h => h
        have hnAB := kB.heap hnA fun h => h
        have hkB := hkA.same kB
        obtain ⟨v', w2, happ, hown2, hgr, hfr2⟩ := appendStrs ((wo.alloc (.cells #[.int .i64 6, .int .i64 y.num, .int .i64 y.sec, .string y.text, .slice tao y.texts.length tc] 39)).alloc (.cells #[.string y.text] 9)) (fun _ => False) _ (.slice (some ⟨wo.heap.size + 1, 0, none⟩) 1 1) _ [y.text] hownB (Or.inr ⟨wo.heap.size + 1, 0, 1, rfl, fun h => h, fun k s hs => by
          match k, hs with
          | 0, hs =>
            simp only [List.getElem?_cons_zero, Option.some.injEq] at hs
            subst hs
            exact ⟨by rw [Lib.cell_of_heap hnB]; rfl, by unfold maxLen; omega⟩⟩) (by simp; omega)
        have hk2 : Keeps (fun _ => False) w w2 := hkB.grown hgr fun k hk => Or.inr (hfr k hk)
        have hlt := fun k hk => own_lt hownA (k := k) hk
        have f0 : w2.cell? ⟨wo.heap.size, 0, none⟩ = some (.int .i64 6) := by
          have h2 := hgr.block wo.heap.size (by simp; omega) (fun e => by have := own_lt hown0.out e.symm; omega)
          rw [Lib.cell_of_heap (h2.trans hnAB)]; rfl
        have hfr' : ∀ k, v'.ownBlock = some k → w.heap.size ≤ k := by
          intro k hk
          rcases hfr2 with e | ⟨i, e, hi⟩
          · exact hfr k (e ▸ hk)
          · rw [e] at hk
            injection hk with hk
            have := hkB.size
            omega
        rw [← hstr, ← hsuc] at hown2
        refine Lib.wpList_append_run _ rfl _ _ _ _ rfl _ _ rfl rfl _ _ happ ?_
        have FIN := Lib.hid (And.intro hown2 (And.intro hfr' hk2))
        obtain ⟨ao2, c2', hv2⟩ := slice_form hown2
        subst hv2
        clear happ hown2 hgr hfr2 hk2 hfr' hfr hkA hkB hnA hnAB hownA hownB kB hnB hszA hlt hsuc hstr HH hown0
        go_wp2
        go_roundw
        case rel => exact ⟨j + 1, by omega, rfl, FIN.out.1, FIN.out.2.1, FIN.out.2.2⟩
        case measure => simp [intOf]; omega
      · by_cases k7 : y.kind = 7
        · have hstr : y.strs = y.texts := by simp [Bt.strs, k7]
          obtain ⟨v', w2, happ, hown2, hgr, hfr2⟩ := appendStrs _ _ _ _ _ y.texts hownA hstA (by omega)
          have hk2 : Keeps (fun _ => False) w w2 := hkA.grown hgr fun k hk => Or.inr (hfr k hk)
          have hfr' : ∀ k, v'.ownBlock = some k → w.heap.size ≤ k := by
            intro k hk
            rcases hfr2 with e | ⟨i, e, hi⟩
            · exact hfr k (e ▸ hk)
            · rw [e] at hk
              injection hk with hk
              have := hkA.size
              omega
          rw [← hstr, ← hsuc] at hown2
          have FIN := Lib.hid (And.intro hown2 (And.intro hfr' hk2))
          obtain ⟨ao2, c2', hv2⟩ := slice_form hown2
          subst hv2
          clear hown2 hgr hfr2 hk2 hfr' hfr hkA hnA hownA hsuc hstr hstA hst hown hk hbits hx hn hxb hge kA hown0
          rw [k7] at happ e0
          go_wp2_with (at_builtin; refine Hid.out ?_)
          refine Lib.hid ?_
          refine Lib.wpList_append_run _ rfl _ _ _ _ rfl _ _ rfl rfl _ _ happ ?_
          clear happ
          go_wp2
          go_roundw
          case rel => exact ⟨j + 1, by omega, rfl, FIN.out.1, FIN.out.2.1, FIN.out.2.2⟩
          case measure => simp [intOf]; omega
        · have hstr : y.strs = [] := by simp [Bt.strs, k6, k7]
          rw [hstr, List.append_nil] at hsuc
          have HH := Lib.hid (And.intro hsuc (And.intro hownA (And.intro hkA hfr)))
          clear hsuc hstr hownA hkA hnA hfr hst hstA hown hk hbits hx hn hxb hge kA hown0
          go_wp2
          go_roundw
          case rel => exact ⟨j + 1, by omega, rfl, by rw [HH.out.1]; exact HH.out.2.1, HH.out.2.2.2, HH.out.2.2.1⟩
          case measure => simp [intOf]; omega
    · have hjn' : ¬ (j : Int) < (n : Int) := by omega
      have hjn2 : j = n := by omega
      have htot : textsTo x.bits j = x.bits.flatMap Bt.strs := by
        rw [hjn2, textsTo, List.take_of_length_le (by rw [H.out.2.2.1]; exact Nat.le_refl _)]
      have HH := Lib.hid (And.intro htot hk)
      clear hown hfr hk htot hjn2
      go_wp2
      rw [rounds_succ]
      go_wp2
      go_ret
      rw [← HH.out.1]
      exact ⟨_, _, rfl, HH.out.2⟩

end Go.Proofs.YthhpmeaajgjdeaaDoor
