/- The statement's function answers true. -/
import Derived.Test.YthhpmeaajgjdeaaDoorX33
import Derived.Stop.BytesEq

set_option linter.unusedVariables false
set_option linter.unusedSimpArgs false

/- Tf: The law FnPackSwap: the walk. -/
namespace Go.Proofs.YthhpmeaajgjdeaaDoor
open Go Go.RowKit

theorem plain_of {x : ElI} (h : (x.bits.flatMap Bt.strs).length = 0) : x.el.plain := by
  intro b hb
  have h0 : x.bits.flatMap Bt.strs = [] := List.eq_nil_of_length_eq_zero h
  simp only [List.flatMap_eq_nil_iff] at h0
  exact h0 b hb

theorem short_of {x : ElI} (h : x.OkE) : x.el.Short := fun b hb s hs => (h.bits b hb).sizes s hs

/-- The two changed places. -/
theorem swap_list {α : Type} (l : List α) (i : Nat) (hi : i + 1 < l.length) : (l.set i (l[i + 1]'hi)).set (i + 1) (l[i]'(by omega)) = l.take i ++ l[i + 1]'hi :: l[i]'(by omega) :: l.drop (i + 2) := by
  apply List.ext_getElem?
  intro k
  rw [List.getElem?_set, List.getElem?_set]
  simp only [List.length_set]
  by_cases h1 : i + 1 = k
  · subst h1
    rw [if_pos rfl, if_pos hi, List.getElem?_append_right (by simp; omega)]
    simp [show min i l.length = i by omega]
  · rw [if_neg h1]
    by_cases h2 : i = k
    · subst h2
      rw [if_pos rfl, if_pos (by omega), List.getElem?_append_right (by simp; omega)]
      simp [show min i l.length = i by omega]
    · rw [if_neg h2]
      by_cases h3 : k < i
      · rw [List.getElem?_append_left (by simp; omega), List.getElem?_take, if_pos h3]
      · rw [List.getElem?_append_right (by simp; omega)]
        have e : k - (l.take i).length = (k - i - 2) + 2 := by simp; omega
        rw [e, List.getElem?_cons_succ, List.getElem?_cons_succ, List.getElem?_drop]
        congr 1
        omega
theorem split_list {α : Type} (l : List α) (i : Nat) (hi : i + 1 < l.length) : l = l.take i ++ l[i]'(by omega) :: l[i + 1]'hi :: l.drop (i + 2) := by
  have h1 : l.drop i = l[i]'(by omega) :: l.drop (i + 1) := List.drop_eq_getElem_cons (by omega)
  have h2 : l.drop (i + 1) = l[i + 1]'hi :: l.drop (i + 2) := List.drop_eq_getElem_cons hi
  rw [← h2, ← h1, List.take_append_drop]

theorem fpEq (K : Nat → Int) (ver : Int) (fr : Bool) (els : List El) (w : World) : (Op.equalIn 10000 32 (.agg #[.int .u8 (packFp K ver fr els 0), .int .u8 (packFp K ver fr els 1), .int .u8 (packFp K ver fr els 2), .int .u8 (packFp K ver fr els 3), .int .u8 (packFp K ver fr els 4), .int .u8 (packFp K ver fr els 5), .int .u8 (packFp K ver fr els 6), .int .u8 (packFp K ver fr els 7)]) (.agg #[.int .u8 (packFp K ver fr els 0), .int .u8 (packFp K ver fr els 1), .int .u8 (packFp K ver fr els 2), .int .u8 (packFp K ver fr els 3), .int .u8 (packFp K ver fr els 4), .int .u8 (packFp K ver fr els 5), .int .u8 (packFp K ver fr els 6), .int .u8 (packFp K ver fr els 7)])).run Tryd.prog w = .ok true w := by
  have hsz : ∀ w, (sizeOf 5).run Tryd.prog w = .ok 1 w := fun _ => by kernel_rfl
  have hl := fpOf_length K (packCs ver fr els)
  have h := run_equalIn_bytes (P := Tryd.prog) w 9998 32 5 8 Tryd.underlying32 Tryd.underlying5 hsz (fpOf K (packCs ver fr els)) (fpOf K (packCs ver fr els)) hl hl
  have e : ((fpOf K (packCs ver fr els)).map Extern.Stop.cell).toArray = (Lib.byteCells (fpOf K (packCs ver fr els))).toArray := rfl
  rw [e, list8 _ hl, beq_self_eq_true] at h
  exact h

set_option maxHeartbeats 4000000 in
set_option maxRecDepth 10000 in
theorem swapWalk (B : Nat) (ver : Int) (fr : Bool) (v : Value) (els : List ElI) (at_ : Int) (w : World) (h : ElsI w B v els) (hB : B ≤ w.heap.size) (hnum : ∀ x ∈ els, ∀ b ∈ x.bits, -9223372036854775808 ≤ b.num ∧ b.num ≤ 9223372036854775807) (hat : at_ ≤ 9223372036854775807)
    (K : Nat → Int) (hK : Gl w K) (h7 : 7 < w.heap.size) :
    Calls Tryd.prog 3 #[.int .i64 ver, .bool fr, v, .int .i64 at_] w fun e w' => e = .returned (.bool true) ∧ Keeps (fun _ => False) w w' := by
  obtain ⟨ao, c, rfl⟩ := h.form
  obtain ⟨n, hn⟩ : ∃ n, n = els.length := ⟨_, rfl⟩
  rw [← hn] at h ⊢
  have H4 := Lib.hid (zz1 B _ els w h hB)
  have H := Lib.hid (And.intro h (And.intro hn (And.intro hnum hK)))
  clear h hn hnum hK
  go_enter Tryd.func3, Tryd.ntmps3
  go_wp2_with (go_at_call 4; refine H4.out.mono ?_; rintro e w1 ⟨r, rfl, hr, hk1⟩; refine Hid.out ?_)
  refine Lib.hid ?_
  have HR1 := Lib.hid (And.intro hr hk1)
  clear hr hk1 H4
  cases r
  · go_wp2
    go_ret
    exact ⟨rfl, HR1.out.2⟩
  · have h1 := HR1.out.1 (by trivial)
    obtain ⟨h, hn, hnum, hK⟩ := H.out
    have hk1 := HR1.out.2
    have H5 := Lib.hid (packOk B ver fr (.slice ao n c) els w1 (h.keeps (hk1.mono fun _ _ h => h.elim)) (by have := hk1.size; omega) h1.1 h1.2)
    have hn31 : (n : Int) ≤ 2147483647 := by have := h1.1; omega
    clear h1 h hn hnum hK hk1
    go_wp2_with (go_at_call 5; refine H5.out.mono ?_; rintro e w2 ⟨r, rfl, hr, hk2⟩; refine Hid.out ?_)
    refine Lib.hid ?_
    have HR2 := Lib.hid (And.intro hr (HR1.out.2.same hk2))
    clear hr hk2 H5
    cases r
    · go_wp2
      go_ret
      exact ⟨rfl, HR2.out.2⟩
    · by_cases ha0 : at_ < 0
      · go_wp2
        go_ret
        exact ⟨rfl, HR2.out.2⟩
      · by_cases ha1 : (n : Int) - 1 ≤ at_
        · go_wp2
          go_ret
          exact ⟨rfl, HR2.out.2⟩
        · obtain ⟨a, rfl⟩ : ∃ a : Nat, at_ = a := ⟨at_.toNat, by omega⟩
          have han : a + 1 < n := by omega
          go_upto_region 5 with fail
          obtain ⟨h, hn, hnum, hK⟩ := H.out
          have h2 := h.keeps (HR2.out.2.mono fun _ _ h => h.elim)
          obtain ⟨ea, hge0⟩ : ∃ ea, els[a]? = some ea := ⟨_, List.getElem?_eq_getElem (show a < els.length by omega)⟩
          obtain ⟨eb, hge1⟩ : ∃ eb, els[a + 1]? = some eb := ⟨_, List.getElem?_eq_getElem (show a + 1 < els.length by omega)⟩
          obtain ⟨b, o, rfl, hbB, c0, c1, abv, c2, abits⟩ := h2.get hge0
          obtain ⟨b', o', e, -, d0, d1, bbv, d2, bbits⟩ := h2.get hge1
          cases e
          obtain ⟨aao, ac, rfl⟩ := abits.form
          obtain ⟨bao, bc, rfl⟩ := bbits.form
          obtain ⟨an, han'⟩ : ∃ an, an = ea.bits.length := ⟨_, rfl⟩
          obtain ⟨bn, hbn'⟩ : ∃ bn, bn = eb.bits.length := ⟨_, rfl⟩
          rw [← han'] at c2 abits
          rw [← hbn'] at d2 bbits
          have HX := Lib.hid (And.intro hge0 (And.intro hge1 (And.intro abits (And.intro bbits (And.intro h2 (And.intro han' hbn'))))))
          clear h hn hnum hK h2 hge0 hge1 abits bbits han' hbn'
          go_cut [9, 10] from 33 to 41 (fun u9 u10 wx => ∃ p q : Nat, u9 = .pointer (some ⟨p, 0, none⟩) ∧ u10 = .pointer (some ⟨q, 0, none⟩) ∧ wx.heap[p]? = some (.cells #[.int .i64 ea.sec, .int .i64 ea.marker, .slice aao an ac] 27 (0, 0)) ∧ wx.heap[q]? = some (.cells #[.int .i64 eb.sec, .int .i64 eb.marker, .slice bao bn bc] 27 (0, 0)) ∧ w2.heap.size ≤ p ∧ w2.heap.size ≤ q ∧ Keeps (fun _ => False) w2 wx)
          case first =>
            have han0 : a < n := by omega
            have c0B := fun (O O' : Obj) => ((((Keeps.refl (fun _ => False) w2).alloc O).alloc O').drew).cell c0 fun h => h
            have c1B := fun (O O' : Obj) => ((((Keeps.refl (fun _ => False) w2).alloc O).alloc O').drew).cell c1 fun h => h
            have c2B := fun (O O' : Obj) => ((((Keeps.refl (fun _ => False) w2).alloc O).alloc O').drew).cell c2 fun h => h
            have d0B := fun (O O' : Obj) => ((((Keeps.refl (fun _ => False) w2).alloc O).alloc O').drew).cell d0 fun h => h
            have d1B := fun (O O' : Obj) => ((((Keeps.refl (fun _ => False) w2).alloc O).alloc O').drew).cell d1 fun h => h
            have d2B := fun (O O' : Obj) => ((((Keeps.refl (fun _ => False) w2).alloc O).alloc O').drew).cell d2 fun h => h
            have c0A := fun (O : Obj) => (((Keeps.refl (fun _ => False) w2).alloc O).drew).cell c0 fun h => h
            have c1A := fun (O : Obj) => (((Keeps.refl (fun _ => False) w2).alloc O).drew).cell c1 fun h => h
            have c2A := fun (O : Obj) => (((Keeps.refl (fun _ => False) w2).alloc O).drew).cell c2 fun h => h
            have d0A := fun (O : Obj) => (((Keeps.refl (fun _ => False) w2).alloc O).drew).cell d0 fun h => h
            have d1A := fun (O : Obj) => (((Keeps.refl (fun _ => False) w2).alloc O).drew).cell d1 fun h => h
            have d2A := fun (O : Obj) => (((Keeps.refl (fun _ => False) w2).alloc O).drew).cell d2 fun h => h
            go_region
            all_goals go_wp2_with fail
            all_goals go_meet
            · exact ⟨_, _, rfl, rfl, heap_alloc2_old w2 _ _, heap_alloc2_new w2 _ _, Nat.le_refl _, by omega, (((Keeps.refl _ w2).alloc _).alloc _).drew⟩
            · exact ⟨_, _, rfl, rfl, heap_alloc2_new w2 _ _, heap_alloc2_old w2 _ _, by omega, Nat.le_refl _, (((Keeps.refl _ w2).alloc _).alloc _).drew⟩
          case rest =>
            obtain ⟨p, q, rfl, rfl, hp, hq, hps, hqs, hk3⟩ := hcut
            clear c0 c1 c2 d0 d1 d2
            have e0 : wc.cell? ⟨p, 0, none⟩ = some (.int .i64 ea.sec) := by rw [Lib.cell_of_heap hp]; rfl
            have e1 : wc.cell? ⟨p, 1, none⟩ = some (.int .i64 ea.marker) := by rw [Lib.cell_of_heap hp]; rfl
            have e2 : wc.cell? ⟨p, 2, none⟩ = some (.slice aao an ac) := by rw [Lib.cell_of_heap hp]; rfl
            have f0 : wc.cell? ⟨q, 0, none⟩ = some (.int .i64 eb.sec) := by rw [Lib.cell_of_heap hq]; rfl
            have HP := Lib.hid (And.intro hp (And.intro hq hk3))
            clear hp hq hk3
            go_upto_region 6 with fail
            go_cut [60] from 42 to 60 (fun u60 wx => ∃ r, u60 = .bool r ∧ (r = false → ¬ ea.sec = eb.sec ∧ (ea.el.plain ∨ eb.el.plain)) ∧ Keeps (fun _ => False) wc wx)
            case first =>
              by_cases hse : ea.sec = eb.sec
              · go_wp2
                go_meet
                exact ⟨true, rfl, by simp, Keeps.refl _ _⟩
              · have hseb : (ea.sec == eb.sec) = false := by simpa using hse
                have HSE := Lib.hid hse
                clear hse
                obtain ⟨hge0, hge1, abits, bbits, h2, han', hbn'⟩ := HX.out
                have hoks := (HR2.out.1 (by trivial)).2.2.2
                have hea := hoks ea (List.mem_of_getElem? hge0)
                have heb := hoks eb (List.mem_of_getElem? hge1)
                have hk3 := HP.out.2.2
                have kA := (Keeps.refl (fun _ => False) wc).alloc (.cells #[.int .i64 ea.sec, .int .i64 ea.marker, .slice aao an ac] 27)
                have hnA := heap_alloc_new wc (.cells #[.int .i64 ea.sec, .int .i64 ea.marker, .slice aao an ac] 27)
                have hwB : B ≤ wc.heap.size := by have := HR2.out.2.size; have := hk3.size; omega
                have hA : ElsI (wc.alloc (.cells #[.int .i64 ea.sec, .int .i64 ea.marker, .slice aao an ac] 27)) (wc.heap.size + 1) (.slice (some ⟨wc.heap.size, 0, none⟩) 1 1) [ea] := by
                  refine Or.inr ⟨wc.heap.size, 0, 1, rfl, by omega, fun j x hj => ?_⟩
                  match j, hj with
                  | 0, hj =>
                    cases hj
                    refine ⟨by rw [Lib.cell_of_heap hnA]; rfl, by rw [Lib.cell_of_heap hnA]; rfl, _, by rw [Lib.cell_of_heap hnA]; rfl, ?_⟩
                    exact ((abits.keeps (hk3.mono fun _ _ h => h.elim)).keeps (kA.mono fun _ _ h => h.elim)).mono (by omega)
                have hT := textsOf _ _ _ _ ea _ hA hea
                obtain ⟨n1, hn1e⟩ : ∃ n1, n1 = (ea.bits.flatMap Bt.strs).length := ⟨_, rfl⟩
                rw [← hn1e] at hT
                have HT := Lib.hid hT
                have HPL : Hid (n1 = 0 → ea.el.plain) := Lib.hid fun h => plain_of (by rw [← hn1e]; exact h)
                clear hT hn1e
                have HK := Lib.hid kA
                clear hge0 hge1 abits bbits h2 han' hbn' hoks hea heb hk3 kA hnA hA
                go_wp2_with (go_at_call 6; refine HT.out.mono ?_; rintro e w4 ⟨tao, tc, rfl, hk4⟩; refine Hid.out ?_)
                refine Lib.hid ?_
                have hk4' := HK.out.same hk4
                by_cases hn1 : n1 = 0
                · have hlt : ¬ (0 : Int) < (n1 : Int) := by omega
                  have HK4 := Lib.hid hk4'
                  have HN1 := Lib.hid hn1
                  clear hk4 hk4' HT hn1
                  go_wp2
                  go_meet
                  exact ⟨false, rfl, fun _ => ⟨HSE.out, Or.inl (HPL.out HN1.out)⟩, HK4.out⟩
                · have hlt : (0 : Int) < (n1 : Int) := by omega
                  obtain ⟨hge0, hge1, abits, bbits, h2, han', hbn'⟩ := HX.out
                  have heb := (HR2.out.1 (by trivial)).2.2.2 eb (List.mem_of_getElem? hge1)
                  obtain ⟨hp, hq, hk3⟩ := HP.out
                  have hq4 := hk4'.heap hq fun h => h
                  have g0 : w4.cell? ⟨q, 0, none⟩ = some (.int .i64 eb.sec) := by rw [Lib.cell_of_heap hq4]; rfl
                  have g1 : w4.cell? ⟨q, 1, none⟩ = some (.int .i64 eb.marker) := by rw [Lib.cell_of_heap hq4]; rfl
                  have g2 : w4.cell? ⟨q, 2, none⟩ = some (.slice bao bn bc) := by rw [Lib.cell_of_heap hq4]; rfl
                  have kA := (Keeps.refl (fun _ => False) w4).alloc (.cells #[.int .i64 eb.sec, .int .i64 eb.marker, .slice bao bn bc] 27)
                  have hnA := heap_alloc_new w4 (.cells #[.int .i64 eb.sec, .int .i64 eb.marker, .slice bao bn bc] 27)
                  have hwB4 : B ≤ w4.heap.size := by have := hk4'.size; omega
                  have hA : ElsI (w4.alloc (.cells #[.int .i64 eb.sec, .int .i64 eb.marker, .slice bao bn bc] 27)) (w4.heap.size + 1) (.slice (some ⟨w4.heap.size, 0, none⟩) 1 1) [eb] := by
                    refine Or.inr ⟨w4.heap.size, 0, 1, rfl, by omega, fun j x hj => ?_⟩
                    match j, hj with
                    | 0, hj =>
                      cases hj
                      refine ⟨by rw [Lib.cell_of_heap hnA]; rfl, by rw [Lib.cell_of_heap hnA]; rfl, _, by rw [Lib.cell_of_heap hnA]; rfl, ?_⟩
                      exact ((bbits.keeps ((hk3.same hk4').mono fun _ _ h => h.elim)).keeps (kA.mono fun _ _ h => h.elim)).mono (by omega)
                  have hT := textsOf _ _ _ _ eb _ hA heb
                  obtain ⟨n2, hn2e⟩ : ∃ n2, n2 = (eb.bits.flatMap Bt.strs).length := ⟨_, rfl⟩
                  rw [← hn2e] at hT
                  have HT2 := Lib.hid hT
                  have HPL2 : Hid (n2 = 0 → eb.el.plain) := Lib.hid fun h => plain_of (by rw [← hn2e]; exact h)
                  clear hT hn2e
                  have HK2 := Lib.hid (hk4'.same kA)
                  clear hge0 hge1 abits bbits h2 han' hbn' heb hk3 kA hnA hA hp hq hq4 hk4 hk4' HT hn1
                  go_wp2_with (go_at_call 6; refine HT2.out.mono ?_; rintro e w5 ⟨tao2, tc2, rfl, hk5⟩; refine Hid.out ?_)
                  refine Lib.hid ?_
                  have hk5' := HK2.out.same hk5
                  have HK5 := Lib.hid hk5'
                  clear hk5 hk5' HT2 HK2 g0 g1 g2
                  by_cases hn2 : n2 = 0
                  · have hlt2 : ¬ (0 : Int) < (n2 : Int) := by omega
                    have HN2 := Lib.hid hn2
                    clear hn2
                    go_wp2
                    go_meet
                    exact ⟨false, by rw [decide_eq_false (by have := HN2.out; omega)], fun _ => ⟨HSE.out, Or.inr (HPL2.out HN2.out)⟩, HK5.out⟩
                  · have hlt2 : (0 : Int) < (n2 : Int) := by omega
                    clear hn2
                    go_wp2
                    go_meet
                    exact ⟨true, by rw [decide_eq_true (by omega)], by simp, HK5.out⟩
            case rest =>
              obtain ⟨r, rfl, hr, hk4⟩ := hcut
              have HK4 := Lib.hid (And.intro hr hk4)
              clear hr hk4 e0 e1 e2 f0
              cases r
              · obtain ⟨hpl, hk4⟩ := HK4.out
                obtain ⟨hse, hpl⟩ := hpl rfl
                obtain ⟨hp, hq, hk3⟩ := HP.out
                obtain ⟨hge0, hge1, abits, bbits, h2, han', hbn'⟩ := HX.out
                have hp4 := hk4.heap hp fun h => h
                have hq4 := hk4.heap hq fun h => h
                have hk24 := hk3.same hk4
                have hkw4 := HR2.out.2.same hk24
                have h4 := h2.keeps (hk24.mono fun _ _ h => h.elim)
                have abits4 := abits.keeps (hk24.mono fun _ _ h => h.elim)
                have bbits4 := bbits.keeps (hk24.mono fun _ _ h => h.elim)
                have kE := (Keeps.refl (fun _ => False) wc).alloc (.cells #[] 27)
                have hnE := heap_alloc_new wc (.cells #[] 27)
                have hn60 : n ≤ 60 := by have := (HR2.out.1 (by trivial)).2.2.1; have := H.out.2.1; omega
                have hBd : B ≤ wc.heap.size := by have := hkw4.size; omega
                obtain ⟨g, c', w5, happ, hG, hBg, hnc, hk5⟩ := copyEls (wc.alloc (.cells #[] 27)) B b o n c wc.heap.size els (h4.keeps (kE.mono fun _ _ h => h.elim)) H.out.2.1.symm hn60 (by omega) hnE hBd
                have hkw5 : Keeps (fun _ => False) w w5 := (hkw4.same kE).trans hk5 fun j hj => Or.inr (by have := hkw4.size; omega)
                have hpl4 := Lib.lt_of_heap hp4
                have hql4 := Lib.lt_of_heap hq4
                have hpg : ¬ p = g := by omega
                have hqg : ¬ q = g := by omega
                have hBg : B ≤ g := by omega
                have hgw : w.heap.size ≤ g := by have := hkw4.size; omega
                have HGW := Lib.hid hgw
                clear hgw
                have hp5 := hk5.heap (kE.heap hp4 fun h => h) (by omega)
                have hq5 := hk5.heap (kE.heap hq4 fun h => h) (by omega)
                have kEB : Keeps (fun j => B ≤ j) wc w5 := (kE.mono fun _ _ h => h.elim).same (hk5.mono fun j _ e => by omega)
                have abits5 := abits4.keeps kEB
                have bbits5 := bbits4.keeps kEB
                obtain ⟨ra0, ra1, rbv0, ra2, -⟩ := hG.at_ a ea hge0
                obtain ⟨rb0, rb1, rbv1, rb2, -⟩ := hG.at_ (a + 1) eb hge1
                obtain ⟨rcs, hrow⟩ := hG.row
                have hgl := Lib.lt_of_heap hrow
                have HG := Lib.hid (And.intro hG (And.intro hBg (And.intro hkw5 (And.intro abits5 (And.intro bbits5 (And.intro hse (And.intro hpl (And.intro hp5 (And.intro hq5 hrow)))))))))
                clear hk4 hse hpl hp hq hk3 hge0 hge1 abits bbits h2 han' hbn' hp4 hq4 hk24 hkw4 h4 abits4 bbits4 kE hnE hk5 hkw5 kEB abits5 bbits5 hG hBg hp5 hq5 hrow ra0 ra1 ra2 rb0 rb1 rb2
                go_wp2_with (at_builtin; refine Hid.out ?_)
                refine Lib.hid ?_
                refine Lib.wpList_append_run _ rfl _ _ _ _ rfl _ _ rfl rfl _ _ happ ?_
                clear happ
                go_upto_region 9 with fail
                go_cut [] from 64 to 72 (fun wx => ElsG wx B g n ((els.set a eb).set (a + 1) ea) ∧ Keeps (fun _ => False) w wx)
                case first =>
                  obtain ⟨hG, hBg, hkw5, abits5, bbits5, hse, hpl, hp5, hq5, hrow⟩ := HG.out
                  obtain ⟨hge0, hge1, abits, bbits, h2, han', hbn'⟩ := HX.out
                  obtain ⟨ra0, ra1, rbv0, ra2, -⟩ := hG.at_ a ea hge0
                  obtain ⟨rb0, rb1, rbv1, rb2, -⟩ := hG.at_ (a + 1) eb hge1
                  have lp0 : w5.cell? ⟨p, 0, none⟩ = some (.int .i64 ea.sec) := by rw [Lib.cell_of_heap hp5]; rfl
                  have lp1 : w5.cell? ⟨p, 1, none⟩ = some (.int .i64 ea.marker) := by rw [Lib.cell_of_heap hp5]; rfl
                  have lp2 : w5.cell? ⟨p, 2, none⟩ = some (.slice aao an ac) := by rw [Lib.cell_of_heap hp5]; rfl
                  have lq0 : w5.cell? ⟨q, 0, none⟩ = some (.int .i64 eb.sec) := by rw [Lib.cell_of_heap hq5]; rfl
                  have lq1 : w5.cell? ⟨q, 1, none⟩ = some (.int .i64 eb.marker) := by rw [Lib.cell_of_heap hq5]; rfl
                  have lq2 : w5.cell? ⟨q, 2, none⟩ = some (.slice bao bn bc) := by rw [Lib.cell_of_heap hq5]; rfl
                  have fr0 := Lib.frozen_of_heap hrow (a * 3)
                  have fr1 := Lib.frozen_of_heap hrow (a * 3 + 1)
                  have fr2 := Lib.frozen_of_heap hrow (a * 3 + 2)
                  have fs0 := Lib.frozen_of_heap hrow ((a + 1) * 3)
                  have fs1 := Lib.frozen_of_heap hrow ((a + 1) * 3 + 1)
                  have fs2 := Lib.frozen_of_heap hrow ((a + 1) * 3 + 2)
                  have han0 : a < n := by omega
                  have kx : Keeps (fun k => k = g) w5 ((((w5.setCell ⟨g, a * 3, none⟩ (.int .i64 eb.sec)).setCell ⟨g, a * 3 + 1, none⟩ (.int .i64 eb.marker)).setCell ⟨g, a * 3 + 2, none⟩ (.slice bao bn bc)).drew) := ((((Keeps.refl (fun k => k = g) w5).setCell (p := ⟨g, a * 3, none⟩) (by exact Or.inl rfl) (.int .i64 eb.sec)).setCell (p := ⟨g, a * 3 + 1, none⟩) (by exact Or.inl rfl) (.int .i64 eb.marker)).setCell (p := ⟨g, a * 3 + 2, none⟩) (by exact Or.inl rfl) (.slice bao bn bc)).drew
                  have lp0x := kx.cell lp0 hpg
                  have lp1x := kx.cell lp1 hpg
                  have lp2x := kx.cell lp2 hpg
                  have lq0x := kx.cell lq0 hqg
                  have lq1x := kx.cell lq1 hqg
                  have lq2x := kx.cell lq2 hqg
                  have ky : Keeps (fun k => k = g) w5 ((((w5.setCell ⟨g, (a + 1) * 3, none⟩ (.int .i64 ea.sec)).setCell ⟨g, (a + 1) * 3 + 1, none⟩ (.int .i64 ea.marker)).setCell ⟨g, (a + 1) * 3 + 2, none⟩ (.slice aao an ac)).drew) := ((((Keeps.refl (fun k => k = g) w5).setCell (p := ⟨g, (a + 1) * 3, none⟩) (by exact Or.inl rfl) (.int .i64 ea.sec)).setCell (p := ⟨g, (a + 1) * 3 + 1, none⟩) (by exact Or.inl rfl) (.int .i64 ea.marker)).setCell (p := ⟨g, (a + 1) * 3 + 2, none⟩) (by exact Or.inl rfl) (.slice aao an ac)).drew
                  have lp0y := ky.cell lp0 hpg
                  have lp1y := ky.cell lp1 hpg
                  have lp2y := ky.cell lp2 hpg
                  have lq0y := ky.cell lq0 hqg
                  have lq1y := ky.cell lq1 hqg
                  have lq2y := ky.cell lq2 hqg
                  clear kx ky hG hBg hkw5 abits5 bbits5 hse hpl hp5 hq5 hrow hge0 hge1 abits bbits h2 han' hbn'
                  go_region
                  go_wp2_with fail
                  go_meet
                  obtain ⟨hG, hBg, hkw5, abits5, bbits5, hse, hpl, hp5, hq5, hrow⟩ := HG.out
                  obtain ⟨hge0, hge1, abits, bbits, h2, han', hbn'⟩ := HX.out
                  have hgw := HGW.out
                  have s1 := hG.store hBg han0 eb (.slice bao bn bc) bbits5
                  have k1 : Keeps (fun k => k = g) w5 (((w5.setCell ⟨g, a * 3, none⟩ (.int .i64 eb.sec)).setCell ⟨g, a * 3 + 1, none⟩ (.int .i64 eb.marker)).setCell ⟨g, a * 3 + 2, none⟩ (.slice bao bn bc)) :=
                    (((Keeps.refl (fun k => k = g) w5).setCell (p := ⟨g, a * 3, none⟩) (by exact Or.inl rfl) (.int .i64 eb.sec)).setCell (p := ⟨g, a * 3 + 1, none⟩) (by exact Or.inl rfl) (.int .i64 eb.marker)).setCell (p := ⟨g, a * 3 + 2, none⟩) (by exact Or.inl rfl) (.slice bao bn bc)
                  have s2 := s1.store hBg han ea (.slice aao an ac) (abits5.keeps (k1.mono fun k _ e => by omega))
                  have k2 : Keeps (fun _ => False) w _ := (((((hkw5.trans k1 fun j hj => Or.inr (by omega)).setCell (p := ⟨g, (a + 1) * 3, none⟩) (by exact Or.inr hgw) (.int .i64 ea.sec)).setCell (p := ⟨g, (a + 1) * 3 + 1, none⟩) (by exact Or.inr hgw) (.int .i64 ea.marker)).setCell (p := ⟨g, (a + 1) * 3 + 2, none⟩) (by exact Or.inr hgw) (.slice aao an ac)).drew)
                  exact ⟨s2.keeps ((Keeps.refl (fun _ => False) _).drew) (fun h => h) (fun _ h => h.elim), k2⟩
                case rest =>
                  obtain ⟨hG6, hkw6⟩ := hcut
                  obtain ⟨hG, hBg, hkw5, abits5, bbits5, hse, hpl, -, -, -⟩ := HG.out
                  obtain ⟨hge0, hge1, -, -, -, -, -⟩ := HX.out
                  obtain ⟨h, hn, hnum, hK⟩ := H.out
                  obtain ⟨hv0, hv5, h60, hoks⟩ := HR2.out.1 (by trivial)
                  have hea := hoks ea (List.mem_of_getElem? hge0)
                  have heb := hoks eb (List.mem_of_getElem? hge1)
                  have hmem : ∀ x ∈ (els.set a eb).set (a + 1) ea, x ∈ els := by
                    intro x hx
                    rcases List.mem_or_eq_of_mem_set hx with hx | rfl
                    · rcases List.mem_or_eq_of_mem_set hx with hx | rfl
                      · exact hx
                      · exact List.mem_of_getElem? hge1
                    · exact List.mem_of_getElem? hge0
                  have hi : a + 1 < els.length := by omega
                  have hga : els[a]'(by omega) = ea := by rw [List.getElem?_eq_getElem (by omega)] at hge0; exact Option.some.inj hge0
                  have hgb : els[a + 1]'hi = eb := by rw [List.getElem?_eq_getElem hi] at hge1; exact Option.some.inj hge1
                  have hl1 : els.map ElI.el = (els.take a).map ElI.el ++ ea.el :: eb.el :: (els.drop (a + 2)).map ElI.el := by
                    have h := congrArg (List.map ElI.el) (split_list els a hi)
                    rw [hga, hgb, List.map_append, List.map_cons, List.map_cons] at h
                    exact h
                  have hl2 : ((els.set a eb).set (a + 1) ea).map ElI.el = (els.take a).map ElI.el ++ eb.el :: ea.el :: (els.drop (a + 2)).map ElI.el := by
                    have h := swap_list els a hi
                    rw [hga, hgb] at h
                    rw [h]
                    simp
                  have e1 := hea.sec1
                  have e2 := heb.sec1
                  have hpk : packAll (sfOf fr) (els.map ElI.el) = packAll (sfOf fr) (((els.set a eb).set (a + 1) ea).map ElI.el) := by
                    rw [hl1, hl2]
                    exact packAll_swap _ _ _ _ _ (by simp only [ElI.el]; omega) (by simp only [ElI.el]; omega) (by simp only [ElI.el]; omega) hpl
                  have hcs := packCs_swap ver fr hpk
                  have hw6 := hkw6.size
                  have hok1 : ∀ x ∈ els.map ElI.el, x.Ok := by
                    intro x hx
                    obtain ⟨y, hy, rfl⟩ := List.mem_map.1 hx
                    exact (hoks y hy).el (hnum y hy)
                  have hsh1 : ∀ x ∈ els.map ElI.el, x.Short := by
                    intro x hx
                    obtain ⟨y, hy, rfl⟩ := List.mem_map.1 hx
                    exact short_of (hoks y hy)
                  have hok2 : ∀ x ∈ ((els.set a eb).set (a + 1) ea).map ElI.el, x.Ok := by
                    intro x hx
                    obtain ⟨y, hy, rfl⟩ := List.mem_map.1 hx
                    exact (hoks y (hmem y hy)).el (hnum y (hmem y hy))
                  have hsh2 : ∀ x ∈ ((els.set a eb).set (a + 1) ea).map ElI.el, x.Short := by
                    intro x hx
                    obtain ⟨y, hy, rfl⟩ := List.mem_map.1 hx
                    exact short_of (hoks y (hmem y hy))
                  have hp1 := packC hv0 hv5 (fr := fr) (((h.keeps (hkw6.mono fun _ _ h => h.elim)).at_ hoks).mono (show B ≤ wc.heap.size by omega)) hok1 hsh1 (by rw [List.length_map]; exact h60) (hK.keeps hkw6 fun _ _ h => h) (by omega)
                  have HP1 := Lib.hid hp1
                  have H6 := Lib.hid (And.intro hG6 (And.intro hkw6 (And.intro hok2 (And.intro hsh2 (And.intro hoks (And.intro hmem (And.intro hcs (And.intro hv0 (And.intro hv5 (And.intro h60 (And.intro hK (And.intro hBg hw6))))))))))))
                  have HDP := Lib.hid (packData_pos K ver fr (els.map ElI.el))
                  clear hG6 hkw6 hG hBg hkw5 abits5 bbits5 hse hpl hge0 hge1 h hn hnum hK hv0 hv5 h60 hoks hea heb hmem hi hga hgb hl1 hl2 e1 e2 hpk hcs hw6 hok1 hsh1 hok2 hsh2 hp1
                  go_wp2_with (go_at_call 7; refine HP1.out.mono ?_; rintro e w7 ⟨⟨iao, ni, ic, tao, nt, tc, rfl⟩, hk7⟩; refine Hid.out ?_)
                  refine Lib.hid ?_
                  obtain ⟨hG6, hkw6, hok2, hsh2, hoks, hmem, hcs, hv0, hv5, h60, hK, hBg, hw6⟩ := H6.out
                  obtain ⟨rcs6, hrow6⟩ := hG6.row
                  have hglt := Lib.lt_of_heap hrow6
                  have hs7 := hk7.size
                  have hE7 := (hG6.keeps hk7 (fun h => h) (fun _ h => h.elim)).els (c := c') (B' := w7.heap.size) (by omega) (by omega)
                  have hp2 := packC hv0 hv5 (fr := fr) (hE7.at_ fun x hx => hoks x (hmem x hx)) hok2 hsh2 (by simp only [List.length_map, List.length_set]; exact h60) (hK.keeps (hkw6.same hk7) fun _ _ h => h) (by omega)
                  have hD : packData K ver fr (((els.set a eb).set (a + 1) ea).map ElI.el) = packData K ver fr (els.map ElI.el) := by rw [packData, packData, hcs]
                  have hF : packFp K ver fr (((els.set a eb).set (a + 1) ea).map ElI.el) = packFp K ver fr (els.map ElI.el) := by funext i; rw [packFp, packFp, hcs]
                  rw [hD, hF] at hp2
                  have hpos := HDP.out
                  have hEq := fun W => fpEq K ver fr (els.map ElI.el) W
                  obtain ⟨D, hDe⟩ : ∃ D : ByteArray, D = ⟨(packData K ver fr (els.map ElI.el)).toArray⟩ := ⟨_, rfl⟩
                  have hDs : (0 : Int) < (D.size : Int) := by
                    have : D.size = (packData K ver fr (els.map ElI.el)).length := by rw [hDe]; simp [ByteArray.size]
                    omega
                  rw [← hDe] at hp2 ⊢
                  generalize packFp K ver fr (els.map ElI.el) = F at *
                  have HP2 := Lib.hid hp2
                  have HKW := Lib.hid (hkw6.same hk7)
                  clear hG6 hkw6 hok2 hsh2 hoks hmem hcs hv0 hv5 h60 hK hBg hw6 hrow6 hglt hs7 hE7 hp2 hD hF hpos hDe H6 HP1 HDP hk7
                  go_wp2_with (go_at_call 7; refine HP2.out.mono ?_; rintro e w8 ⟨⟨iao2, ni2, ic2, tao2, nt2, tc2, rfl⟩, hk8⟩; refine Hid.out ?_)
                  refine Lib.hid ?_
                  have kz := ((((Keeps.refl (fun _ => False) w8)).alloc (.cells #[.string D, .slice iao ni ic, .slice tao nt tc, .int .u8 (F 0), .int .u8 (F 1), .int .u8 (F 2), .int .u8 (F 3), .int .u8 (F 4), .int .u8 (F 5), .int .u8 (F 6), .int .u8 (F 7)] 34))).alloc (.cells #[.string D, .slice iao2 ni2 ic2, .slice tao2 nt2 tc2, .int .u8 (F 0), .int .u8 (F 1), .int .u8 (F 2), .int .u8 (F 3), .int .u8 (F 4), .int .u8 (F 5), .int .u8 (F 6), .int .u8 (F 7)] 34)
                  have HKZ := Lib.hid ((HKW.out.same hk8).same kz)
                  clear kz hk8 HP2
                  go_wp2
                  go_ret
                  exact ⟨rfl, HKZ.out⟩
              · go_wp2
                go_ret
                exact ⟨rfl, (HR2.out.2.same HP.out.2.2).same HK4.out.2⟩

end Go.Proofs.YthhpmeaajgjdeaaDoor
