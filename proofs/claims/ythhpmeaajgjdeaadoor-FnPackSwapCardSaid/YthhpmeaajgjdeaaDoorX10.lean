/- bytes.Buffer's WriteTo into a strings.Builder and into a buffer. -/
import Derived.Test.YthhpmeaajgjdeaaDoorX09
import Derived.Deep.RegionWith

set_option linter.unusedVariables false
set_option linter.unusedSimpArgs false

/- Lc: (*bytes.Buffer).WriteTo, at a builder and at a buffer (printed by writeto.py). -/
namespace Go.Proofs.YthhpmeaajgjdeaaDoor
open Go Go.RowKit


set_option maxHeartbeats 4000000 in
set_option maxRecDepth 10000 in
theorem writeTo_bd (sb q : Nat) (T : TypeId) (R : Nat → Option Value) (v : Value) (l : List UInt8) (b : Nat) (vb : Value) (l0 : List UInt8) (w : World) (hs : Bf w sb q T R v (Lib.byteCells l)) (hd : Bd w b vb (Lib.byteCells l0))
    (hdis : ∀ k, BfS sb v k → ¬ BfS b vb k) (hlim : l0.length + l.length ≤ 140737488355328) :
    Calls Tryd.prog 86 #[.pointer (some ⟨sb, q, none⟩), .iface 91 (.pointer (some ⟨b, 0, none⟩))] w fun e w' => e = .returned (.tuple #[.int .i64 l.length, .nilIface]) ∧
      (∃ v', Bf w' sb q T R v' [] ∧ v'.ownBlock = v.ownBlock) ∧ (∃ vb', Bd w' b vb' (Lib.byteCells (l0 ++ l)) ∧ Fresh w vb vb') ∧ Keeps (fun k => BfS sb v k ∨ BfS b vb k) w w' := by
  have hs1 := hs.setLast 0
  have hk1 : Keeps (fun k => k = sb) w (w.setCell ⟨sb, q + 2, none⟩ (.int .i8 0)) := (Keeps.refl _ _).setCell (by exact Or.inl rfl) _
  obtain ⟨lr, h3, hown, hne⟩ := id hs
  have c2 := h3.c2
  have f2 := h3.f (q + 2)
  clear h3
  have hd1 := hd.keeps hk1 (fun k hk e => hdis sb (Or.inl rfl) (e ▸ hk))
  by_cases hl0 : l = []
  · subst hl0
    go_enter Tryd.func86, Tryd.ntmps86
    go_wp2_with (go_at_call 60; refine (bufLen sb q T R v _ _ hs1).mono ?_; rintro e w1 ⟨rfl, n, rfl⟩; rw [Lib.byteCells_length]; refine Hid.out ?_)
    refine Lib.hid ?_
    generalize hW : (w.setCell ⟨sb, q + 2, none⟩ (.int .i8 0)).drewN n = W1 at *
    have hs2 : Bf W1 sb q T R v (Lib.byteCells []) := by rw [← hW]; exact hs1
    have hd2 : Bd W1 b vb (Lib.byteCells l0) := by rw [← hW]; exact hd1
    have hk2 : Keeps (fun k => k = sb) w W1 := by rw [← hW]; exact hk1.drewN n
    obtain ⟨lr2, g3, gown, gne⟩ := hs2
    clear hW
    go_wp2_with (go_at_call 61; refine (bufReset sb q T R v 0 lr2 _ _ _ g3 gown gne).mono ?_; rintro e w3 ⟨rfl, v', hv1, hv2, hv3⟩; refine Hid.out ?_)
    refine Lib.hid ?_
    go_wp2
    go_ret2
    refine ⟨rfl, ⟨v', hv1, hv2⟩, ⟨vb, ?_, Fresh.refl _ _⟩, (hk2.same hv3).mono fun k _ e => Or.inl (Or.inl e)⟩
    rw [List.append_nil]
    exact hd2.keeps hv3 (fun k hk e => hdis sb (Or.inl rfl) (e ▸ hk))
  · have hpos : l.length ≠ 0 := by simpa using hl0
    have hposi : (0 : Int) < (l.length : Int) := by omega
    have hN63 : (l.length : Int) ≤ 9223372036854775807 := by omega
    rw [Lib.byteCells_length] at hown
    obtain ⟨g, cap, cur, rfl, hg, hnc, hcm, hcs, htake⟩ : ∃ g cap cur, v = .slice (some ⟨g, 0, none⟩) l.length cap ∧ w.heap[g]? = some (.cells cur 5 (0, 0)) ∧ l.length ≤ cap ∧ cap ≤ maxLen ∧ cur.size = cap * 1 ∧ cur.toList.take (l.length * 1) = Lib.byteCells l := by
      rcases hown.2 with ⟨_, hz⟩ | ⟨g, cap, cur, hv, -, r⟩
      · exact absurd hz hpos
      · exact ⟨g, cap, cur, hv, r⟩
    have hcm' : cap ≤ 9223372036854775807 := by simpa [maxLen] using hcm
    have hm : ∀ W : World, (method 291 91 (.pointer (some ⟨b, 0, none⟩)) "Write").run Tryd.prog W = .ok (95, .pointer (some ⟨b, 0, none⟩)) W := fun _ => by kernel_rfl
    have hna : ∀ W : World, (nilAhead 291 91 (.pointer (some ⟨b, 0, none⟩)) "Write").run Tryd.prog W = .ok (some false) W := fun _ => by kernel_rfl
    have hmf : ∀ (fn : Fn) (first cap : Array Value) (w : World), (Instr.makeFunc fn first cap).run Tryd.prog w = .ok (.func fn first cap) w := fun _ _ _ _ => rfl
    have hsrc0 : ∀ j u, (Lib.byteCells l)[j]? = some u → w.cell? ((⟨g, 0, none⟩ : Addr).add j) = some u := hown.cells (g := g) rfl
    have hgsb : g ≠ sb := fun e => hne (by simp [Value.ownBlock, e])
    have hgb : g ≠ b := fun e => hdis g (Or.inr rfl) (Or.inl e)
    clear hg hcs htake cur
    go_enter Tryd.func86, Tryd.ntmps86
    go_wp2_with (go_at_call 60; refine (bufLen sb q T R _ _ _ hs1).mono ?_; rintro e w1 ⟨rfl, n, rfl⟩; rw [Lib.byteCells_length]; refine Hid.out ?_)
    refine Lib.hid ?_
    generalize hW : (w.setCell ⟨sb, q + 2, none⟩ (.int .i8 0)).drewN n = W1 at *
    have hs2 : Bf W1 sb q T R (.slice (some ⟨g, 0, none⟩) l.length cap) (Lib.byteCells l) := by rw [← hW]; exact hs1
    have hd2 : Bd W1 b vb (Lib.byteCells l0) := by rw [← hW]; exact hd1
    have hk2 : Keeps (fun k => k = sb) w W1 := by rw [← hW]; exact hk1.drewN n
    clear hW hs1 hd1 hk1 c2 f2
    obtain ⟨lr2, g3, gown, gne⟩ := id hs2
    have d0 := g3.c0
    have d1 := g3.c1
    have hsrc1 : ∀ j u, (Lib.byteCells l)[j]? = some u → W1.cell? ((⟨g, 0, none⟩ : Addr).add j) = some u := fun j u hj => hk2.cell (hsrc0 j u hj) (by rw [Lib.block_add]; exact hgsb)
    have h1c := Lib.byteCells_one l
    have h1d := Lib.byteCells_one l0
    have hbl := Lib.byteCells_length l
    have hbl0 := Lib.byteCells_length l0
    rw [hbl] at gown
    have H3 := Lib.hid g3
    clear g3
    have hc := bdWrite b vb _ ⟨g, 0, none⟩ l.length cap (Lib.byteCells l) W1.drew hd2 hbl hsrc1 hgb h1c (by rw [hbl0]; exact hlim)
    go_wp2
    go_region_with (
      go_at_call 95
      refine hc.mono ?_
      rintro e w2 ⟨rfl, vb', hp1, hp2, hp3⟩
      clear hc
      have HP := Lib.hid (And.intro hp1 (And.intro hp2 hp3))
      have k3 : LibA.Three w2 sb q T R (.slice (some ⟨g, 0, none⟩) l.length cap) (.int .i64 0) (.int .i8 lr2) := three_keeps (S := BfS b vb) (show LibA.Three W1.drew sb q T R _ _ _ from H3.out) hp3 (hdis sb (Or.inl rfl))
      have e1 := k3.c1
      have e1f := k3.f (q + 1)
      have K3 := Lib.hid k3
      clear k3 hp1 hp2 hp3)
    all_goals (
      go_wp2_with (go_at_call 61; go_loud (refine (bufReset sb q T R (.slice (some ⟨g, 0, none⟩) l.length cap) l.length lr2 l.length (Lib.byteCells l) _ (K3.out.set1 _) (ownsRow_keeps (S := fun k => k = sb) (ownsRow_keeps (S := BfS b vb) (show W1.drew.ownsRow 0 5 1 _ _ _ from gown) HP.out.2.2 (fun k hk => hdis k (Or.inr hk))) ((Keeps.refl _ _).setCell (by exact Or.inl rfl) _) (fun k hk e => gne (e ▸ hk))) gne).mono ?_); rintro e w3 ⟨rfl, v', hv1, hv2, hv3⟩; refine Hid.out ?_)
      refine Lib.hid ?_
      go_wp2
      go_ret2
      obtain ⟨hp1, hp2, hp3⟩ := HP.out
      have hks : Keeps (fun k => k = sb) _ w3 := ((Keeps.refl (fun k => k = sb) _).setCell (p := ⟨sb, q + 1, none⟩) (by exact Or.inl rfl) _).same hv3
      have hne2 : ∀ k, BfS b vb' k → ¬ k = sb := by
        rintro k (hk | hk) e
        · exact hdis sb (Or.inl rfl) (Or.inl (e.symm.trans hk))
        · rcases hp2 with h | ⟨j, h, hj⟩
          · exact hdis sb (Or.inl rfl) (Or.inr (by rw [← h, hk, e]))
          · have hj' : W1.heap.size ≤ j := hj
            rw [hk] at h
            injection h with h
            have := H3.out.lt
            omega
      refine ⟨rfl, ⟨v', hv1, hv2⟩, ⟨vb', ?_, ?_⟩, ?_⟩
      · rw [Lib.byteCells_append]
        exact hp1.keeps hks hne2
      · exact Fresh.trans (Fresh.refl w vb) (show Fresh W1 vb vb' from hp2) hk2.size
      · refine Keeps.trans (S' := fun k => BfS b vb k ∨ k = sb) (hk2.mono fun k _ e => Or.inl (Or.inl e)) ((Keeps.mono (show Keeps (BfS b vb) W1 _ from (Keeps.refl _ W1).drew.same hp3) (fun k _ h => Or.inl h)).same (hks.mono fun k _ h => Or.inr h)) ?_
        rintro k (h | h)
        · exact Or.inl (Or.inr h)
        · exact Or.inl (Or.inl (Or.inl h)))


set_option maxHeartbeats 4000000 in
set_option maxRecDepth 10000 in
theorem writeTo_bf (sb q : Nat) (T : TypeId) (R : Nat → Option Value) (v : Value) (l : List UInt8) (b : Nat) (R2 : Nat → Option Value) (vb : Value) (l0 : List UInt8) (w : World) (hs : Bf w sb q T R v (Lib.byteCells l)) (hd : Bf w b 0 61 R2 vb (Lib.byteCells l0))
    (hdis : ∀ k, BfS sb v k → ¬ BfS b vb k) (hlim : l0.length + l.length ≤ 140737488355328) :
    Calls Tryd.prog 86 #[.pointer (some ⟨sb, q, none⟩), .iface 56 (.pointer (some ⟨b, 0, none⟩))] w fun e w' => e = .returned (.tuple #[.int .i64 l.length, .nilIface]) ∧
      (∃ v', Bf w' sb q T R v' [] ∧ v'.ownBlock = v.ownBlock) ∧ (∃ vb', Bf w' b 0 61 R2 vb' (Lib.byteCells (l0 ++ l)) ∧ Fresh w vb vb') ∧ Keeps (fun k => BfS sb v k ∨ BfS b vb k) w w' := by
  have hs1 := hs.setLast 0
  have hk1 : Keeps (fun k => k = sb) w (w.setCell ⟨sb, q + 2, none⟩ (.int .i8 0)) := (Keeps.refl _ _).setCell (by exact Or.inl rfl) _
  obtain ⟨lr, h3, hown, hne⟩ := id hs
  have c2 := h3.c2
  have f2 := h3.f (q + 2)
  clear h3
  have hd1 := hd.keeps hk1 (fun k hk e => hdis sb (Or.inl rfl) (e ▸ hk))
  by_cases hl0 : l = []
  · subst hl0
    go_enter Tryd.func86, Tryd.ntmps86
    go_wp2_with (go_at_call 60; refine (bufLen sb q T R v _ _ hs1).mono ?_; rintro e w1 ⟨rfl, n, rfl⟩; rw [Lib.byteCells_length]; refine Hid.out ?_)
    refine Lib.hid ?_
    generalize hW : (w.setCell ⟨sb, q + 2, none⟩ (.int .i8 0)).drewN n = W1 at *
    have hs2 : Bf W1 sb q T R v (Lib.byteCells []) := by rw [← hW]; exact hs1
    have hd2 : Bf W1 b 0 61 R2 vb (Lib.byteCells l0) := by rw [← hW]; exact hd1
    have hk2 : Keeps (fun k => k = sb) w W1 := by rw [← hW]; exact hk1.drewN n
    obtain ⟨lr2, g3, gown, gne⟩ := hs2
    clear hW
    go_wp2_with (go_at_call 61; refine (bufReset sb q T R v 0 lr2 _ _ _ g3 gown gne).mono ?_; rintro e w3 ⟨rfl, v', hv1, hv2, hv3⟩; refine Hid.out ?_)
    refine Lib.hid ?_
    go_wp2
    go_ret2
    refine ⟨rfl, ⟨v', hv1, hv2⟩, ⟨vb, ?_, Fresh.refl _ _⟩, (hk2.same hv3).mono fun k _ e => Or.inl (Or.inl e)⟩
    rw [List.append_nil]
    exact hd2.keeps hv3 (fun k hk e => hdis sb (Or.inl rfl) (e ▸ hk))
  · have hpos : l.length ≠ 0 := by simpa using hl0
    have hposi : (0 : Int) < (l.length : Int) := by omega
    have hN63 : (l.length : Int) ≤ 9223372036854775807 := by omega
    rw [Lib.byteCells_length] at hown
    obtain ⟨g, cap, cur, rfl, hg, hnc, hcm, hcs, htake⟩ : ∃ g cap cur, v = .slice (some ⟨g, 0, none⟩) l.length cap ∧ w.heap[g]? = some (.cells cur 5 (0, 0)) ∧ l.length ≤ cap ∧ cap ≤ maxLen ∧ cur.size = cap * 1 ∧ cur.toList.take (l.length * 1) = Lib.byteCells l := by
      rcases hown.2 with ⟨_, hz⟩ | ⟨g, cap, cur, hv, -, r⟩
      · exact absurd hz hpos
      · exact ⟨g, cap, cur, hv, r⟩
    have hcm' : cap ≤ 9223372036854775807 := by simpa [maxLen] using hcm
    have hm : ∀ W : World, (method 291 56 (.pointer (some ⟨b, 0, none⟩)) "Write").run Tryd.prog W = .ok (59, .pointer (some ⟨b, 0, none⟩)) W := fun _ => by kernel_rfl
    have hna : ∀ W : World, (nilAhead 291 56 (.pointer (some ⟨b, 0, none⟩)) "Write").run Tryd.prog W = .ok (some false) W := fun _ => by kernel_rfl
    have hmf : ∀ (fn : Fn) (first cap : Array Value) (w : World), (Instr.makeFunc fn first cap).run Tryd.prog w = .ok (.func fn first cap) w := fun _ _ _ _ => rfl
    have hsrc0 : ∀ j u, (Lib.byteCells l)[j]? = some u → w.cell? ((⟨g, 0, none⟩ : Addr).add j) = some u := hown.cells (g := g) rfl
    have hgsb : g ≠ sb := fun e => hne (by simp [Value.ownBlock, e])
    have hgb : g ≠ b := fun e => hdis g (Or.inr rfl) (Or.inl e)
    clear hg hcs htake cur
    go_enter Tryd.func86, Tryd.ntmps86
    go_wp2_with (go_at_call 60; refine (bufLen sb q T R _ _ _ hs1).mono ?_; rintro e w1 ⟨rfl, n, rfl⟩; rw [Lib.byteCells_length]; refine Hid.out ?_)
    refine Lib.hid ?_
    generalize hW : (w.setCell ⟨sb, q + 2, none⟩ (.int .i8 0)).drewN n = W1 at *
    have hs2 : Bf W1 sb q T R (.slice (some ⟨g, 0, none⟩) l.length cap) (Lib.byteCells l) := by rw [← hW]; exact hs1
    have hd2 : Bf W1 b 0 61 R2 vb (Lib.byteCells l0) := by rw [← hW]; exact hd1
    have hk2 : Keeps (fun k => k = sb) w W1 := by rw [← hW]; exact hk1.drewN n
    clear hW hs1 hd1 hk1 c2 f2
    obtain ⟨lr2, g3, gown, gne⟩ := id hs2
    have d0 := g3.c0
    have d1 := g3.c1
    have hsrc1 : ∀ j u, (Lib.byteCells l)[j]? = some u → W1.cell? ((⟨g, 0, none⟩ : Addr).add j) = some u := fun j u hj => hk2.cell (hsrc0 j u hj) (by rw [Lib.block_add]; exact hgsb)
    have h1c := Lib.byteCells_one l
    have h1d := Lib.byteCells_one l0
    have hbl := Lib.byteCells_length l
    have hbl0 := Lib.byteCells_length l0
    rw [hbl] at gown
    have H3 := Lib.hid g3
    clear g3
    have hc := bufWrite b 0 61 R2 vb _ (Lib.byteCells l) ⟨g, 0, none⟩ l.length cap W1.drew hd2 h1d hbl hpos hgb hsrc1 h1c (by rw [hbl0]; exact hlim)
    go_wp2
    go_region_with (
      go_at_call 59
      refine hc.mono ?_
      rintro e w2 ⟨rfl, vb', hp1, hp2, hp3⟩
      clear hc
      have HP := Lib.hid (And.intro hp1 (And.intro hp2 hp3))
      have k3 : LibA.Three w2 sb q T R (.slice (some ⟨g, 0, none⟩) l.length cap) (.int .i64 0) (.int .i8 lr2) := three_keeps (S := BfS b vb) (show LibA.Three W1.drew sb q T R _ _ _ from H3.out) hp3 (hdis sb (Or.inl rfl))
      have e1 := k3.c1
      have e1f := k3.f (q + 1)
      have K3 := Lib.hid k3
      clear k3 hp1 hp2 hp3)
    all_goals (
      go_wp2_with (go_at_call 61; go_loud (refine (bufReset sb q T R (.slice (some ⟨g, 0, none⟩) l.length cap) l.length lr2 l.length (Lib.byteCells l) _ (K3.out.set1 _) (ownsRow_keeps (S := fun k => k = sb) (ownsRow_keeps (S := BfS b vb) (show W1.drew.ownsRow 0 5 1 _ _ _ from gown) HP.out.2.2 (fun k hk => hdis k (Or.inr hk))) ((Keeps.refl _ _).setCell (by exact Or.inl rfl) _) (fun k hk e => gne (e ▸ hk))) gne).mono ?_); rintro e w3 ⟨rfl, v', hv1, hv2, hv3⟩; refine Hid.out ?_)
      refine Lib.hid ?_
      go_wp2
      go_ret2
      obtain ⟨hp1, hp2, hp3⟩ := HP.out
      have hks : Keeps (fun k => k = sb) _ w3 := ((Keeps.refl (fun k => k = sb) _).setCell (p := ⟨sb, q + 1, none⟩) (by exact Or.inl rfl) _).same hv3
      have hne2 : ∀ k, BfS b vb' k → ¬ k = sb := by
        rintro k (hk | hk) e
        · exact hdis sb (Or.inl rfl) (Or.inl (e.symm.trans hk))
        · rcases hp2 with h | ⟨j, h, hj⟩
          · exact hdis sb (Or.inl rfl) (Or.inr (by rw [← h, hk, e]))
          · have hj' : W1.heap.size ≤ j := hj
            rw [hk] at h
            injection h with h
            have := H3.out.lt
            omega
      refine ⟨rfl, ⟨v', hv1, hv2⟩, ⟨vb', ?_, ?_⟩, ?_⟩
      · rw [Lib.byteCells_append]
        exact hp1.keeps hks hne2
      · exact Fresh.trans (Fresh.refl w vb) (show Fresh W1 vb vb' from hp2) hk2.size
      · refine Keeps.trans (S' := fun k => BfS b vb k ∨ k = sb) (hk2.mono fun k _ e => Or.inl (Or.inl e)) ((Keeps.mono (show Keeps (BfS b vb) W1 _ from (Keeps.refl _ W1).drew.same hp3) (fun k _ h => Or.inl h)).same (hks.mono fun k _ h => Or.inr h)) ?_
        rintro k (h | h)
        · exact Or.inl (Or.inr h)
        · exact Or.inl (Or.inl (Or.inl h)))

end Go.Proofs.YthhpmeaajgjdeaaDoor
