/- strings.Builder: the copy check, Write and String. -/
import Derived.Test.YthhpmeaajgjdeaaDoorX08
import Derived.Lib.Builder
import Derived.Lib.UnsafeStr
import Derived.Laws.Externs

set_option linter.unusedVariables false
set_option linter.unusedSimpArgs false

/- La: A strings.Builder's blocks; copyCheck, Write and String over this program. -/
namespace Go.Proofs.YthhpmeaajgjdeaaDoor
open Go Go.RowKit

/-- A builder in block b: its slice v and what it holds. -/
def Bd (w : World) (b : Nat) (v : Value) (bs : List Value) : Prop :=
  ∃ p, w.heap[b]? = some (.cells #[p, v] 93 (0, 0)) ∧ (p = .pointer none ∨ p = .pointer (some ⟨b, 0, none⟩)) ∧ w.ownsRow 0 5 1 v bs.length bs ∧ v.ownBlock ≠ some b

def BdPut (w : World) (b : Nat) (v : Value) (bs : List Value) (w' : World) : Prop :=
  ∃ v', Bd w' b v' bs ∧ Fresh w v v' ∧ Keeps (BfS b v) w w'

theorem Bd.keeps {S : Nat → Prop} {w w' : World} {b : Nat} {v : Value} {bs : List Value} (h : Bd w b v bs) (hk : Keeps S w w') (hn : ∀ k, BfS b v k → ¬ S k) : Bd w' b v bs := by
  obtain ⟨p, h1, h2, h3, h4⟩ := h
  exact ⟨p, hk.heap h1 (hn b (Or.inl rfl)), h2, ownsRow_keeps h3 hk fun k e => hn k (Or.inr e), h4⟩

theorem builderInfo : (Tryd.prog.info? 93).map (·.size) = some 2 := by kernel_rfl
theorem builderLies : liesAt Tryd.prog Tryd.prog.depth 93 (2 / Tryd.prog.cellsOf 93) 0 93 1 = true := by kernel_rfl

set_option maxHeartbeats 1000000 in
set_option maxRecDepth 100000 in
theorem copyCheck_used (b : Nat) (w : World) (h0 : w.cell? ⟨b, 0, none⟩ = some (.pointer (some ⟨b, 0, none⟩))) :
    Calls Tryd.prog 97 #[.pointer (some ⟨b, 0, none⟩)] w fun e w' => e = .returned (.tuple #[]) ∧ w' = w := by
  obtain ⟨j, hj, _⟩ := Option.map_eq_some_iff.1 builderInfo
  have hN := Lib.run_neq_ptr_same (P := Tryd.prog) w ⟨b, 0, none⟩ Tryd.underlying91 hj
  go_enter Tryd.func97, Tryd.ntmps97
  go_wp2
  go_end0
  exact ⟨rfl, rfl⟩

set_option maxHeartbeats 1000000 in
set_option maxRecDepth 100000 in
theorem copyCheck_fresh (b : Nat) (w : World) (h0 : w.cell? ⟨b, 0, none⟩ = some (.pointer none)) (hsh : w.shape? b = some (93, 2)) (hfz : w.frozen? ⟨b, 0, none⟩ = false) :
    Calls Tryd.prog 97 #[.pointer (some ⟨b, 0, none⟩)] w fun e w' => e = .returned (.tuple #[]) ∧ w' = w.setCell ⟨b, 0, none⟩ (.pointer (some ⟨b, 0, none⟩)) := by
  obtain ⟨j, hj, hjs⟩ := Option.map_eq_some_iff.1 builderInfo
  have hT := Lib.run_to_unsafe (P := Tryd.prog) w ⟨b, 0, none⟩ Tryd.underlying91 Tryd.underlying179 hj (by rw [hjs]; decide) hsh (Nat.zero_lt_succ 1)
  have hF := Lib.run_from_unsafe (P := Tryd.prog) w ⟨b, 0, none⟩ Tryd.underlying179 Tryd.underlying91 hj hsh builderLies
  go_enter Tryd.func97, Tryd.ntmps97
  go_wp2
  rw [run_callFunc_extern Tryd.func98 (by kernel_rfl) (by kernel_rfl) (by kernel_rfl) (e := Extern.AbiNoEscape.same) (by kernel_rfl)]
  rw [Lib.run_noEscape]
  simp only [Result.andThen]
  rw [Oper.upon_value]
  go_wp2
  go_end0
  exact ⟨rfl, rfl⟩

theorem cells_set0 (w : World) (b : Nat) (p v q : Value) (h : w.heap[b]? = some (.cells #[p, v] 93 (0, 0))) : (w.setCell ⟨b, 0, none⟩ q).heap[b]? = some (.cells #[q, v] 93 (0, 0)) := by
  simp [World.setCell, Array.getElem?_modify, h]
theorem cells_set1 (w : World) (b : Nat) (p v q : Value) (h : w.heap[b]? = some (.cells #[p, v] 93 (0, 0))) : (w.setCell ⟨b, 1, none⟩ q).heap[b]? = some (.cells #[p, q] 93 (0, 0)) := by
  simp [World.setCell, Array.getElem?_modify, h]

theorem copyCheck (b : Nat) (v : Value) (bs : List Value) (w : World) (h : Bd w b v bs) :
    Calls Tryd.prog 97 #[.pointer (some ⟨b, 0, none⟩)] w fun e w' => e = .returned (.tuple #[]) ∧ (w'.heap[b]? = some (.cells #[.pointer (some ⟨b, 0, none⟩), v] 93 (0, 0)) ∧ Keeps (fun j => j = b) w w') := by
  obtain ⟨p, h1, h2, h3, h4⟩ := h
  rcases h2 with rfl | rfl
  · refine (copyCheck_fresh b w (by rw [Lib.cell_of_heap h1]; rfl) (by simp [World.shape?, h1]) (Lib.frozen_of_heap h1 0)).mono ?_
    rintro e w' ⟨rfl, rfl⟩
    exact ⟨rfl, cells_set0 w b _ v _ h1, (Keeps.refl (fun j => j = b) _).setCell (p := ⟨b, 0, none⟩) (by exact Or.inl rfl) _⟩
  · refine (copyCheck_used b w (by rw [Lib.cell_of_heap h1]; rfl)).mono ?_
    rintro e w' ⟨rfl, rfl⟩
    exact ⟨rfl, h1, Keeps.refl _ _⟩

set_option maxHeartbeats 2000000 in
set_option maxRecDepth 100000 in
/-- Write of bytes that lie elsewhere. -/
theorem bdWrite (b : Nat) (v : Value) (bs : List Value) (ad : Addr) (m c : Nat) (news : List Value) (w : World) (h : Bd w b v bs)
    (hl : news.length = m) (hnews : ∀ j u, news[j]? = some u → w.cell? (ad.add j) = some u) (hadB : ad.block ≠ b) (h1 : ∀ u ∈ news, u.oneCell' = true) (hlen : bs.length + m ≤ 140737488355328) :
    Calls Tryd.prog 95 #[.pointer (some ⟨b, 0, none⟩), .slice (some ad) m c] w fun e w' => e = .returned (.tuple #[.int .i64 m, .nilIface]) ∧ BdPut w b v (bs ++ news) w' := by
  obtain ⟨i0, hi, hz0, hz1, hz2⟩ := info_parts byteInfo
  obtain ⟨p, hbk0, hp, hown0, hne⟩ := id h
  have hblt := Lib.lt_of_heap hbk0
  go_enter Tryd.func95, Tryd.ntmps95
  go_wp2_with (go_at_call 97; refine (copyCheck b v bs _ h).mono ?_)
  rintro e w1 ⟨rfl, hbk, hk1⟩
  have hown : w1.ownsRow 0 5 1 v bs.length bs := ownsRow_keeps hown0 hk1 fun k hk e => hne (e ▸ hk)
  have hlt : b < w1.heap.size := Lib.lt_of_heap hbk
  have c0 : w1.cell? ⟨b, 0, none⟩ = some (.pointer (some ⟨b, 0, none⟩)) := by rw [Lib.cell_of_heap hbk]; rfl
  have c1 : w1.cell? ⟨b, 1, none⟩ = some v := by rw [Lib.cell_of_heap hbk]; rfl
  have hnews1 : ∀ j u, news[j]? = some u → w1.cell? (ad.add j) = some u := fun j u hj => hk1.cell (hnews j u hj) (by unfold Addr.add; split <;> exact hadB)
  obtain ⟨v', w2, happ, hown', hgrow, hfr⟩ := run_append_fresh (P := Tryd.prog) w1 57 57 5 i0 (.int .u8 0) 1 1 Tryd.underlying57 hi hz0 hz1 hz2 rfl (by decide) v bs.length bs hown ad m c news (by omega) hnews1 h1 (by unfold maxLen; omega) (by omega)
  have hb2 : w2.heap[b]? = some (.cells #[.pointer (some ⟨b, 0, none⟩), v] 93 (0, 0)) := by
    rw [hgrow.block b hlt (fun e => hne e.symm)]
    exact hbk
  have d0 : w2.cell? ⟨b, 0, none⟩ = some (.pointer (some ⟨b, 0, none⟩)) := by rw [Lib.cell_of_heap hb2]; rfl
  have d1 : w2.cell? ⟨b, 1, none⟩ = some v := by rw [Lib.cell_of_heap hb2]; rfl
  have f1 : w2.frozen? ⟨b, 1, none⟩ = false := Lib.frozen_of_heap hb2 1
  have hk2 : Keeps (BfS b v) w w2 := (hk1.mono fun _ _ h => Or.inl h).grown hgrow (fun j hj => Or.inl (Or.inr hj))
  have hne' : v'.ownBlock ≠ some b := by
    rcases hfr with e | ⟨j, e, hj⟩
    · rw [e]; exact hne
    · rw [e]; intro h; injection h with h; omega
  have hfr0 : Fresh w v v' := Fresh.trans (Fresh.refl w v) hfr hk1.size
  have fin : BdPut w b v (bs ++ news) (w2.setCell ⟨b, 1, none⟩ v') := by
    refine ⟨v', ⟨_, cells_set1 w2 b _ v v' hb2, Or.inr rfl, ?_, hne'⟩, hfr0, hk2.setCell (p := ⟨b, 1, none⟩) (by exact Or.inl (Or.inl rfl)) _⟩
    rw [List.length_append, hl]
    exact ownsRow_keeps hown' ((Keeps.refl (fun j => j = b) _).setCell (p := ⟨b, 1, none⟩) (by exact Or.inl rfl) _) fun k hk e => hne' (e ▸ hk)
  obtain ⟨ao, cap, hv'⟩ := slice_form hown'
  subst hv'
  have FIN := Lib.hid fin
  clear fin hfr hfr0 hne' hk2 hgrow hown' hown hbk0
  go_wp2_with (at_builtin; refine Lib.wpList_append_run _ rfl _ _ _ _ rfl _ _ rfl rfl _ _ happ ?_)
  go_wp2
  go_ret2
  exact ⟨rfl, FIN.out⟩

end Go.Proofs.YthhpmeaajgjdeaaDoor

/- Lb: (*strings.Builder).String over this program. -/
namespace Go.Proofs.YthhpmeaajgjdeaaDoor
open Go Go.RowKit

theorem Keeps.freeze {S : Nat → Prop} {a w : World} (h : Keeps S a w) {p : Addr} (hp : S p.block ∨ a.heap.size ≤ p.block) (n : Nat) : Keeps S a (w.freeze p n) := by
  refine h.trans (S' := fun k => k = p.block) ?_ fun j hj => by subst hj; exact hp
  unfold World.freeze
  split
  · exact Keeps.refl _ w
  · exact ⟨rfl, rfl, rfl, by simp, fun k hk hn => by
      simp only [Array.getElem?_modify]
      rw [if_neg (fun e => hn e.symm)]⟩

theorem byteCellsOf : Tryd.prog.cellsOf 5 = 1 := by kernel_rfl

set_option maxHeartbeats 2000000 in
set_option maxRecDepth 100000 in
theorem bdString_some (b : Nat) (v : Value) (l : List UInt8) (w : World) (h : Bd w b v (Lib.byteCells l)) (h0 : l ≠ []) :
    Calls Tryd.prog 35 #[.pointer (some ⟨b, 0, none⟩)] w fun e w' => e = .returned (.string ⟨l.toArray⟩) ∧ Keeps (BfS b v) w w' := by
  obtain ⟨p, hbk, hp, hown, hne⟩ := h
  have hl0 : l.length ≠ 0 := by simpa using h0
  rw [Lib.byteCells_length] at hown
  obtain ⟨g, cap, cur, rfl, hg, hnc, hcm, hcs, htake⟩ : ∃ g cap cur, v = .slice (some ⟨g, 0, none⟩) l.length cap ∧ w.heap[g]? = some (.cells cur 5 (0, 0)) ∧ l.length ≤ cap ∧ cap ≤ maxLen ∧ cur.size = cap * 1 ∧ cur.toList.take (l.length * 1) = Lib.byteCells l := by
    rcases hown.2 with ⟨_, hz⟩ | ⟨g, cap, cur, hv, -, r⟩
    · exact absurd hz hl0
    · exact ⟨g, cap, cur, hv, r⟩
  have c1 : w.drew.cell? ⟨b, 1, none⟩ = some (.slice (some ⟨g, 0, none⟩) l.length cap) := by
    have : w.drew.heap[b]? = some (.cells #[p, .slice (some ⟨g, 0, none⟩) l.length cap] 93 (0, 0)) := hbk
    rw [Lib.cell_of_heap this]; rfl
  have hSD : (Builtin.unsafeSliceData_ #[57] 129 #[.slice (some ⟨g, 0, none⟩) l.length cap]).run Tryd.prog w.drew = .ok (.pointer (some ⟨g, 0, none⟩)) w.drew :=
    Lib.run_unsafeSliceData_row _ _ _ _ _ _ (by omega)
  have hUS : (Builtin.unsafeString_ #[129, 3] 9 #[.pointer (some ⟨g, 0, none⟩), .int .i64 l.length]).run Tryd.prog w.drew = .ok (.string ⟨l.toArray⟩) (w.drew.freeze ⟨g, 0, none⟩ l.length) := by
    refine Lib.run_unsafeString_row w.drew 129 3 9 5 Tryd.underlying129 byteCellsOf g cur.size (by have hg' : w.drew.heap[g]? = some (.cells cur 5 (0, 0)) := hg; simp [World.shape?, hg']) l h0 (by omega) (by unfold maxLen at hcm; omega) ?_
    intro j x hx
    have := hown.cells (g := g) rfl j (.int .u8 x.toNat) (by simp [Lib.byteCells, hx])
    exact this
  have fin : Keeps (BfS b (.slice (some ⟨g, 0, none⟩) l.length cap)) w (w.drew.freeze ⟨g, 0, none⟩ l.length) := (Keeps.refl _ w).drew.freeze (by exact Or.inl (Or.inr rfl)) _
  have FIN := Lib.hid fin
  clear fin
  go_enter Tryd.func35, Tryd.ntmps35
  go_wp2
  go_region
  all_goals (go_wp2; go_ret; exact ⟨rfl, FIN.out⟩)

set_option maxHeartbeats 2000000 in
set_option maxRecDepth 100000 in
theorem bdString_nil (b : Nat) (p : Value) (w : World) (hbk : w.heap[b]? = some (.cells #[p, .slice none 0 0] 93 (0, 0))) :
    Calls Tryd.prog 35 #[.pointer (some ⟨b, 0, none⟩)] w fun e w' => e = .returned (.string ⟨#[]⟩) ∧ Keeps (BfS b (.slice none 0 0)) w w' := by
  have hUS := Lib.run_unsafeString_none (P := Tryd.prog) w.drew 129 3 9 none
  have c1 : w.drew.cell? ⟨b, 1, none⟩ = some (.slice none 0 0) := by
    have : w.drew.heap[b]? = some (.cells #[p, .slice none 0 0] 93 (0, 0)) := hbk
    rw [Lib.cell_of_heap this]; rfl
  have hSD : (Builtin.unsafeSliceData_ #[57] 129 #[.slice none 0 0]).run Tryd.prog w.drew = .ok (.pointer none) w.drew := rfl
  go_enter Tryd.func35, Tryd.ntmps35
  go_wp2
  go_region
  all_goals (go_wp2; go_ret; exact ⟨rfl, (Keeps.refl _ w).drew⟩)

end Go.Proofs.YthhpmeaajgjdeaaDoor
