/- The readings of the given arguments, opened. -/
import Derived.Test.YthhpmeaajgjdeaaDoorProg
import Derived.KernelRfl
import Derived.Deep.Slices
import Derived.Deep.Strs
import Derived.ChangeSame

set_option linter.unusedVariables false
set_option linter.unusedSimpArgs false

/- Ua: A reading of elements, opened: what the cells hold. -/
namespace Go.Proofs.YthhpmeaajgjdeaaDoor
open Go Go.ChangeShapes Go.WideShapes Go.Deep

section
variable {H : Type} {enc : TypeId × Value → H} {w : World} {base : Nat} {spare : Nat → Bool} {held : Bool}

theorem list_three {α : Type} {l : List α} (h : l.length = 3) : ∃ a b c, l = [a, b, c] := by
  match l, h with
  | [a, b, c], _ => exact ⟨a, b, c, rfl⟩
theorem list_five {α : Type} {l : List α} (h : l.length = 5) : ∃ a b c d e, l = [a, b, c, d, e] := by
  match l, h with
  | [a, b, c, d, e], _ => exact ⟨a, b, c, d, e, rfl⟩
theorem cells39 : Tryd.prog.cellsOf 39 = 5 := by kernel_rfl
theorem cells27 : Tryd.prog.cellsOf 27 = 3 := by kernel_rfl
theorem cells9 : Tryd.prog.cellsOf 9 = 1 := by kernel_rfl
theorem cells2 : Tryd.prog.cellsOf 2 = 1 := by kernel_rfl
theorem cells25 : Tryd.prog.cellsOf 25 = 1 := by kernel_rfl
theorem cells28 : Tryd.prog.cellsOf 28 = 1 := by kernel_rfl

/-- A bit's five cells. -/
theorem bitCells {fuel : Nat} {cs : List Value} {x : DataW H × List MemPlace} (h : DataW.trod enc Tryd.prog w base spare held fuel 39 cs = some x) :
    ∃ (k nm sc : Int) (tx : ByteArray) (tv : Value) (m : Nat) (y : DataW H × List MemPlace), cs = [.int .i64 k, .int .i64 nm, .int .i64 sc, .string tx, tv] ∧ (Lit.int .i64 nm).wf = true ∧ DataW.trod enc Tryd.prog w base spare held m 28 [tv] = some y := by
  obtain ⟨xs, n, _, hxy, hl, hlen, hf⟩ := DataW.trod_struct Tryd.underlying39 h
  rw [cells39] at hl
  obtain ⟨v0, v1, v2, v3, v4, rfl⟩ := list_five hl
  obtain ⟨y0, y1, y2, y3, y4, rfl⟩ := list_five (l := xs) (by simpa using hlen)
  have g0 := hf 0 _ rfl
  have g1 := hf 1 _ rfl
  have g2 := hf 2 _ rfl
  have g3 := hf 3 _ rfl
  have g4 := hf 4 _ rfl
  simp [cells2, cells9, cells28] at g0 g1 g2 g3 g4
  obtain ⟨k, e0, -, -⟩ := DataW.trod_int Tryd.underlying2 g0
  obtain ⟨nm, e1, -, hw⟩ := DataW.trod_int Tryd.underlying2 g1
  obtain ⟨sc, e2, -, -⟩ := DataW.trod_int Tryd.underlying2 g2
  obtain ⟨tx, e3, -, -⟩ := DataW.trod_string Tryd.underlying9 g3
  simp only [List.cons.injEq, and_true] at e0 e1 e2 e3
  subst e0 e1 e2 e3
  exact ⟨k, nm, sc, tx, v4, n, y4, rfl, hw, g4⟩

/-- An element's three cells. -/
theorem elCells {fuel : Nat} {cs : List Value} {x : DataW H × List MemPlace} (h : DataW.trod enc Tryd.prog w base spare held fuel 27 cs = some x) :
    ∃ (sc mk : Int) (bv : Value) (m : Nat) (y : DataW H × List MemPlace), cs = [.int .i64 sc, .int .i64 mk, bv] ∧ DataW.trod enc Tryd.prog w base spare held m 25 [bv] = some y := by
  obtain ⟨xs, n, _, hxy, hl, hlen, hf⟩ := DataW.trod_struct Tryd.underlying27 h
  rw [cells27] at hl
  obtain ⟨v0, v1, v2, rfl⟩ := list_three hl
  obtain ⟨y0, y1, y2, rfl⟩ := list_three (l := xs) (by simpa using hlen)
  have g0 := hf 0 _ rfl
  have g1 := hf 1 _ rfl
  have g2 := hf 2 _ rfl
  simp [cells2, cells25] at g0 g1 g2
  obtain ⟨sc, e0, -, -⟩ := DataW.trod_int Tryd.underlying2 g0
  obtain ⟨mk, e1, -, -⟩ := DataW.trod_int Tryd.underlying2 g1
  simp only [List.cons.injEq, and_true] at e0 e1
  subst e0 e1
  exact ⟨sc, mk, v2, n, y2, rfl, g2⟩

/-- A slice, wherever it lies: at every place what is read there. -/
theorem sliceCells {t e : TypeId} {E : Nat} (ht : Tryd.prog.underlying t = some (.slice e)) (hE : Tryd.prog.cellsOf e = E) (hE0 : 0 < E) {fuel : Nat} {v : Value} {x : DataW H × List MemPlace} (h : DataW.trod enc Tryd.prog w base (fun _ => true) held fuel t [v] = some x) :
    (∃ ao, v = .slice ao 0 0) ∨ ∃ b o len cap, v = .slice (some ⟨b, o, none⟩) len cap ∧ b < w.heap.size ∧
      ∀ i, i < len → ∃ (cs : List Value) (m : Nat) (y : DataW H × List MemPlace), cs.length = E ∧ (∀ j, j < E → w.cell? ⟨b, o + i * E + j, none⟩ = cs[j]?) ∧ DataW.trod enc Tryd.prog w base (fun _ => true) held m e cs = some y := by
  rcases open_slice ht h with ⟨hv, -⟩ | ⟨a, len, cap, m, n, D, Pl, hv, hb, hl, hm, hmm, -, hx⟩
  · simp only [List.cons.injEq, and_true] at hv
    exact Or.inl ⟨none, hv⟩
  · simp only [List.cons.injEq, and_true] at hv
    subst hv
    simp only [if_true] at hmm
    subst hmm
    by_cases hc : m = 0
    · subst hc
      obtain rfl : len = 0 := by omega
      exact Or.inl ⟨some a, rfl⟩
    · obtain ⟨cs0, h1, -⟩ := hx 0 (by omega)
      rw [hE] at h1
      obtain ⟨-, hl0, hc0⟩ := World.cells?_some h1
      have hcell := hc0 0 hE0
      rw [add_add] at hcell
      simp only [Nat.zero_mul, Nat.add_zero] at hcell
      rw [List.getElem?_eq_getElem (by omega)] at hcell
      obtain ⟨b, o, spot⟩ := a
      have hspot : spot = none := by simpa [Addr.add] using World.cell?_spot hcell
      subst hspot
      have hblt := World.block_lt_of_cell? w _ hcell
      refine Or.inr ⟨b, o, len, m, rfl, by simpa [Addr.add] using hblt, fun i hi => ?_⟩
      obtain ⟨cs, h1, h2⟩ := hx i (by omega)
      rw [hE] at h1
      obtain ⟨-, hlc, hcc⟩ := World.cells?_some h1
      refine ⟨cs, n, _, hlc, fun j hj => ?_, h2⟩
      have := hcc j hj
      rw [add_add] at this
      have e : (⟨b, o, none⟩ : Addr).add (i * E + j) = ⟨b, o + i * E + j, none⟩ := by
        unfold Addr.add
        split
        · rename_i h0
          simp only [Nat.add_assoc]
          rw [h0]
          rfl
        · simp [Nat.add_assoc]
      rw [e] at this
      exact this

theorem list_of {α : Type} {p : Nat → α → Prop} : ∀ n, (∀ i, i < n → ∃ x, p i x) → ∃ l : List α, l.length = n ∧ ∀ i x, l[i]? = some x → p i x
  | 0, _ => ⟨[], rfl, by simp⟩
  | n + 1, h => by
    obtain ⟨l, hl, hp⟩ := list_of n fun i hi => h i (by omega)
    obtain ⟨x, hx⟩ := h n (by omega)
    refine ⟨l ++ [x], by simp [hl], fun i y hy => ?_⟩
    by_cases hi : i < l.length
    · rw [List.getElem?_append_left hi] at hy
      exact hp i y hy
    · have hlt := (List.getElem?_eq_some_iff.1 hy).1
      rw [List.length_append, List.length_singleton] at hlt
      have e : i = l.length := by omega
      subst e
      rw [List.getElem?_append_right (Nat.le_refl _), Nat.sub_self] at hy
      cases hy
      rw [hl]
      exact hx

end
end Go.Proofs.YthhpmeaajgjdeaaDoor
