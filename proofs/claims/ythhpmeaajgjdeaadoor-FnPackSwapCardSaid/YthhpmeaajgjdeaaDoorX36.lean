/- The elements, taken out of the readings. -/
import Derived.Test.YthhpmeaajgjdeaaDoorX34
import Derived.Test.YthhpmeaajgjdeaaDoorX35

set_option linter.unusedVariables false
set_option linter.unusedSimpArgs false

/- Ub: A reading of elements, as this proof's lists. -/
namespace Go.Proofs.YthhpmeaajgjdeaaDoor
open Go Go.RowKit Go.ChangeShapes Go.WideShapes Go.Deep

section
variable {H : Type} {enc : TypeId × Value → H} {W : World} {base : Nat} {held : Bool}

theorem strsOf {fuel : Nat} {v : Value} {x : DataW H × List MemPlace} (h : DataW.trod enc Tryd.prog W base (fun _ => true) held fuel 28 [v] = some x) : ∃ ss, StrsAt W (fun k => W.heap.size ≤ k) v ss := by
  rcases sliceCells Tryd.underlying28 cells9 (by omega) h with ⟨ao, rfl⟩ | ⟨b, o, len, cap, rfl, hb, hc⟩
  · exact ⟨[], Or.inl ⟨ao, rfl, rfl⟩⟩
  · have each : ∀ i, i < len → ∃ s : ByteArray, W.cell? ⟨b, o + i, none⟩ = some (.string s) ∧ s.size ≤ maxLen := by
      intro i hi
      obtain ⟨cs, m, y, hl, hcell, ht⟩ := hc i hi
      obtain ⟨s, rfl, -, hs⟩ := DataW.trod_string Tryd.underlying9 ht
      exact ⟨s, by simpa using hcell 0 (by omega), hs⟩
    obtain ⟨ss, hsl, hss⟩ := list_of len each
    exact ⟨ss, Or.inr ⟨b, o, cap, by rw [hsl], by omega, hss⟩⟩

theorem bitsOf {fuel : Nat} {v : Value} {x : DataW H × List MemPlace} (h : DataW.trod enc Tryd.prog W base (fun _ => true) held fuel 25 [v] = some x) :
    ∃ bits, BitsAt W W.heap.size v bits ∧ ∀ b ∈ bits, -9223372036854775808 ≤ b.num ∧ b.num ≤ 9223372036854775807 := by
  rcases sliceCells Tryd.underlying25 cells39 (by omega) h with ⟨ao, rfl⟩ | ⟨b, o, len, cap, rfl, hb, hc⟩
  · exact ⟨[], Or.inl ⟨ao, rfl, rfl⟩, by simp⟩
  · have each : ∀ i, i < len → ∃ x : Bt, (W.cell? ⟨b, o + i * 5, none⟩ = some (.int .i64 x.kind) ∧ W.cell? ⟨b, o + i * 5 + 1, none⟩ = some (.int .i64 x.num) ∧ W.cell? ⟨b, o + i * 5 + 2, none⟩ = some (.int .i64 x.sec) ∧
        W.cell? ⟨b, o + i * 5 + 3, none⟩ = some (.string x.text) ∧ ∃ tv, W.cell? ⟨b, o + i * 5 + 4, none⟩ = some tv ∧ StrsAt W (fun k => W.heap.size ≤ k) tv x.texts) ∧ -9223372036854775808 ≤ x.num ∧ x.num ≤ 9223372036854775807 := by
      intro i hi
      obtain ⟨cs, m, y, hl, hcell, ht⟩ := hc i hi
      obtain ⟨k, nm, sc, tx, tv, m', y', rfl, hw, hst⟩ := bitCells ht
      obtain ⟨ss, hss⟩ := strsOf hst
      have h0 := hcell 0 (by omega)
      have h1 := hcell 1 (by omega)
      have h2 := hcell 2 (by omega)
      have h3 := hcell 3 (by omega)
      have h4 := hcell 4 (by omega)
      have hwb : -9223372036854775808 ≤ nm ∧ nm ≤ 9223372036854775807 := by
        simp [Lit.wf, IntKind.min, IntKind.max, IntKind.signed, IntKind.bits] at hw
        omega
      exact ⟨⟨k, nm, sc, tx, ss⟩, ⟨h0, h1, h2, h3, tv, h4, hss⟩, hwb⟩
    obtain ⟨bits, hbl, hbits⟩ := list_of len each
    refine ⟨bits, Or.inr ⟨b, o, cap, by rw [hbl], hb, fun j x hj => (hbits j x hj).1⟩, fun x hx => ?_⟩
    obtain ⟨j, hj⟩ := List.mem_iff_getElem?.1 hx
    exact (hbits j x hj).2

theorem elsOf {fuel : Nat} {v : Value} {x : DataW H × List MemPlace} (h : DataW.trod enc Tryd.prog W base (fun _ => true) held fuel 22 [v] = some x) :
    ∃ els, ElsI W W.heap.size v els ∧ ∀ x ∈ els, ∀ b ∈ x.bits, -9223372036854775808 ≤ b.num ∧ b.num ≤ 9223372036854775807 := by
  rcases sliceCells Tryd.underlying22 cells27 (by omega) h with ⟨ao, rfl⟩ | ⟨b, o, len, cap, rfl, hb, hc⟩
  · exact ⟨[], Or.inl ⟨ao, rfl, rfl⟩, by simp⟩
  · have each : ∀ i, i < len → ∃ x : ElI, (W.cell? ⟨b, o + i * 3, none⟩ = some (.int .i64 x.sec) ∧ W.cell? ⟨b, o + i * 3 + 1, none⟩ = some (.int .i64 x.marker) ∧ ∃ bv, W.cell? ⟨b, o + i * 3 + 2, none⟩ = some bv ∧ BitsAt W W.heap.size bv x.bits) ∧
        ∀ b ∈ x.bits, -9223372036854775808 ≤ b.num ∧ b.num ≤ 9223372036854775807 := by
      intro i hi
      obtain ⟨cs, m, y, hl, hcell, ht⟩ := hc i hi
      obtain ⟨sc, mk, bv, m', y', rfl, hbt⟩ := elCells ht
      obtain ⟨bits, hbits, hnum⟩ := bitsOf hbt
      have h0 := hcell 0 (by omega)
      have h1 := hcell 1 (by omega)
      have h2 := hcell 2 (by omega)
      exact ⟨⟨sc, mk, bits⟩, ⟨h0, h1, bv, h2, hbits⟩, hnum⟩
    obtain ⟨els, hel, hels⟩ := list_of len each
    refine ⟨els, Or.inr ⟨b, o, cap, by rw [hel], hb, fun j x hj => (hels j x hj).1⟩, fun x hx => ?_⟩
    obtain ⟨j, hj⟩ := List.mem_iff_getElem?.1 hx
    exact (hels j x hj).2
end

end Go.Proofs.YthhpmeaajgjdeaaDoor
