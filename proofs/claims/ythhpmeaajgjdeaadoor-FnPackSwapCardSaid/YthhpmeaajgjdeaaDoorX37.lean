/- sha256's table of constants, taken out of the readings. -/
import Derived.Test.YthhpmeaajgjdeaaDoorProg
import Derived.KernelRfl
import Derived.RowKit

set_option linter.unusedVariables false
set_option linter.unusedSimpArgs false

/- Uc: sha256's table of constants, out of the world's shape. -/
namespace Go.Proofs.YthhpmeaajgjdeaaDoor
open Go Go.RowKit

set_option maxRecDepth 100000 in
theorem cell40 {W : World} {v : Value} (h : Cell.ok Tryd.prog W .any 0 40 v) : ∃ n, v = .int .u32 n := by
  unfold Cell.ok at h
  simp only [Tryd.underlying40] at h
  cases v <;> simp_all

set_option maxRecDepth 100000 in
theorem shapedK {W : World} (h : W.ShapedOpen Tryd.prog) : ∃ K : Nat → Int, (∀ i, i < 64 → W.cell? ⟨7, i, none⟩ = some (.int .u32 (K i))) ∧ 7 < W.heap.size := by
  obtain ⟨h1, -⟩ := h
  obtain ⟨cs, hb, hs, hok⟩ := h1 7 (Array.replicate 64 (.int .u32 0)) 189 (of_decide_eq_true (by kernel_rfl)) (by kernel_rfl)
  obtain ⟨ts, hts, -, hcell⟩ := hok (by kernel_rfl)
  have hts' : Tryd.prog.cellTypes Tryd.prog.depth 189 = some (List.replicate 64 40) := by kernel_rfl
  rw [hts'] at hts
  cases hts
  have hsz : cs.size = 64 := by rw [hs]; simp
  have hlt : 7 < W.heap.size := (Array.getElem?_eq_some_iff.1 hb).1
  refine ⟨fun i => match cs[i]? with | some (.int _ n) => n | _ => 0, fun i hi => ?_, hlt⟩
  have hv : cs[i]? = some (cs[i]'(by omega)) := Array.getElem?_eq_getElem (by omega)
  obtain ⟨u, hu, hc⟩ := hcell i _ hv
  have hm : i % (List.replicate 64 (40 : TypeId)).length = i := by rw [List.length_replicate, Nat.mod_eq_of_lt hi]
  rw [hm, List.getElem?_replicate, if_pos hi] at hu
  cases hu
  obtain ⟨n, hn⟩ := cell40 hc
  rw [hn] at hv
  have hcell : W.cell? ⟨7, i, none⟩ = cs[i]? := by simp [World.cell?, hb]
  rw [hcell, hv]
  simp only [hv]

end Go.Proofs.YthhpmeaajgjdeaaDoor
