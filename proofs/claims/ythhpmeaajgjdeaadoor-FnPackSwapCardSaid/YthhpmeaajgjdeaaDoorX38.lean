/- Proved: the bytes are the same, whichever of two elements of different sections, one of which has no strings, is written first; for arguments as the given statement's guards let them in. -/
import Derived.Test.YthhpmeaajgjdeaaDoorX36
import Derived.Test.YthhpmeaajgjdeaaDoorX37
import Derived.Test.YthhpmeaajgjdeaaDoorRows
import Derived.WalkKit
import Derived.ProofKit
import Derived.OpenShut
import Derived.Deep.DeepHandedRow
import Derived.Deep.DeepWitnessRowRef
import Derived.Lib.LaidTab
import Derived.Lay
import Derived.LaidSub
import Derived.OpenVars
import Derived.MakeChecks
import Derived.Test.YthhpmeaajgjdeaaDoorCards
import Derived.Test.YthhpmeaajgjdeaaDoorTie

set_option linter.unusedVariables false
set_option linter.unusedSimpArgs false

/- Ud: FnPackSwap: whatever the input, it returns true and leaves what it was given as it was: the row. -/
namespace Go.Proofs.YthhpmeaajgjdeaaDoor
open Go Go.ChangeShapes Go.WideShapes Go.ChangeAt Go.RowKit

theorem own : ownKnob Tryd.prog.godebug = none := by kernel_rfl
theorem gIntroduced : Tryd.prog.globalNamed "loop.example/pub-g01454/pub/pkgbits.introduced" = some 0 := by kernel_rfl
theorem gRemoved : Tryd.prog.globalNamed "loop.example/pub-g01454/pub/pkgbits.removed" = some 1 := by kernel_rfl
theorem gIntroducedType : (Tryd.prog.globals[0]?).map (·.type) = some 137 := by kernel_rfl
theorem gRemovedType : (Tryd.prog.globals[1]?).map (·.type) = some 137 := by kernel_rfl
theorem cells137 : Tryd.prog.cellsOf 137 = 8 := by kernel_rfl
theorem cells41 : Tryd.prog.cellsOf 41 = 1 := by kernel_rfl

/-- What the row's list gives: the two tables' first numbers. -/
theorem tables {W : World} (h : laidMetH Tryd.prog Rows.fnPackSwapRow.laid W) : W.cell? ⟨0, 0, none⟩ = some (.int .u32 1) ∧ W.cell? ⟨1, 0, none⟩ = some (.int .u32 0) := by
  have h1 : laidMetH Tryd.prog [("loop.example/pub-g01454/pub/pkgbits.introduced", Rows.laid_loop_example_pub_g01454_pub_pkgbits_introduced)] W :=
    h.filter fun x => x.1 == "loop.example/pub-g01454/pub/pkgbits.introduced"
  have h2 : laidMetH Tryd.prog [("loop.example/pub-g01454/pub/pkgbits.removed", Rows.laid_loop_example_pub_g01454_pub_pkgbits_removed)] W :=
    h.filter fun x => x.1 == "loop.example/pub-g01454/pub/pkgbits.removed"
  have t1 : Lib.TabIs Tryd.prog W "loop.example/pub-g01454/pub/pkgbits.introduced" .u32 [1, 0, 0, 2, 0, 3, 4, 5] :=
    Lib.tabIs_of_head (rest := []) gIntroduced gIntroducedType Tryd.underlying137 Tryd.underlying41 cells41 cells137 h1
  have t2 : Lib.TabIs Tryd.prog W "loop.example/pub-g01454/pub/pkgbits.removed" .u32 [0, 2, 2, 0, 2, 0, 0, 0] :=
    Lib.tabIs_of_head (rest := []) gRemoved gRemovedType Tryd.underlying137 Tryd.underlying41 cells41 cells137 h2
  exact ⟨t1.cell gIntroduced 0 (by decide), t2.cell gRemoved 0 (by decide)⟩

set_option maxRecDepth 100000 in
theorem contract (H : Type) (enc : TypeId × Value → H) (W : World) (base : Nat) (args : Array Value) (ds gs : List (DataW H)) (before : List MemPlace)
    (hval : ∀ (j : Nat) t v, Tryd.f3.params[j]? = some t → args[j]? = some v → Value.okWide Tryd.prog W .any base t v)
    (hW : DataW.Whole enc Tryd.prog Tryd.f3.params.toList Rows.fnPackSwapSpec.vars false W args.toList ds gs before) (hL : laidMetH Tryd.prog Rows.fnPackSwapRow.laid W) (hsh : W.ShapedOpen Tryd.prog) :
    Calls Tryd.prog 3 args W fun e W' => ∃ v, e = .returned v ∧ Rows.fnPackSwapSpec.post enc Tryd.prog Tryd.f3 false true false false W args v W' := by
  have hW' := hW
  obtain ⟨p, q, hA0, hV, rfl, hfz, hnd⟩ := hW
  have hA : DataW.TrodAll enc Tryd.prog W 0 (fun _ => true) true Tryd.f3.params.toList args.toList ds p := hA0
  rw [Tryd.params3] at hA hval
  obtain ⟨v0, vs0, d0, ds0, p0, q0, hargs, rfl, rfl, h0, r0⟩ := trodAll_cons hA
  obtain ⟨v1, vs1, d1, ds1, p1, q1, rfl, rfl, rfl, h1, r1⟩ := trodAll_cons r0
  obtain ⟨v2, vs2, d2, ds2, p2, q2, rfl, rfl, rfl, h2, r2⟩ := trodAll_cons r1
  obtain ⟨v3, vs3, d3, ds3, p3, q3, rfl, rfl, rfl, h3, r3⟩ := trodAll_cons r2
  obtain ⟨rfl, rfl, rfl⟩ := trodAll_nil r3
  obtain rfl : args = #[v0, v1, v2, v3] := by cases args; simp_all
  obtain ⟨ver, rfl, rfl, rfl, wv⟩ := open_int Tryd.underlying2 (hval 0 2 v0 rfl rfl) h0
  obtain ⟨fr, rfl, rfl, rfl⟩ := open_bool Tryd.underlying4 (hval 1 4 v1 rfl rfl) h1
  obtain ⟨at_, rfl, rfl, rfl, wa⟩ := open_int Tryd.underlying3 (hval 3 3 v3 rfl rfl) h3
  obtain ⟨ao, len, cap, rfl⟩ := okWide_slice Tryd.underlying22 (hval 2 22 v2 rfl rfl)
  have h2k := h2
  obtain ⟨fuel, hf⟩ := h2
  obtain ⟨els, hels, hnum⟩ := elsOf (show DataW.trod enc Tryd.prog W 0 (fun _ => true) true fuel 22 [.slice ao len cap] = some (d2, p2) from hf)
  obtain ⟨K, hK, h7⟩ := shapedK hsh
  obtain ⟨g0, g1⟩ := tables hL
  have hwa : at_ ≤ 9223372036854775807 := (bounds_i64 wa).2
  clear hA0 hA
  have hlt := fun x hx => hW'.lt x hx
  refine (swapWalk W.heap.size ver fr (.slice ao len cap) els at_ W hels (Nat.le_refl _) hnum hwa K ⟨hK, g0, g1⟩ h7).mono fun e W' ⟨he, hk⟩ => ?_
  subst he
  have hb : Below W.heap.size W W' := hk.toBelow (Nat.le_refl _) fun k h => h.elim
  have hvars := Below.trodVars laidOutT hb (by kernel_rfl) hV
  obtain ⟨_, _, _, _, e0, _, _, _, _, _, e1, _, hgs, -⟩ := trodVars_two hV
  subst hgs
  have hargs2 := Below.trod laidOutT (by kernel_rfl) (of_decide_eq_true (by kernel_rfl)) h2k hb (fun x hx => by
    have := hlt x (by simp [hx])
    simpa using this)
  refine ⟨.bool true, rfl, _, _, _, [], [] ++ ([] ++ (p2 ++ ([] ++ []))), q, hW', ?_, ?_, hvars, hb.frame _, fun h => by cases h⟩
  · exact trodAll_cons_mk (shut_bool Tryd.underlying4 _) trodAll_mk0
  · rw [Tryd.params3]
    exact trodAll_cons_mk (shut_int Tryd.underlying2 wv) (trodAll_cons_mk (shut_bool Tryd.underlying4 _) (trodAll_cons_mk hargs2 (trodAll_cons_mk (shut_int Tryd.underlying3 wa) trodAll_mk0)))

/-- An input that fits. -/
theorem reads (os : Os) {H : Type} (enc : TypeId × Value → H) : ∃ places, DataW.whole enc Tryd.prog ((World.laidAll Tryd.prog os Rows.fnPackSwapRow.laid).forCall (fun _ _ => 0) ⟨#[], #[.int .i64 0, .bool false, .slice none 0 0, .int .i64 0], []⟩).memory Tryd.f3.params.toList Rows.fnPackSwapSpec.vars false #[Value.int .i64 0, .bool false, .slice none 0 0, .int .i64 0].toList 8 =
    some ([.lit (.int .i64 0), .lit (.bool false), .nil, .lit (.int .i64 0)], [Rows.laid_loop_example_pub_g01454_pub_pkgbits_introduced, Rows.laid_loop_example_pub_g01454_pub_pkgbits_removed], places) := by
  have h : (DataW.whole enc Tryd.prog ((World.laidAll Tryd.prog os Rows.fnPackSwapRow.laid).forCall (fun _ _ => 0) ⟨#[], #[.int .i64 0, .bool false, .slice none 0 0, .int .i64 0], []⟩).memory Tryd.f3.params.toList Rows.fnPackSwapSpec.vars false #[Value.int .i64 0, .bool false, .slice none 0 0, .int .i64 0].toList 8).map (fun x => (x.1, x.2.1)) =
    some ([.lit (.int .i64 0), .lit (.bool false), .nil, .lit (.int .i64 0)], [Rows.laid_loop_example_pub_g01454_pub_pkgbits_introduced, Rows.laid_loop_example_pub_g01454_pub_pkgbits_removed]) := by kernel_rfl
  obtain ⟨⟨ds, gs, ps⟩, h1, h2⟩ := Option.map_eq_some_iff.1 h
  simp only [Prod.mk.injEq] at h2
  obtain ⟨rfl, rfl⟩ := h2
  exact ⟨ps, h1⟩

theorem laid_met (os : Os) : laidMetH Tryd.prog Rows.fnPackSwapRow.laid ((World.laidAll Tryd.prog os Rows.fnPackSwapRow.laid).forCall (fun _ _ => 0) ⟨#[], #[.int .i64 0, .bool false, .slice none 0 0, .int .i64 0], []⟩).memory := by
  rw [MakeChecks.laidMetH_plain _ _ _ (by kernel_rfl)]
  exact laidMet_laidAll _ (by kernel_rfl) (by kernel_rfl)

set_option maxRecDepth 100000 in
theorem lifted (os : Os) (started : os.Started) (H : Type) (enc : TypeId × Value → H) (F : Stop.Interp) :
    ReturnsInHanded {} Tryd.checked os 3 .any ((OpenSpec.ofChange Rows.fnPackSwapSpec).preRow enc Tryd.prog Tryd.f3 Rows.fnPackSwapRow.domain false Rows.fnPackSwapRow.laid) (((OpenSpec.ofChange Rows.fnPackSwapSpec).at F).post enc Tryd.prog Tryd.f3 false true false false) := by
  obtain ⟨places, hx⟩ := reads os enc
  refine returnsInHanded_of_row (C := Tryd.checked) (s := OpenSpec.ofChange Rows.fnPackSwapSpec) own started (by kernel_rfl) Tryd.func3
    (witness_row_atRef (enc := enc) (C := Tryd.checked) false (World.laidAll Tryd.prog os Rows.fnPackSwapRow.laid) #[.int .i64 0, .bool false, .slice none 0 0, .int .i64 0] (World.laidAll_os _ _ _) (by kernel_rfl) (by kernel_rfl) (by kernel_rfl)
      (OpenSpec.preRow_of_cond 8 hx (by kernel_rfl) (fun k hk => by cases hk) (by kernel_rfl) (laid_met os))) ?_
  intro W base args ds gs before hval hW _ _ _ hL hsh _
  exact contract H enc W base args ds gs before hval hW hL hsh

set_option maxRecDepth 100000 in
theorem said : Rows.FnPackSwapSaid :=
  OpenClaim.holds_of_cond 3 Tryd.f3 rfl rfl rfl rfl rfl rfl rfl ⟨rfl, rfl, rfl, rfl, rfl⟩ rfl rfl rfl rfl rfl (by kernel_rfl) Tryd.func3 (by kernel_rfl)
    (of_decide_eq_true (by kernel_rfl)) (by unfold Func.isWrapper; first | (rw [if_pos (by decide +kernel)]; kernel_rfl) | (rw [if_neg (by decide +kernel)]; exact ⟨rfl, rfl⟩))
    (fun os started H enc _ F => by rw [OpenClaim.pre_eq_preRow]; exact lifted os started H enc F)

end Go.Proofs.YthhpmeaajgjdeaaDoor

/- Ue: FnPackSwap's tied card: whatever the input, the law returns true and leaves what it was given as it was; what the listed variables read is tied to the program's text. -/
namespace Go.Proofs.YthhpmeaajgjdeaaDoor
open Go

/-- No parameter wants a stand-in; the program's own looks are off. -/
theorem plain (f : FuncId) (fn : Func) (hf : Tryd.pinned.checked.prog.funcNamed "loop.example/pub-g01454/laws.FnPackSwap" = some f) (hfn : Tryd.pinned.checked.prog.funcs[f]? = some fn) :
    true = Tryd.pinned.checked.prog.looks [] ∧ ∀ (j : Nat) t, fn.params[j]? = some t → Tryd.pinned.checked.prog.wantsStandIn t = false := by
  obtain rfl : f = 3 := Option.some.inj ((show Tryd.prog.funcNamed "loop.example/pub-g01454/laws.FnPackSwap" = some 3 by kernel_rfl).symm.trans hf) |>.symm
  obtain rfl : fn = Tryd.f3 := (Option.some.inj (Tryd.func3.symm.trans hfn)).symm
  refine ⟨by kernel_rfl, fun j t ht => ?_⟩
  rw [Tryd.params3] at ht
  have hm : t = 2 ∨ t = 4 ∨ t = 22 ∨ t = 3 := by simpa using Array.mem_of_getElem? ht
  rcases hm with rfl | rfl | rfl | rfl
  · exact (show Tryd.prog.wantsStandIn 2 = false by kernel_rfl)
  · exact (show Tryd.prog.wantsStandIn 4 = false by kernel_rfl)
  · exact (show Tryd.prog.wantsStandIn 22 = false by kernel_rfl)
  · exact (show Tryd.prog.wantsStandIn 3 = false by kernel_rfl)

theorem card : Rows.FnPackSwapCardSaid :=
  Claim7.holds_tied_plain_at .later [] _ _ _ _ said (fun _ h => by cases h) (by kernel_rfl) (fun _ h => by cases h) fnPackSwap_row_tie rfl ⟨rfl, rfl⟩ (by kernel_rfl) rfl plain (by kernel_rfl)

end Go.Proofs.YthhpmeaajgjdeaaDoor
