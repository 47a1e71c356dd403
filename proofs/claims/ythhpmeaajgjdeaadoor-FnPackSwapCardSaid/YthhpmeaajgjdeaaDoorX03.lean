/- Helper laws on tables, and on appending one element to a slice. -/
import Derived.Test.YthhpmeaajgjdeaaDoorRows
import Derived.Test.YthhpmeaajgjdeaaDoorX01
import Derived.Maps.Keyed
import Derived.DeepKeys5
import Derived.Maps.OwnOps
import Derived.Deep.RegionLaw
import Derived.Lib.SmallJoins
import Derived.MapViews

set_option linter.unusedVariables false
set_option linter.unusedSimpArgs false

/- Fj: Laws of no function: a map's look-up and first store over this program's two key types; append in a region that draws. -/
namespace Go.Proofs.YthhpmeaajgjdeaaDoor
open Go Go.RowKit
open Go.ChangeMaps (setBlock)
open Go.WideMaps Go.WideElems

theorem laidOutT : laidOutB Tryd.prog = true := by kernel_rfl
theorem key97 : Maps.Keyed Tryd.prog 97 := .of_law (deep_law_laid laidOutT (m := 2) (by omega) (of_decide_eq_true (by kernel_rfl)) (by kernel_rfl) (by kernel_rfl))
theorem key9 : Maps.Keyed Tryd.prog 9 := .of_law (string_law Tryd.underlying9)

theorem cells97 : Tryd.prog.cellsOf 97 = 2 := by kernel_rfl
theorem key97_mk {a b : Int} (ha : (Lit.int .i32 a).wf = true) (hb : (Lit.int .i32 b).wf = true) : ∃ l, keyOf Tryd.prog 97 (.agg #[.int .i32 a, .int .i32 b]) = some l := by
  have h := Joins.shut_agg2 (H := Unit) (enc := fun _ => ()) (P := Tryd.prog) (w := default) (base := 0) (spare := fun _ => true) (held := true) (v0 := .int .i32 a) (v1 := .int .i32 b) (y0 := (.lit (.int .i32 a), [])) (y1 := (.lit (.int .i32 b), [])) Tryd.underlying97 (by kernel_rfl) cells97
    ⟨1, by simp [DataW.trod, Tryd.underlying50, ha]⟩ ⟨1, by simp [DataW.trod, Tryd.underlying54, hb]⟩
  exact ⟨_, (keyOf_asKey (by kernel_rfl) (by kernel_rfl) (by simp [Value.formed, Tryd.underlying97, cells97]) h).1⟩
theorem key9_mk {s : ByteArray} (hs : s.size ≤ maxLen) : ∃ l, keyOf Tryd.prog 9 (.string s) = some l := ⟨_, keyOf_string_mk Tryd.underlying9 hs⟩

section
variable {P : Program} {k t e : TypeId} {w : World} {b clock : Nat} {es : Array MapEntry}

theorem lookup_ok (K : Maps.Keyed P k) (ht : P.underlying t = some (.map k e)) {z : Value} (hz : (zeroValue e).run P w = .ok z w) (hb : w.heap[b]? = some (.map es clock))
    (hkeys : ∀ x ∈ es.toList, ∃ l, keyOf P k x.key = some l) {key : Value} {kl : Lit} (hkey : keyOf P k key = some kl) :
    ((Instr.lookup t (.map (some b)) key true).run P w = .ok (.tuple #[z, .bool false]) w ∧ ∀ x ∈ es.toList, x.key ≠ key) ∨
    ∃ (j : Nat) (x : MapEntry), (Instr.lookup t (.map (some b)) key true).run P w = .ok (.tuple #[x.val, .bool true]) w ∧ es[j]? = some x ∧ x.key = key := by
  rcases K.find w hkey es.toList hkeys with ⟨h1, h2⟩ | ⟨j, e0, h1, h2, h3⟩
  · refine Or.inl ⟨?_, h2⟩
    simp [Instr.lookup, run_underlying ht, MapKept.run_getObj_map hb, K.check w _ hkey, h1, hz, Result.andThen]
  · refine Or.inr ⟨j, e0, ?_, by simpa using h2, h3⟩
    simp [Instr.lookup, run_underlying ht, MapKept.run_getObj_map hb, K.check w _ hkey, h1, Result.andThen]

theorem update_new (K : Maps.Keyed P k) (ht : P.underlying t = some (.map k e)) (hb : w.heap[b]? = some (.map es clock))
    (hkeys : ∀ x ∈ es.toList, ∃ l, keyOf P k x.key = some l) {key : Value} {kl : Lit} (hkey : keyOf P k key = some kl) (hno : ∀ x ∈ es.toList, x.key ≠ key) (val : Value) :
    (Instr.mapUpdate t (.map (some b)) key val).run P w = .ok () (setBlock w b (.map (es.push ⟨key, val, clock⟩) (clock + 1))) := by
  rcases K.find w hkey es.toList hkeys with ⟨h1, h2⟩ | ⟨j, e0, h1, h2, h3⟩
  · simp [Instr.mapUpdate, run_underlying ht, MapKept.run_getObj_map hb, K.check w false hkey, h1, MapKept.run_setObj_map _ hb, Result.andThen, setBlock]
  · exact absurd h3 (hno e0 (List.mem_of_getElem? h2))
end

theorem Keeps.setBlock {S : Nat → Prop} {a w : World} (h : Keeps S a w) {b : Nat} (hb : S b ∨ a.heap.size ≤ b) (o : Obj) : Keeps S a (setBlock w b o) :=
  h.trans (S' := fun k => k = b) ⟨rfl, rfl, rfl, by simp [ChangeMaps.setBlock], fun k hk hn => by simp only [ChangeMaps.setBlock]; rw [Array.getElem?_setIfInBounds_ne (by simpa using Ne.symm hn)]⟩ fun j hj => by subst hj; exact hb

/-- append onto an owned row (the old one or a new one behind it), as a step of a region that draws. -/
theorem step_append_fresh {P : Program} {ops : Array Oper} {o : Oper} {a : Act} {w : World} {K : Act → World → Prop} {Q : Exit → Act → World → Prop} {E : Prop}
    (hg : o.guard = none) (s x : Operand) (t : TypeId) (hop : o.op = Op.call { callee := Callee.builtin Builtin.append, args := #[s, x], argTypes := #[t, t] })
    (e : TypeId) (i : TypeInfo) (z : Value) (size bytes : Nat) (h1 : P.underlying t = some (.slice e)) (h2 : P.info? e = some i) (h3 : i.zero = some z) (h4 : i.size = size) (h5 : i.bytes = bytes) (h6 : z.cells.size = size) (h7 : 0 < size)
    (v : Value) (n : Nat) (xs : List Value) (hs : a.eval s = v) (hown : w.ownsRow 0 e size v n xs)
    (ad : Addr) (m c : Nat) (news : List Value) (hx : a.eval x = .slice (some ad) m c) (hn : news.length = m * size) (hc : ∀ j u, news[j]? = some u → w.cell? (ad.add j) = some u) (h1c : ∀ u ∈ news, u.oneCell' = true)
    (b1 : n + m ≤ maxLen) (b2 : (n + m) * bytes ≤ 140737488355328)
    (hK : ∀ v' w', w'.ownsRow 0 e size v' (n + m) (xs ++ news) → w.grownBy w' v.ownBlock → Fresh w v v' → K (a.put o.dst v') w') :
    if Region.wanted o (yielded ops a.tmps) = true then Oper.wp P o a w K Q else E := by
  have hw : Region.wanted o (yielded ops a.tmps) = true := by simp [Region.wanted, hg]
  rw [if_pos hw]
  obtain ⟨v', w', hrun, r1, r2, r3⟩ := run_append_fresh (P := P) w t o.type e i z size bytes h1 h2 h3 h4 h5 h6 h7 v n xs hown ad m c news hn hc h1c b1 b2
  unfold Oper.wp
  simp [execOp, hop, resolve, invoke, builtin, hs, hx, hrun, Result.andThen]
  exact hK v' w' r1 r2 r3

end Go.Proofs.YthhpmeaajgjdeaaDoor
