/- io.copyBuffer and io.Copy. -/
import Derived.Test.YthhpmeaajgjdeaaDoorX10
import Derived.Stop.Asserts

set_option linter.unusedVariables false
set_option linter.unusedSimpArgs false

/- Ld: io.copyBuffer and io.Copy out of a bytes.Buffer, to a builder and to a buffer (printed by copy.py). -/
namespace Go.Proofs.YthhpmeaajgjdeaaDoor
open Go Go.RowKit

theorem assertWT (v : Value) (w : World) : (Instr.typeAssert (.iface 56 v) 127 149 true).run Tryd.prog w = .ok (.tuple #[.iface 56 v, .bool true]) w := run_typeAssert_hasB Tryd.underlying149 (by kernel_rfl) v 127 w


set_option maxHeartbeats 4000000 in
set_option maxRecDepth 10000 in
theorem copyBuffer_bd (sb q : Nat) (T : TypeId) (R : Nat → Option Value) (v : Value) (l : List UInt8) (b : Nat) (vb : Value) (l0 : List UInt8) (w : World) (hs : Bf w sb q T R v (Lib.byteCells l)) (hd : Bd w b vb (Lib.byteCells l0))
    (hdis : ∀ k, BfS sb v k → ¬ BfS b vb k) (hlim : l0.length + l.length ≤ 140737488355328) :
    Calls Tryd.prog 54 #[.iface 91 (.pointer (some ⟨b, 0, none⟩)), .iface 56 (.pointer (some ⟨sb, q, none⟩)), .slice none 0 0] w fun e w' => e = .returned (.tuple #[.int .i64 l.length, .nilIface]) ∧
      (∃ v', Bf w' sb q T R v' [] ∧ v'.ownBlock = v.ownBlock) ∧ (∃ vb', Bd w' b vb' (Lib.byteCells (l0 ++ l)) ∧ Fresh w vb vb') ∧ Keeps (fun k => BfS sb v k ∨ BfS b vb k) w w' := by
  have hta := fun W => assertWT (.pointer (some ⟨sb, q, none⟩)) W
  have hm : ∀ W : World, (method 291 56 (.pointer (some ⟨sb, q, none⟩)) "WriteTo").run Tryd.prog W = .ok (86, .pointer (some ⟨sb, q, none⟩)) W := fun _ => by kernel_rfl
  have hc := writeTo_bd sb q T R v l b vb l0 w hs hd hdis hlim
  go_enter Tryd.func54, Tryd.ntmps54
  go_wp2_with (go_at_call 86; refine hc.mono ?_; rintro e w1 ⟨rfl, hp⟩; refine Hid.out ?_)
  refine Lib.hid ?_
  go_wp2
  go_ret2
  exact ⟨rfl, hp⟩

set_option maxHeartbeats 1000000 in
set_option maxRecDepth 10000 in
theorem ioCopy_bd (sb q : Nat) (T : TypeId) (R : Nat → Option Value) (v : Value) (l : List UInt8) (b : Nat) (vb : Value) (l0 : List UInt8) (w : World) (hs : Bf w sb q T R v (Lib.byteCells l)) (hd : Bd w b vb (Lib.byteCells l0))
    (hdis : ∀ k, BfS sb v k → ¬ BfS b vb k) (hlim : l0.length + l.length ≤ 140737488355328) :
    Calls Tryd.prog 34 #[.iface 91 (.pointer (some ⟨b, 0, none⟩)), .iface 56 (.pointer (some ⟨sb, q, none⟩))] w fun e w' => e = .returned (.tuple #[.int .i64 l.length, .nilIface]) ∧
      (∃ v', Bf w' sb q T R v' [] ∧ v'.ownBlock = v.ownBlock) ∧ (∃ vb', Bd w' b vb' (Lib.byteCells (l0 ++ l)) ∧ Fresh w vb vb') ∧ Keeps (fun k => BfS sb v k ∨ BfS b vb k) w w' := by
  have hc := copyBuffer_bd sb q T R v l b vb l0 w hs hd hdis hlim
  go_enter Tryd.func34, Tryd.ntmps34
  go_wp2_with (go_at_call 54; refine hc.mono ?_; rintro e w1 ⟨rfl, hp⟩; refine Hid.out ?_)
  refine Lib.hid ?_
  go_wp2
  go_ret2
  exact ⟨rfl, hp⟩


set_option maxHeartbeats 4000000 in
set_option maxRecDepth 10000 in
theorem copyBuffer_bf (sb q : Nat) (T : TypeId) (R : Nat → Option Value) (v : Value) (l : List UInt8) (b : Nat) (R2 : Nat → Option Value) (vb : Value) (l0 : List UInt8) (w : World) (hs : Bf w sb q T R v (Lib.byteCells l)) (hd : Bf w b 0 61 R2 vb (Lib.byteCells l0))
    (hdis : ∀ k, BfS sb v k → ¬ BfS b vb k) (hlim : l0.length + l.length ≤ 140737488355328) :
    Calls Tryd.prog 54 #[.iface 56 (.pointer (some ⟨b, 0, none⟩)), .iface 56 (.pointer (some ⟨sb, q, none⟩)), .slice none 0 0] w fun e w' => e = .returned (.tuple #[.int .i64 l.length, .nilIface]) ∧
      (∃ v', Bf w' sb q T R v' [] ∧ v'.ownBlock = v.ownBlock) ∧ (∃ vb', Bf w' b 0 61 R2 vb' (Lib.byteCells (l0 ++ l)) ∧ Fresh w vb vb') ∧ Keeps (fun k => BfS sb v k ∨ BfS b vb k) w w' := by
  have hta := fun W => assertWT (.pointer (some ⟨sb, q, none⟩)) W
  have hm : ∀ W : World, (method 291 56 (.pointer (some ⟨sb, q, none⟩)) "WriteTo").run Tryd.prog W = .ok (86, .pointer (some ⟨sb, q, none⟩)) W := fun _ => by kernel_rfl
  have hc := writeTo_bf sb q T R v l b R2 vb l0 w hs hd hdis hlim
  go_enter Tryd.func54, Tryd.ntmps54
  go_wp2_with (go_at_call 86; refine hc.mono ?_; rintro e w1 ⟨rfl, hp⟩; refine Hid.out ?_)
  refine Lib.hid ?_
  go_wp2
  go_ret2
  exact ⟨rfl, hp⟩

set_option maxHeartbeats 1000000 in
set_option maxRecDepth 10000 in
theorem ioCopy_bf (sb q : Nat) (T : TypeId) (R : Nat → Option Value) (v : Value) (l : List UInt8) (b : Nat) (R2 : Nat → Option Value) (vb : Value) (l0 : List UInt8) (w : World) (hs : Bf w sb q T R v (Lib.byteCells l)) (hd : Bf w b 0 61 R2 vb (Lib.byteCells l0))
    (hdis : ∀ k, BfS sb v k → ¬ BfS b vb k) (hlim : l0.length + l.length ≤ 140737488355328) :
    Calls Tryd.prog 34 #[.iface 56 (.pointer (some ⟨b, 0, none⟩)), .iface 56 (.pointer (some ⟨sb, q, none⟩))] w fun e w' => e = .returned (.tuple #[.int .i64 l.length, .nilIface]) ∧
      (∃ v', Bf w' sb q T R v' [] ∧ v'.ownBlock = v.ownBlock) ∧ (∃ vb', Bf w' b 0 61 R2 vb' (Lib.byteCells (l0 ++ l)) ∧ Fresh w vb vb') ∧ Keeps (fun k => BfS sb v k ∨ BfS b vb k) w w' := by
  have hc := copyBuffer_bf sb q T R v l b R2 vb l0 w hs hd hdis hlim
  go_enter Tryd.func34, Tryd.ntmps34
  go_wp2_with (go_at_call 54; refine hc.mono ?_; rintro e w1 ⟨rfl, hp⟩; refine Hid.out ?_)
  refine Lib.hid ?_
  go_wp2
  go_ret2
  exact ⟨rfl, hp⟩

end Go.Proofs.YthhpmeaajgjdeaaDoor
