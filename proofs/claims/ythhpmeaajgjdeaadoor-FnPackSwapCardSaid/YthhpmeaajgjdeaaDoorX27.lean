/- A multi writer's Write and WriteString; io.WriteString. -/
import Derived.Test.YthhpmeaajgjdeaaDoorX26
import Derived.LoopN
import Derived.Stop.Asserts
import Derived.Laws.IdiomStrings

set_option linter.unusedVariables false
set_option linter.unusedSimpArgs false

/- Ra: io.multiWriter over a buffer and a digest: Write. -/
namespace Go.Proofs.YthhpmeaajgjdeaaDoor
open Go Go.RowKit

/-- Two writers in a multiWriter, a buffer and a digest, each in blocks of its own. -/
structure MwOk (w : World) (mb sb c2 bb db : Nat) (v : Value) (K : Nat → Int) : Prop where
  c0 : w.cell? ⟨mb, 0, none⟩ = some (.slice (some ⟨sb, 0, none⟩) 2 c2)
  w0 : w.cell? ⟨sb, 0, none⟩ = some (.iface 56 (.pointer (some ⟨bb, 0, none⟩)))
  w1 : w.cell? ⟨sb, 1, none⟩ = some (.iface 130 (.pointer (some ⟨db, 0, none⟩)))
  c2le : 2 ≤ c2
  mbS : ¬ BfS bb v mb
  sbS : ¬ BfS bb v sb
  dbS : ¬ BfS bb v db
  mbd : ¬ mb = db
  sbd : ¬ sb = db
  kat : Kat w K
  k7 : 7 < w.heap.size
  k7S : ¬ BfS bb v 7
  k7d : ¬ 7 = db

theorem byteCells_one' (l : List UInt8) : ∀ v ∈ Lib.byteCells l, v.oneCell' = true := Lib.byteCells_one l

/-- What a write to both leaves. -/
def MwPut (w : World) (bb db : Nat) (R : Nat → Option Value) (v : Value) (l : List UInt8) (d : Dg) (w' : World) : Prop :=
  ∃ v', Bf w' bb 0 61 R v' (Lib.byteCells l) ∧ Fresh w v v' ∧ DgAt w' db d ∧ Keeps (fun k => BfS bb v k ∨ k = db) w w'

set_option maxHeartbeats 1000000 in
set_option maxRecDepth 10000 in
theorem mwWrite (mb sb c2 bb db : Nat) (R : Nat → Option Value) (v : Value) (l : List UInt8) (d : Dg) (K : Nat → Int) (b o n c : Nat) (p : List UInt8) (w : World) (hM : MwOk w mb sb c2 bb db v K) (hB : Bf w bb 0 61 R v (Lib.byteCells l)) (hD : DgAt w db d)
    (hn : p.length = n) (hn0 : n ≠ 0) (hc : n ≤ c) (hc63 : c ≤ 9223372036854775807) (hp : ∀ k, k < n → w.cell? ⟨b, o + k, none⟩ = some (.int .u8 (byteAt p k))) (hbS : ¬ BfS bb v b) (hbd : ¬ b = db) (hlim : l.length + n ≤ 140737488355328) :
    Calls Tryd.prog 113 #[.pointer (some ⟨mb, 0, none⟩), .slice (some ⟨b, o, none⟩) n c] w fun e w' => e = .returned (.tuple #[.int .i64 n, .nilIface]) ∧ MwPut w bb db R v (l ++ p) (d.write K p) w' := by
  have hbl : b < w.heap.size := World.block_lt_of_cell? w ⟨b, o + 0, none⟩ (hp 0 (by omega))
  have hdl := Lib.lt_of_heap hD.blk
  have cm := hM.c0
  have cw0 := hM.w0
  have cw1 := hM.w1
  have hc1 := bufWrite bb 0 61 R v (Lib.byteCells l) (Lib.byteCells p) ⟨b, o, none⟩ n c w hB (byteCells_one' l) (by rw [Lib.byteCells_length, hn]) hn0 (fun e => hbS (Or.inl e)) (fun j u hj => by
    have hlt : j < p.length := by
      have := (List.getElem?_eq_some_iff.1 hj).1
      rwa [Lib.byteCells_length] at this
    rw [Lib.addr_add, hp j (by omega)]
    simp only [Lib.byteCells, List.getElem?_map, List.getElem?_eq_getElem hlt, Option.map_some] at hj
    rw [← hj]
    simp [byteAt, List.getD_eq_getElem?_getD, List.getElem?_eq_getElem hlt]) (byteCells_one' p) (by rw [Lib.byteCells_length]; exact hlim)
  have hm1 : ∀ W : World, (method 291 56 (.pointer (some ⟨bb, 0, none⟩)) "Write").run Tryd.prog W = .ok (59, .pointer (some ⟨bb, 0, none⟩)) W := fun _ => by kernel_rfl
  have hm2 : ∀ W : World, (method 291 130 (.pointer (some ⟨db, 0, none⟩)) "Write").run Tryd.prog W = .ok (102, .pointer (some ⟨db, 0, none⟩)) W := fun _ => by kernel_rfl
  have HC1 := Lib.hid hc1
  have HM := Lib.hid (And.intro hM (And.intro hD hp))
  clear hc1 hM hD hp hB
  go_enter Tryd.func113, Tryd.ntmps113
  go_wp2
  refine wp_loop_rounds 3 ?_
  rw [rounds_succ]
  go_wp2_with (go_at_call 59; refine HC1.out.mono ?_; rintro e w1 ⟨rfl, hq⟩; refine Hid.out ?_)
  refine Lib.hid ?_
  obtain ⟨v1, hB1, hF1, hk1⟩ := hq
  obtain ⟨hM, hD, hp⟩ := HM.out
  have hsz1 := hk1.size
  have hD1 := hD.keeps hk1 hM.dbS
  have hc2 := dgWrite db d b o n c p K w1 hD1 hn hc hc63 (fun k hk => hk1.cell (hp k hk) hbS) (hM.kat.keeps hk1 hM.k7S) (by omega) (by have := hM.k7; omega) hbd hM.k7d
  have cw1' := hk1.cell cw1 hM.sbS
  have HC2 := Lib.hid hc2
  have H1 := Lib.hid (And.intro hB1 (And.intro hF1 hk1))
  clear hc2 hM hD hp hB1 hF1 hk1 hD1 cw1 cw0 cm
  go_wp2
  rw [rounds_succ]
  go_wp2_with (go_at_call 102; refine HC2.out.mono ?_; rintro e w2 ⟨rfl, hq⟩; refine Hid.out ?_)
  refine Lib.hid ?_
  obtain ⟨hD2, hk2⟩ := hq
  obtain ⟨hB1, hF1, hk1⟩ := H1.out
  obtain ⟨hM, -, -⟩ := HM.out
  have hdb1 : ∀ k, BfS bb v1 k → ¬ k = db := by
    rintro k (rfl | h) rfl
    · exact hM.dbS (Or.inl rfl)
    · rcases hF1 with e | ⟨j, e, hj⟩
      · exact hM.dbS (Or.inr (e ▸ h))
      · rw [e] at h; injection h with h; omega
  have FIN : Hid (MwPut w bb db R v (l ++ p) (d.write K p) w2) := Lib.hid ⟨v1, by rw [Lib.byteCells, List.map_append]; exact hB1.keeps hk2 hdb1, hF1, hD2, (hk1.mono fun _ _ h => Or.inl h).same (hk2.mono fun _ _ h => Or.inr h)⟩
  clear hB1 hF1 hk1 hM hD2 hk2 hdb1 HM H1 HC1 HC2
  go_wp2
  rw [rounds_succ]
  go_wp2
  go_ret2
  exact ⟨rfl, FIN.out⟩

end Go.Proofs.YthhpmeaajgjdeaaDoor

/- Rb: io.multiWriter over a buffer and a digest: WriteString; io.WriteString. -/
namespace Go.Proofs.YthhpmeaajgjdeaaDoor
open Go Go.RowKit

theorem assertSW56 (v : Value) (w : World) : (Instr.typeAssert (.iface 56 v) 99 139 true).run Tryd.prog w = .ok (.tuple #[.iface 56 v, .bool true]) w := run_typeAssert_hasB Tryd.underlying139 (by kernel_rfl) v 99 w
theorem assertSW130 (v : Value) (w : World) : (Instr.typeAssert (.iface 130 v) 99 139 true).run Tryd.prog w = .ok (.tuple #[.nilIface, .bool false]) w := run_typeAssert_lacksB Tryd.underlying139 (by kernel_rfl) (by kernel_rfl) v 99 w
theorem assertSW133 (v : Value) (w : World) : (Instr.typeAssert (.iface 133 v) 99 139 true).run Tryd.prog w = .ok (.tuple #[.iface 133 v, .bool true]) w := run_typeAssert_hasB Tryd.underlying139 (by kernel_rfl) v 99 w

/-- The bytes of a string, in a row of their own. -/
theorem bytesOf_str (w : World) (s : ByteArray) (hs : s.size ≤ maxLen) : ∃ c w', (convert 9 57 (.string s)).run Tryd.prog w = .ok (.slice (some ⟨w.heap.size, 0, none⟩) s.size c) w' ∧ s.size ≤ c ∧ c ≤ 9223372036854775807 ∧
    (∀ k, k < s.size → w'.cell? ⟨w.heap.size, k, none⟩ = some (.int .u8 (byteAt s.data.toList k))) ∧ w.heap.size < w'.heap.size ∧ Keeps (fun _ => False) w w' := by
  refine ⟨_, _, run_bytes_of_string w 9 57 5 s Tryd.underlying9 Tryd.underlying57 Tryd.underlying5, grownCap_ge _ _ _ _, ?_, fun k hk => ?_, ?_, (Keeps.refl _ w).drew.alloc _⟩
  · have := grownCap_le_maxLen w s.size 0 5 hs
    unfold maxLen at this
    omega
  · rw [cell_of_row _ _ k _ 5 _ (show (w.drew.alloc (.cells (bytesRow s (grownCap w s.size 0 5)) 5 ((bytesRow s (grownCap w s.size 0 5)).size, (bytesRow s (grownCap w s.size 0 5)).size + 1))).heap[w.heap.size]? = _ from heap_alloc_new w.drew _)]
    have hk' : k < s.data.size := hk
    rw [bytesRow_at s _ k hk']
    simp [byteAt, List.getD_eq_getElem?_getD, Array.getElem?_eq_getElem hk']
  · simp

set_option maxHeartbeats 1000000 in
set_option maxRecDepth 10000 in
theorem mwWriteString (mb sb c2 bb db : Nat) (R : Nat → Option Value) (v : Value) (l : List UInt8) (d : Dg) (K : Nat → Int) (s : ByteArray) (w : World) (hM : MwOk w mb sb c2 bb db v K) (hB : Bf w bb 0 61 R v (Lib.byteCells l)) (hD : DgAt w db d)
    (hlim : l.length + s.size ≤ 140737488355328) :
    Calls Tryd.prog 114 #[.pointer (some ⟨mb, 0, none⟩), .string s] w fun e w' => e = .returned (.tuple #[.int .i64 s.size, .nilIface]) ∧ MwPut w bb db R v (l ++ s.data.toList) (d.write K s.data.toList) w' := by
  have hdl := Lib.lt_of_heap hD.blk
  have cm := hM.c0
  have cw0 := hM.w0
  have cw1 := hM.w1
  have hc1 := bufWriteString bb 0 61 R v (Lib.byteCells l) s w hB (byteCells_one' l) (by rw [Lib.byteCells_length]; exact hlim)
  have hm1 : ∀ W : World, (method 291 56 (.pointer (some ⟨bb, 0, none⟩)) "WriteString").run Tryd.prog W = .ok (85, .pointer (some ⟨bb, 0, none⟩)) W := fun _ => by kernel_rfl
  have hm2 : ∀ W : World, (method 291 130 (.pointer (some ⟨db, 0, none⟩)) "Write").run Tryd.prog W = .ok (102, .pointer (some ⟨db, 0, none⟩)) W := fun _ => by kernel_rfl
  have hnil : ∀ W, (binOp .eql 57 (.slice none 0 0) (.slice none 0 0)).run Tryd.prog W = .ok (.bool true) W := fun W => Lib.run_eql_slice_nil_nil W _ _ Tryd.underlying57
  have ha1 := assertSW56 (.pointer (some ⟨bb, 0, none⟩))
  have ha2 := assertSW130 (.pointer (some ⟨db, 0, none⟩))
  have HC1 := Lib.hid hc1
  have HM := Lib.hid (And.intro hM hD)
  clear hc1 hM hD hB
  go_enter Tryd.func114, Tryd.ntmps114
  go_wp2
  refine wp_loop_rounds 3 ?_
  rw [rounds_succ]
  go_wp2_with (go_at_call 85; refine HC1.out.mono ?_; rintro e w1 ⟨rfl, hq⟩; refine Hid.out ?_)
  refine Lib.hid ?_
  obtain ⟨v1, hB1, hF1, hk1⟩ := hq
  obtain ⟨hM, hD⟩ := HM.out
  have hsz1 := hk1.size
  have hD1 := hD.keeps hk1 hM.dbS
  obtain ⟨c, w2, hconv, hc, hc63, hp, hlt, hk2⟩ := bytesOf_str w1 s (by unfold maxLen; omega)
  have hD2 := hD1.keeps hk2 fun h => h
  have hc2 := dgWrite db d w1.heap.size 0 s.size c s.data.toList K w2 hD2 (by simp) hc hc63 (fun k hk => by rw [Nat.zero_add]; exact hp k hk) ((hM.kat.keeps hk1 hM.k7S).keeps hk2 fun h => h) hlt (by have := hM.k7; omega) (by omega) hM.k7d
  have cw1' := hk1.cell cw1 hM.sbS
  have HC2 := Lib.hid hc2
  have H1 := Lib.hid (And.intro hB1 (And.intro hF1 (And.intro hk1 hk2)))
  clear hc2 hM hD hp hB1 hF1 hk1 hk2 hD1 hD2 cw1 cw0 cm hc hc63 hlt
  go_wp2
  rw [rounds_succ]
  go_wp2_with (go_at_call 102; refine HC2.out.mono ?_; rintro e w3 ⟨rfl, hq⟩; refine Hid.out ?_)
  refine Lib.hid ?_
  obtain ⟨hD3, hk3⟩ := hq
  obtain ⟨hB1, hF1, hk1, hk2⟩ := H1.out
  obtain ⟨hM, -⟩ := HM.out
  have hdb1 : ∀ k, BfS bb v1 k → ¬ k = db := by
    rintro k (rfl | h) rfl
    · exact hM.dbS (Or.inl rfl)
    · rcases hF1 with e | ⟨j, e, hj⟩
      · exact hM.dbS (Or.inr (e ▸ h))
      · rw [e] at h; injection h with h; omega
  have FIN : Hid (MwPut w bb db R v (l ++ s.data.toList) (d.write K s.data.toList) w3) := Lib.hid ⟨v1, by rw [Lib.byteCells, List.map_append]; exact (hB1.keeps hk2 fun _ _ h => h).keeps hk3 hdb1, hF1, hD3, (hk1.mono fun _ _ h => Or.inl h).same ((hk2.mono fun _ _ h => h.elim).same (hk3.mono fun _ _ h => Or.inr h))⟩
  clear hB1 hF1 hk1 hk2 hM hD3 hk3 hdb1 HM H1 HC1 HC2 hconv
  go_wp2
  rw [rounds_succ]
  go_wp2
  go_ret2
  exact ⟨rfl, FIN.out⟩

set_option maxHeartbeats 400000 in
/-- io.WriteString on the two. -/
theorem ioWriteString (mb sb c2 bb db : Nat) (R : Nat → Option Value) (v : Value) (l : List UInt8) (d : Dg) (K : Nat → Int) (s : ByteArray) (w : World) (hM : MwOk w mb sb c2 bb db v K) (hB : Bf w bb 0 61 R v (Lib.byteCells l)) (hD : DgAt w db d)
    (hlim : l.length + s.size ≤ 140737488355328) :
    Calls Tryd.prog 43 #[.iface 133 (.pointer (some ⟨mb, 0, none⟩)), .string s] w fun e w' => e = .returned (.tuple #[.int .i64 s.size, .nilIface]) ∧ MwPut w bb db R v (l ++ s.data.toList) (d.write K s.data.toList) w' := by
  have ha := assertSW133 (.pointer (some ⟨mb, 0, none⟩))
  have hm : ∀ W : World, (method 291 133 (.pointer (some ⟨mb, 0, none⟩)) "WriteString").run Tryd.prog W = .ok (114, .pointer (some ⟨mb, 0, none⟩)) W := fun _ => by kernel_rfl
  have HC := Lib.hid (mwWriteString mb sb c2 bb db R v l d K s w hM hB hD hlim)
  clear hM hB hD
  go_enter Tryd.func43, Tryd.ntmps43
  go_wp2_with (go_at_call 114; refine HC.out.mono ?_; rintro e w1 ⟨rfl, hq⟩; refine Hid.out ?_)
  refine Lib.hid ?_
  go_wp2
  go_ret2
  exact ⟨rfl, hq⟩

end Go.Proofs.YthhpmeaajgjdeaaDoor
