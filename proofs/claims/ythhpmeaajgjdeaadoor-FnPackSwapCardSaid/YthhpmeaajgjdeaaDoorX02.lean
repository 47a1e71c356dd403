/- bytes.Buffer: growing, WriteByte, Write, WriteString, String. -/
import Derived.Test.YthhpmeaajgjdeaaDoorX01

set_option linter.unusedVariables false
set_option linter.unusedSimpArgs false

/- Ff: Buffer's grow over this program: a row with bytes in it. -/
namespace Go.Proofs.YthhpmeaajgjdeaaDoor
open Go Go.RowKit

set_option maxHeartbeats 1600000 in
set_option maxRecDepth 100000 in
/-- grow, the buffer holding a row with at least one byte and no room. -/
theorem grow_row (T : TypeId) (R : Nat → Option Value) (b q g l cap n : Nat) (lr : Int) (cur : Array Value) (bs : List Value) (w : World)
    (hbk : LibA.Three w b q T R (.slice (some ⟨g, 0, none⟩) l cap) (.int .i64 0) (.int .i8 lr)) (hl0 : l ≠ 0)
    (hl : bs.length = l) (hg : w.heap[g]? = some (.cells cur 5 (0, 0))) (hlc : l ≤ cap) (hcm : cap ≤ maxLen) (hcs : cur.size = cap) (htake : cur.toList.take l = bs) (hgb : g ≠ b)
    (h1 : ∀ v ∈ bs, v.oneCell' = true) (hn : 1 ≤ n) (hroom : cap - l < n) (hlim : l + n ≤ 140737488355328) :
    Calls Tryd.prog 52 #[.pointer (some ⟨b, q, none⟩), .int .i64 n] w fun e w' => e = .returned (.int .i64 l) ∧ Grown1 w b q n T R bs w' := by
  have hIs : Bf w b q T R (.slice (some ⟨g, 0, none⟩) l cap) bs := by rw [← htake]; exact bf_mk hbk hg hlc hcm hcs hgb
  have hnil : ∀ W, (binOp .eql 57 (.slice (some ⟨g, 0, none⟩) l cap) (.slice none 0 0)).run Tryd.prog W = .ok (.bool false) W := fun W => Lib.run_eql_slice_some_nil W _ _ _ Tryd.underlying57
  go_enter Tryd.func52, Tryd.ntmps52
  go_wp2_with (go_at_call 60; refine (bufLen b q T R _ _ _ hIs).mono ?_)
  rintro e W0 ⟨rfl, k, hW0⟩
  rw [hl]
  have hbk0 : LibA.Three W0 b q T R (.slice (some ⟨g, 0, none⟩) l cap) (.int .i64 0) (.int .i8 lr) := by rw [hW0]; exact hbk
  have hg0 : W0.heap[g]? = some (.cells cur 5 (0, 0)) := by rw [hW0]; exact hg
  have c0 : W0.cell? ⟨b, q, none⟩ = some (.slice (some ⟨g, 0, none⟩) l cap) := hbk0.c0
  have c1 : W0.cell? ⟨b, q + 1, none⟩ = some (.int .i64 0) := hbk0.c1
  have f0 : W0.frozen? ⟨b, q, none⟩ = false := hbk0.f q
  have f1 : W0.frozen? ⟨b, q + 1, none⟩ = false := hbk0.f (q + 1)
  have HW0 := Lib.hid hW0
  clear hW0 hIs
  have hcm' := hcm
  unfold maxLen at hcm'
  go_wp2_with (go_at_call 51; refine (tryGrow_none b q _ l cap n _ c0 hlc hcm hroom).mono ?_; rintro e w' ⟨rfl, rfl⟩)
  have hc2 : cap ≤ 140737488355328 := by omega
  have h1' : ∀ v ∈ cur.toList.take l, v.oneCell' = true := by rw [htake]; exact h1
  have hbW := hbk0.lt
  have hwn : IntKind.i64.wrap (n : Int) = n := by rw [IntKind.wrap_i64]; omega
  go_region_with (
      go_at_call 62
      refine (growSlice_row g l cap n cur _ ?_ hcs hlc hn hlim hc2 h1').mono ?_
      exact hg0
      rintro e w2 ⟨cap2, cells, rfl, hN, hcsz, htk, hcap2, hcm2, hbel⟩
      have hbk2 : LibA.Three w2 b q T R (.slice (some ⟨g, 0, none⟩) l cap) (.int .i64 0) (.int .i8 lr) := hbk0.of_heap (hbel.block b hbW)
      have d0 : w2.cell? ⟨b, q, none⟩ = some (.slice (some ⟨g, 0, none⟩) l cap) := hbk2.c0
      have d1 : w2.cell? ⟨b, q + 1, none⟩ = some (.int .i64 0) := hbk2.c1
      have e0 : w2.frozen? ⟨b, q, none⟩ = false := hbk2.f q
      have e1 : w2.frozen? ⟨b, q + 1, none⟩ = false := hbk2.f (q + 1))
  all_goals (
    go_wp2
    go_ret
    have hsz0 : w'.heap.size = w.heap.size := by rw [HW0.out]; rfl
    have hk0 : Keeps (fun k => k = b) w w'.drew := by rw [HW0.out]; exact ((Keeps.refl _ _).drewN k).drew
    have hk2 : Keeps (fun k => k = b) w w2 := hk0.below hbel (by show w.heap.size ≤ w'.heap.size; omega)
    have hNb : w'.heap.size ≠ b := by omega
    have hbkf := (((hbk2.set0 (.slice (some ⟨w'.heap.size, 0, none⟩) l cap2)).set1 (.int .i64 0)).set0 (.slice (some ⟨w'.heap.size, 0, none⟩) (l + n) cap2))
    have hNf : (((w2.setCell ⟨b, q, none⟩ (.slice (some ⟨w'.heap.size, 0, none⟩) l cap2)).setCell ⟨b, q + 1, none⟩ (.int .i64 0)).setCell ⟨b, q, none⟩ (.slice (some ⟨w'.heap.size, 0, none⟩) (l + n) cap2)).heap[w'.heap.size]? = some (.cells cells 5 (0, 0)) := by
      rw [Below.heap_setCell _ _ _ _ hNb, Below.heap_setCell _ _ _ _ hNb, Below.heap_setCell _ _ _ _ hNb]
      exact hN
    obtain ⟨xs, hxl, hxs⟩ := Lib.take_split cells.toList l n (by rw [Array.length_toList, hcsz]; exact hcap2)
    have hb := bf_mk hbkf hNf hcap2 hcm2 hcsz hNb
    rw [hxs, htk, htake] at hb
    exact ⟨rfl, xs, _, hxl, hb, ⟨_, rfl, by show w.heap.size ≤ w'.heap.size; omega⟩, ((hk2.setCell (by exact Or.inl rfl) _).setCell (by exact Or.inl rfl) _).setCell (by exact Or.inl rfl) _⟩)

end Go.Proofs.YthhpmeaajgjdeaaDoor

/- Fg: Buffer's grow over this program: a row with no byte in it. -/
namespace Go.Proofs.YthhpmeaajgjdeaaDoor
open Go Go.RowKit

set_option maxHeartbeats 1600000 in
set_option maxRecDepth 100000 in
/-- grow, the buffer holding a row with no byte in it and no room. -/
theorem grow_row0 (T : TypeId) (R : Nat → Option Value) (b q g cap n : Nat) (lr : Int) (cur : Array Value) (w : World)
    (hbk : LibA.Three w b q T R (.slice (some ⟨g, 0, none⟩) 0 cap) (.int .i64 0) (.int .i8 lr))
    (hg : w.heap[g]? = some (.cells cur 5 (0, 0))) (hcm : cap ≤ maxLen) (hcs : cur.size = cap) (hgb : g ≠ b)
    (hn : 1 ≤ n) (hroom : cap - 0 < n) (hlim : 0 + n ≤ 140737488355328) :
    Calls Tryd.prog 52 #[.pointer (some ⟨b, q, none⟩), .int .i64 n] w fun e w' => e = .returned (.int .i64 0) ∧ Grown1 w b q n T R [] w' := by
  have hIs : Bf w b q T R (.slice (some ⟨g, 0, none⟩) 0 cap) [] := by simpa using bf_mk hbk hg (Nat.zero_le _) hcm hcs hgb
  have hnil : ∀ W, (binOp .eql 57 (.slice (some ⟨g, 0, none⟩) 0 cap) (.slice none 0 0)).run Tryd.prog W = .ok (.bool false) W := fun W => Lib.run_eql_slice_some_nil W _ _ _ Tryd.underlying57
  go_enter Tryd.func52, Tryd.ntmps52
  go_wp2_with (go_at_call 60; refine (bufLen b q T R _ _ _ hIs).mono ?_)
  rintro e W0 ⟨rfl, k, hW0⟩
  have hbk0 : LibA.Three W0 b q T R (.slice (some ⟨g, 0, none⟩) 0 cap) (.int .i64 0) (.int .i8 lr) := by rw [hW0]; exact hbk
  have hg0 : W0.heap[g]? = some (.cells cur 5 (0, 0)) := by rw [hW0]; exact hg
  have c0 : W0.cell? ⟨b, q, none⟩ = some (.slice (some ⟨g, 0, none⟩) 0 cap) := hbk0.c0
  have c1 : W0.cell? ⟨b, q + 1, none⟩ = some (.int .i64 0) := hbk0.c1
  have f0 : W0.frozen? ⟨b, q, none⟩ = false := hbk0.f q
  have f1 : W0.frozen? ⟨b, q + 1, none⟩ = false := hbk0.f (q + 1)
  have HW0 := Lib.hid hW0
  clear hW0 hIs
  have hcm' := hcm
  unfold maxLen at hcm'
  go_wp2_with (go_at_call 51; refine (tryGrow_none b q _ 0 cap n _ c0 (Nat.zero_le _) hcm hroom).mono ?_; rintro e w' ⟨rfl, rfl⟩)
  have hc2 : cap ≤ 140737488355328 := by omega
  have h1' : ∀ v ∈ cur.toList.take 0, v.oneCell' = true := by simp
  have hbW := hbk0.lt
  have hwn : IntKind.i64.wrap (n : Int) = n := by rw [IntKind.wrap_i64]; omega
  go_region_with (
      go_at_call 62
      refine (growSlice_row g 0 cap n cur _ ?_ hcs (Nat.zero_le _) hn hlim hc2 h1').mono ?_
      exact hg0
      rintro e w2 ⟨cap2, cells, rfl, hN, hcsz, htk, hcap2, hcm2, hbel⟩
      have hbk2 : LibA.Three w2 b q T R (.slice (some ⟨g, 0, none⟩) 0 cap) (.int .i64 0) (.int .i8 lr) := hbk0.of_heap (hbel.block b hbW)
      have d0 : w2.cell? ⟨b, q, none⟩ = some (.slice (some ⟨g, 0, none⟩) 0 cap) := hbk2.c0
      have d1 : w2.cell? ⟨b, q + 1, none⟩ = some (.int .i64 0) := hbk2.c1
      have e0 : w2.frozen? ⟨b, q, none⟩ = false := hbk2.f q
      have e1 : w2.frozen? ⟨b, q + 1, none⟩ = false := hbk2.f (q + 1))
  all_goals (
    go_wp2
    go_ret
    have hsz0 : w'.heap.size = w.heap.size := by rw [HW0.out]; rfl
    have hk0 : Keeps (fun k => k = b) w w'.drew := by rw [HW0.out]; exact ((Keeps.refl _ _).drewN k).drew
    have hk2 : Keeps (fun k => k = b) w w2 := hk0.below hbel (by show w.heap.size ≤ w'.heap.size; omega)
    have hNb : w'.heap.size ≠ b := by omega
    have hbkf := (((hbk2.set0 (.slice (some ⟨w'.heap.size, 0, none⟩) 0 cap2)).set1 (.int .i64 0)).set0 (.slice (some ⟨w'.heap.size, 0, none⟩) n cap2))
    have hNf : (((w2.setCell ⟨b, q, none⟩ (.slice (some ⟨w'.heap.size, 0, none⟩) 0 cap2)).setCell ⟨b, q + 1, none⟩ (.int .i64 0)).setCell ⟨b, q, none⟩ (.slice (some ⟨w'.heap.size, 0, none⟩) n cap2)).heap[w'.heap.size]? = some (.cells cells 5 (0, 0)) := by
      rw [Below.heap_setCell _ _ _ _ hNb, Below.heap_setCell _ _ _ _ hNb, Below.heap_setCell _ _ _ _ hNb]
      exact hN
    exact ⟨rfl, cells.toList.take n, _, by rw [List.length_take, Array.length_toList]; omega, by simpa using bf_mk hbkf hNf (by omega) hcm2 hcsz hNb, ⟨_, rfl, by show w.heap.size ≤ w'.heap.size; omega⟩, ((hk2.setCell (by exact Or.inl rfl) _).setCell (by exact Or.inl rfl) _).setCell (by exact Or.inl rfl) _⟩)

end Go.Proofs.YthhpmeaajgjdeaaDoor

/- Fh: bytes.Buffer's writers over this program: WriteByte, Write, WriteString; each appends, in the buffer's own row or a new one. -/
namespace Go.Proofs.YthhpmeaajgjdeaaDoor
open Go Go.RowKit

/-- No room for n more in a slice. -/
def NoRm (v : Value) (n : Nat) : Prop := ∃ ao l cap, v = .slice ao l cap ∧ cap - l < n

theorem tryGrow_bf (b q n : Nat) (T : TypeId) (R : Nat → Option Value) (v : Value) (bs : List Value) (w : World) (h : Bf w b q T R v bs) :
    Calls Tryd.prog 51 #[.pointer (some ⟨b, q, none⟩), .int .i64 n] w fun e w' =>
      (e = .returned (.tuple #[.int .i64 bs.length, .bool true]) ∧ ∃ xs v', xs.length = n ∧ Bf w' b q T R v' (bs ++ xs) ∧ v'.ownBlock = v.ownBlock ∧ Keeps (fun k => k = b) w w') ∨
      (e = .returned (.tuple #[.int .i64 0, .bool false]) ∧ w' = w ∧ NoRm v n) := by
  obtain ⟨lr, hc⟩ := h.cases
  rcases hc with ⟨rfl, rfl, hbk⟩ | ⟨g, cap, cur, rfl, hbk, hg, hnc, hcm, hcs, htk, hgb⟩
  · by_cases hn : n = 0
    · subst hn
      refine (tryGrow_room b q none 0 0 0 w hbk.c0 (hbk.f q) (Nat.le_refl _) (Nat.zero_le _) (Nat.le_refl _)).mono ?_
      rintro e w' ⟨rfl, rfl⟩
      exact Or.inl ⟨rfl, [], .slice none 0 0, rfl, bf_zero (hbk.set0 _), rfl, (Keeps.refl _ _).setCell (by exact Or.inl rfl) _⟩
    · refine (tryGrow_none b q none 0 0 n w hbk.c0 (Nat.le_refl _) (Nat.zero_le _) (by omega)).mono ?_
      rintro e w' ⟨rfl, rfl⟩
      exact Or.inr ⟨rfl, rfl, none, 0, 0, rfl, by omega⟩
  · by_cases hr : n ≤ cap - bs.length
    · refine (tryGrow_room b q _ bs.length cap n w hbk.c0 (hbk.f q) hnc hcm hr).mono ?_
      rintro e w' ⟨rfl, rfl⟩
      obtain ⟨xs, hxl, hxs⟩ := Lib.take_split cur.toList bs.length n (by have : cur.toList.length = cur.size := Array.length_toList; omega)
      have hgf : (w.setCell ⟨b, q, none⟩ (.slice (some ⟨g, 0, none⟩) (bs.length + n) cap)).heap[g]? = some (.cells cur 5 (0, 0)) := by rw [Below.heap_setCell _ _ _ _ hgb]; exact hg
      have hb := bf_mk (hbk.set0 _) hgf (by omega) hcm hcs hgb
      rw [hxs, htk] at hb
      exact Or.inl ⟨rfl, xs, _, hxl, hb, rfl, (Keeps.refl _ _).setCell (by exact Or.inl rfl) _⟩
    · refine (tryGrow_none b q _ bs.length cap n w hbk.c0 hnc hcm (by omega)).mono ?_
      rintro e w' ⟨rfl, rfl⟩
      exact Or.inr ⟨rfl, rfl, _, _, _, rfl, by omega⟩

theorem grow_bf (b q n : Nat) (T : TypeId) (R : Nat → Option Value) (v : Value) (bs : List Value) (w : World) (h : Bf w b q T R v bs) (hnr : NoRm v n) (h1 : ∀ v ∈ bs, v.oneCell' = true) (hlim : bs.length + n ≤ 140737488355328) :
    Calls Tryd.prog 52 #[.pointer (some ⟨b, q, none⟩), .int .i64 n] w fun e w' => e = .returned (.int .i64 bs.length) ∧ Grown1 w b q n T R bs w' := by
  obtain ⟨ao, l, cap0, hv, hlt⟩ := hnr
  obtain ⟨lr, hc⟩ := h.cases
  rcases hc with ⟨rfl, rfl, hbk⟩ | ⟨g, cap, cur, rfl, hbk, hg, hnc, hcm, hcs, htk, hgb⟩
  · cases hv
    by_cases h64 : n ≤ 64
    · exact grow_nil_small T R b q n lr w hbk (by omega) h64
    · exact grow_nil_big T R b q n lr w hbk (by omega) (by simpa using hlim)
  · cases hv
    by_cases hl0 : bs.length = 0
    · have hb0 : bs = [] := List.eq_nil_of_length_eq_zero hl0
      subst hb0
      exact grow_row0 T R b q g _ n lr cur w hbk hg hcm hcs hgb (by simp at hlt; omega) hlt hlim
    · exact grow_row T R b q g bs.length _ n lr cur bs w hbk hl0 rfl hg hnc hcm hcs htk hgb h1 (by omega) hlt hlim

/-- The last-read mark does not matter. -/
theorem Bf.setLast {w : World} {b q : Nat} {T : TypeId} {R : Nat → Option Value} {v : Value} {bs : List Value} (h : Bf w b q T R v bs) (x : Int) : Bf (w.setCell ⟨b, q + 2, none⟩ (.int .i8 x)) b q T R v bs := by
  obtain ⟨lr, h3, ho, hne⟩ := h
  exact ⟨x, h3.set2 _, ownsRow_keeps (S := fun k => k = b) ho ((Keeps.refl _ _).setCell (by exact Or.inl rfl) _) (fun k e he => hne (by rw [← he]; exact e)), hne⟩

/-- What the bytes that were reserved become. -/
theorem bf_written {w : World} {b q : Nat} {T : TypeId} {R : Nat → Option Value} {g cap : Nat} {lr : Int} {cur : Array Value} {bs xs news : List Value}
    (hbk : LibA.Three w b q T R (.slice (some ⟨g, 0, none⟩) (bs ++ xs).length cap) (.int .i64 0) (.int .i8 lr)) (hg : w.heap[g]? = some (.cells cur 5 (0, 0)))
    (hnc : (bs ++ xs).length ≤ cap) (hcm : cap ≤ maxLen) (hcs : cur.size = cap) (htk : cur.toList.take (bs ++ xs).length = bs ++ xs) (hgb : g ≠ b) (hx : xs.length = news.length) :
    Bf (w.setRow g (cur.toList.take bs.length ++ news ++ cur.toList.drop (bs.length + news.length)).toArray) b q T R (.slice (some ⟨g, 0, none⟩) (bs ++ xs).length cap) (bs ++ news) := by
  have e1 : cur.toList.take bs.length = bs := by
    have h3 := congrArg (List.take bs.length) htk
    rwa [List.take_take, List.length_append, Nat.min_eq_left (Nat.le_add_right _ _), List.take_left' rfl] at h3
  have hcl : cur.toList.length = cap := by rw [Array.length_toList]; exact hcs
  rw [List.length_append] at hnc
  have h := bf_mk (hbk.of_heap (w' := w.setRow g (cur.toList.take bs.length ++ news ++ cur.toList.drop (bs.length + news.length)).toArray) (setRow_other _ _ _ _ (Ne.symm hgb))) (setRow_heap w g cur _ 5 (0, 0) hg) (by rw [List.length_append]; exact hnc) hcm
    (by simp only [List.size_toArray, List.length_append, List.length_take, List.length_drop, hcl]; omega) hgb
  have e2 : (cur.toList.take bs.length ++ news ++ cur.toList.drop (bs.length + news.length)).toArray.toList.take (bs ++ xs).length = bs ++ news := by
    rw [List.toList_toArray, e1, List.take_append_of_le_length (by simp only [List.length_append]; omega), List.take_of_length_le (by simp only [List.length_append]; omega)]
  rw [e2] at h
  exact h

theorem bf_poked {w : World} {b q : Nat} {T : TypeId} {R : Nat → Option Value} {g cap : Nat} {lr : Int} {cur : Array Value} {bs xs : List Value} {u : Value}
    (hbk : LibA.Three w b q T R (.slice (some ⟨g, 0, none⟩) (bs ++ xs).length cap) (.int .i64 0) (.int .i8 lr)) (hg : w.heap[g]? = some (.cells cur 5 (0, 0)))
    (hnc : (bs ++ xs).length ≤ cap) (hcm : cap ≤ maxLen) (hcs : cur.size = cap) (htk : cur.toList.take (bs ++ xs).length = bs ++ xs) (hgb : g ≠ b) (hx : xs.length = 1) :
    Bf (w.setCell ⟨g, bs.length, none⟩ u) b q T R (.slice (some ⟨g, 0, none⟩) (bs ++ xs).length cap) (bs ++ [u]) := by
  have e1 : cur.toList.take bs.length = bs := by
    have h3 := congrArg (List.take bs.length) htk
    rwa [List.take_take, List.length_append, Nat.min_eq_left (Nat.le_add_right _ _), List.take_left' rfl] at h3
  have hcl : cur.toList.length = cap := by rw [Array.length_toList]; exact hcs
  have hlen : (bs ++ xs).length = bs.length + 1 := by rw [List.length_append, hx]
  rw [hlen] at hnc
  have h := bf_mk (hbk.of_heap (w' := w.setCell ⟨g, bs.length, none⟩ u) (Below.heap_setCell _ _ _ _ (Ne.symm hgb))) (Lib.heap_setCell_same (i := bs.length) hg u) (by rw [hlen]; exact hnc) hcm (by simpa using hcs) hgb
  have e2 : (cur.setIfInBounds bs.length u).toList.take (bs ++ xs).length = bs ++ [u] := by
    rw [hlen, Array.toList_setIfInBounds, List.take_add_one, List.take_set_of_le (Nat.le_refl _), List.getElem?_set_self (by omega), e1]
    rfl
  rw [e2] at h
  exact h

theorem bfS_grown {w w' : World} {b : Nat} {v v' : Value} (hk : Keeps (fun k => k = b) w w') (hf : Fresh w v v') {k : Nat} (hv : v'.ownBlock = some k) : BfS b v k ∨ w.heap.size ≤ k := by
  rcases hf with hf | ⟨j, hf, hj⟩
  · exact Or.inl (Or.inr (by rw [← hf]; exact hv))
  · rw [hf] at hv; cases hv; exact Or.inr hj

set_option maxHeartbeats 800000 in
/-- WriteByte. -/
theorem bufWriteByte (b q : Nat) (T : TypeId) (R : Nat → Option Value) (v : Value) (bs : List Value) (c : Int) (w : World) (h : Bf w b q T R v bs) (h1 : ∀ v ∈ bs, v.oneCell' = true) (hlim : bs.length + 1 ≤ 140737488355328) :
    Calls Tryd.prog 32 #[.pointer (some ⟨b, q, none⟩), .int .u8 c] w fun e w' => e = .returned .nilIface ∧ BfPut w b q T R v (bs ++ [.int .u8 c]) w' := by
  obtain ⟨lr, h3, -, -⟩ := id h
  have c2 := h3.c2
  have f2 := h3.f (q + 2)
  have h' := h.setLast 0
  have hk0 : Keeps (fun k => k = b) w (w.setCell ⟨b, q + 2, none⟩ (.int .i8 0)) := (Keeps.refl _ _).setCell (by exact Or.inl rfl) _
  clear h3
  go_enter Tryd.func32, Tryd.ntmps32
  go_wp2_with (go_at_call 51; refine (tryGrow_bf b q 1 T R v bs _ ?_).mono ?_)
  · exact h'
  rintro e W1 (⟨rfl, xs, v1, hxl, hI, hv1, hk1⟩ | ⟨rfl, rfl, hnr⟩)
  · have hk := hk0.same hk1
    clear h' hk0 hk1 c2 f2
    obtain ⟨lr2, hc⟩ := hI.cases
    rcases hc with ⟨-, hnil, -⟩ | ⟨g, cap, cur, rfl, hbk, hg, hnc, hcm, hcs, htk, hgb⟩
    · exact absurd (congrArg List.length hnil) (by rw [List.length_append, hxl, List.length_nil]; omega)
    · have hlen : (bs ++ xs).length = bs.length + 1 := by rw [List.length_append, hxl]
      have d0 : W1.cell? ⟨b, q, none⟩ = some (.slice (some ⟨g, 0, none⟩) (bs.length + 1) cap) := by rw [← hlen]; exact hbk.c0
      have hll : bs.length < cur.size := by omega
      have dg : W1.cell? ⟨g, bs.length, none⟩ = some (cur[bs.length]) := by rw [Lib.cell_of_heap hg]; simp [hll]
      have fg : W1.frozen? ⟨g, bs.length, none⟩ = false := Lib.frozen_of_heap hg _
      have hcm' := hcm
      unfold maxLen at hcm'
      have hb := bf_poked (u := .int .u8 c) hbk hg hnc hcm hcs htk hgb hxl
      have HB := Lib.hid hb
      have HL := Lib.hid hlen
      clear hb hlen hbk hI htk hnc hxl
      go_wp2
      go_ret
      refine ⟨rfl, _, HB.out, Or.inl hv1, ?_⟩
      exact (hk.mono (fun k _ e => Or.inl e)).setCell (by exact Or.inl (Or.inr hv1.symm)) _
  · go_wp2_with (go_at_call 52; refine (grow_bf b q 1 T R v bs _ ?_ hnr h1 hlim).mono ?_)
    · exact h'
    rintro e W1 ⟨rfl, xs, v1, hxl, hI, ⟨k1, hv1, hk1'⟩, hk1⟩
    have hk := hk0.same hk1
    have hk1'' : w.heap.size ≤ k1 := by simpa [World.setCell] using hk1'
    clear h' hk0 hk1 c2 f2 hk1'
    obtain ⟨lr2, hc⟩ := hI.cases
    rcases hc with ⟨-, hnil, -⟩ | ⟨g, cap, cur, rfl, hbk, hg, hnc, hcm, hcs, htk, hgb⟩
    · exact absurd (congrArg List.length hnil) (by rw [List.length_append, hxl, List.length_nil]; omega)
    · cases hv1
      have hlen : (bs ++ xs).length = bs.length + 1 := by rw [List.length_append, hxl]
      have d0 : W1.cell? ⟨b, q, none⟩ = some (.slice (some ⟨g, 0, none⟩) (bs.length + 1) cap) := by rw [← hlen]; exact hbk.c0
      have hll : bs.length < cur.size := by omega
      have dg : W1.cell? ⟨g, bs.length, none⟩ = some (cur[bs.length]) := by rw [Lib.cell_of_heap hg]; simp [hll]
      have fg : W1.frozen? ⟨g, bs.length, none⟩ = false := Lib.frozen_of_heap hg _
      have hcm' := hcm
      unfold maxLen at hcm'
      have hb := bf_poked (u := .int .u8 c) hbk hg hnc hcm hcs htk hgb hxl
      have HB := Lib.hid hb
      have HL := Lib.hid hlen
      clear hb hlen hbk hI htk hnc hxl
      go_wp2
      go_ret
      refine ⟨rfl, _, HB.out, Or.inr ⟨g, rfl, hk1''⟩, ?_⟩
      exact (hk.mono (fun k _ e => Or.inl e)).setCell (by exact Or.inr hk1'') _

end Go.Proofs.YthhpmeaajgjdeaaDoor

/- Fi: bytes.Buffer's Write, WriteString, String over this program. -/
namespace Go.Proofs.YthhpmeaajgjdeaaDoor
open Go Go.RowKit

theorem byteSize : (Tryd.prog.info? 5).map (·.size) = some 1 := by kernel_rfl

/-- What the first store of a writer and the room leave. -/
def Reserved (w : World) (b q n : Nat) (T : TypeId) (R : Nat → Option Value) (v : Value) (bs : List Value) (W1 : World) : Prop :=
  ∃ xs g cap cur lr, xs.length = n ∧ LibA.Three W1 b q T R (.slice (some ⟨g, 0, none⟩) (bs ++ xs).length cap) (.int .i64 0) (.int .i8 lr) ∧ W1.heap[g]? = some (.cells cur 5 (0, 0)) ∧
    (bs ++ xs).length ≤ cap ∧ cap ≤ maxLen ∧ cur.size = cap ∧ cur.toList.take (bs ++ xs).length = bs ++ xs ∧ g ≠ b ∧ (BfS b v g ∨ w.heap.size ≤ g) ∧ Fresh w v (.slice (some ⟨g, 0, none⟩) (bs ++ xs).length cap) ∧ Keeps (fun k => k = b) w W1

theorem reserved_of {w W1 : World} {b q n : Nat} {T : TypeId} {R : Nat → Option Value} {v v1 : Value} {bs xs : List Value} (hn : n ≠ 0) (hxl : xs.length = n) (hI : Bf W1 b q T R v1 (bs ++ xs)) (hf : Fresh w v v1) (hk : Keeps (fun k => k = b) w W1) : Reserved w b q n T R v bs W1 := by
  obtain ⟨lr2, hc⟩ := hI.cases
  rcases hc with ⟨-, hnil, -⟩ | ⟨g, cap, cur, rfl, hbk, hg, hnc, hcm, hcs, htk, hgb⟩
  · exact absurd (congrArg List.length hnil) (by rw [List.length_append, hxl, List.length_nil]; omega)
  · exact ⟨xs, g, cap, cur, lr2, hxl, hbk, hg, hnc, hcm, hcs, htk, hgb, bfS_grown hk hf rfl, hf, hk⟩

set_option maxHeartbeats 1600000 in
/-- Write of a slice that is not empty. -/
theorem bufWrite (b q : Nat) (T : TypeId) (R : Nat → Option Value) (v : Value) (bs cs : List Value) (a : Addr) (n c : Nat) (w : World) (h : Bf w b q T R v bs) (h1 : ∀ v ∈ bs, v.oneCell' = true)
    (hn : cs.length = n) (hn0 : n ≠ 0) (hab : a.block ≠ b) (hsrc : ∀ j v, cs[j]? = some v → w.cell? (a.add j) = some v) (h1c : ∀ v ∈ cs, v.oneCell' = true) (hlim : bs.length + n ≤ 140737488355328) :
    Calls Tryd.prog 59 #[.pointer (some ⟨b, q, none⟩), .slice (some a) n c] w fun e w' => e = .returned (.tuple #[.int .i64 n, .nilIface]) ∧ BfPut w b q T R v (bs ++ cs) w' := by
  obtain ⟨lr, h3, -, -⟩ := id h
  have c2 := h3.c2
  have f2 := h3.f (q + 2)
  have h' := h.setLast 0
  have hk0 : Keeps (fun k => k = b) w (w.setCell ⟨b, q + 2, none⟩ (.int .i8 0)) := (Keeps.refl _ _).setCell (by exact Or.inl rfl) _
  have fin : ∀ W1, Reserved w b q n T R v bs W1 → ∃ (g cap : Nat) (Y : Array Value), W1.cell? ⟨b, q, none⟩ = some (.slice (some ⟨g, 0, none⟩) (bs.length + n) cap) ∧ cap ≤ 9223372036854775807 ∧ bs.length + n ≤ cap ∧
      (Builtin.copy_ #[57, 57] 3 #[.slice (some ⟨g, bs.length, none⟩) n (cap - bs.length), .slice (some a) n c]).run Tryd.prog W1 = .ok (goInt n) (W1.setRow g Y) ∧
      BfPut w b q T R v (bs ++ cs) (W1.setRow g Y) := by
    rintro W1 ⟨xs, g, cap, cur, lr2, hxl, hbk, hg, hnc, hcm, hcs, htk, hgb, hS, hf, hk⟩
    have hlen : (bs ++ xs).length = bs.length + n := by rw [List.length_append, hxl]
    have hsrc1 : ∀ j v, cs[j]? = some v → W1.cell? (a.add j) = some v := fun j v hj => hk.cell (hsrc j v hj) (by rw [Lib.block_add]; exact hab)
    have hcp := run_copy_row (P := Tryd.prog) W1 57 57 3 5 g bs.length n (cap - bs.length) a n c cur 5 cs Tryd.underlying57 byteSize hg (by rw [hn]; exact (Nat.min_self n).symm) hsrc1 (by rw [hn]; omega) h1c
    rw [hn] at hcp
    have hb := bf_written (news := cs) hbk hg hnc hcm hcs htk hgb (by omega)
    rw [hn] at hb
    exact ⟨g, cap, _, by rw [← hlen]; exact hbk.c0, by simpa [maxLen] using hcm, by omega, hcp, _, hb, hf, (hk.mono (S' := BfS b v) (fun k _ e => Or.inl e)).setRow hS _⟩
  clear h3
  go_enter Tryd.func59, Tryd.ntmps59
  go_wp2_with (go_at_call 51; refine (tryGrow_bf b q n T R v bs _ ?_).mono ?_)
  · exact h'
  rintro e W1 (⟨rfl, xs, v1, hxl, hI, hv1, hk1⟩ | ⟨rfl, rfl, hnr⟩)
  · obtain ⟨g, cap, Y, d0, hcm, hnc, hcp, hput⟩ := fin W1 (reserved_of hn0 hxl hI (Or.inl hv1) (hk0.same hk1))
    clear h' hk0 hk1 c2 f2 hI fin
    have HP := Lib.hid hput
    have HV := Lib.hid hv1
    have HX := Lib.hid hxl
    have HN := Lib.hid hn
    clear hput hv1 hxl hn
    have hne : ¬ cap = bs.length := by omega
    go_wp2
    go_ret2
    exact ⟨rfl, HP.out⟩
  · go_wp2_with (go_at_call 52; refine (grow_bf b q n T R v bs _ ?_ hnr h1 hlim).mono ?_)
    · exact h'
    rintro e W1 ⟨rfl, xs, v1, hxl, hI, ⟨k1, hv1, hk1'⟩, hk1⟩
    have hk1'' : w.heap.size ≤ k1 := by simpa [World.setCell] using hk1'
    obtain ⟨g, cap, Y, d0, hcm, hnc, hcp, hput⟩ := fin W1 (reserved_of hn0 hxl hI (Or.inr ⟨k1, hv1, hk1''⟩) (hk0.same hk1))
    clear h' hk0 hk1 c2 f2 hI fin hk1'
    have HP := Lib.hid hput
    have HV := Lib.hid hv1
    have HX := Lib.hid hxl
    have HN := Lib.hid hn
    clear hput hv1 hxl hn
    have hne : ¬ cap = bs.length := by omega
    go_wp2
    go_ret2
    exact ⟨rfl, HP.out⟩

set_option maxHeartbeats 1600000 in
/-- WriteString. -/
theorem bufWriteString (b q : Nat) (T : TypeId) (R : Nat → Option Value) (v : Value) (bs : List Value) (s : ByteArray) (w : World) (h : Bf w b q T R v bs) (h1 : ∀ v ∈ bs, v.oneCell' = true) (hlim : bs.length + s.size ≤ 140737488355328) :
    Calls Tryd.prog 85 #[.pointer (some ⟨b, q, none⟩), .string s] w fun e w' => e = .returned (.tuple #[.int .i64 s.size, .nilIface]) ∧ BfPut w b q T R v (bs ++ Lib.byteCells s.data.toList) w' := by
  obtain ⟨lr, h3, -, -⟩ := id h
  have c2 := h3.c2
  have f2 := h3.f (q + 2)
  have h' := h.setLast 0
  have hk0 : Keeps (fun k => k = b) w (w.setCell ⟨b, q + 2, none⟩ (.int .i8 0)) := (Keeps.refl _ _).setCell (by exact Or.inl rfl) _
  clear h3
  by_cases hs0 : s.size = 0
  · have hce : ∀ d dLen dCap W, (Builtin.copy_ #[57, 9] 3 #[.slice d dLen dCap, .string s]).run Tryd.prog W = .ok (goInt 0) W := fun d dLen dCap W => Lib.run_copy_empty_string W 57 9 3 5 d dLen dCap s Tryd.underlying57 (by rw [byteSize]; rfl) hs0
    have hbc : Lib.byteCells s.data.toList = [] := List.eq_nil_of_length_eq_zero (by rw [Lib.byteCells_length, ← Lib.size_eq]; exact hs0)
    have hT : ∀ W, Bf W b q T R v bs → Calls Tryd.prog 51 #[.pointer (some ⟨b, q, none⟩), .int .i64 0] W _ := fun W hW => tryGrow_bf b q 0 T R v bs W hW
    go_enter Tryd.func85, Tryd.ntmps85
    go_wp2_with (go_at_call 51; refine (hT _ ?_).mono ?_)
    · exact h'
    rintro e W1 (⟨rfl, xs, v1, hxl, hI, hv1, hk1⟩ | ⟨rfl, rfl, hnr⟩)
    · have hk := (hk0.same hk1).mono (S' := BfS b v) (fun k _ e => Or.inl e)
      clear h' c2 f2 hT hk0 hk1
      have hx0 : xs = [] := List.eq_nil_of_length_eq_zero hxl
      subst hx0
      rw [List.append_nil] at hI
      have hput : BfPut w b q T R v bs W1 := ⟨v1, hI, Or.inl hv1, hk⟩
      obtain ⟨ao, cap, hv, hnc, hcm, d0, d1⟩ := bf_cells hI
      clear hv hv1 hI
      have HP := Lib.hid hput
      clear hput
      by_cases hcap : cap = bs.length
      all_goals
        go_wp2
        all_goals (go_ret2; exact ⟨by simp [hs0], by simpa [hbc] using HP.out⟩)
    · obtain ⟨_, _, _, _, hlt⟩ := hnr
      omega
  · have fin : ∀ W1, Reserved w b q s.size T R v bs W1 → ∃ (g cap : Nat) (Y : Array Value), W1.cell? ⟨b, q, none⟩ = some (.slice (some ⟨g, 0, none⟩) (bs.length + s.size) cap) ∧ cap ≤ 9223372036854775807 ∧ bs.length + s.size ≤ cap ∧
        (Builtin.copy_ #[57, 9] 3 #[.slice (some ⟨g, bs.length, none⟩) s.size (cap - bs.length), .string s]).run Tryd.prog W1 = .ok (goInt s.size) (W1.setRow g Y) ∧
        BfPut w b q T R v (bs ++ Lib.byteCells s.data.toList) (W1.setRow g Y) := by
      rintro W1 ⟨xs, g, cap, cur, lr2, hxl, hbk, hg, hnc, hcm, hcs, htk, hgb, hS, hf, hk⟩
      have hlen : (bs ++ xs).length = bs.length + s.size := by rw [List.length_append, hxl]
      have hnl : (Lib.byteCells s.data.toList).length = s.size := by rw [Lib.byteCells_length, ← Lib.size_eq]
      have hcp := Lib.run_copy_row_string (P := Tryd.prog) W1 57 9 3 5 g bs.length s.size (cap - bs.length) s cur 5 Tryd.underlying57 byteSize hg (Nat.le_refl _) (by omega)
      have hb := bf_written (news := Lib.byteCells s.data.toList) hbk hg hnc hcm hcs htk hgb (by omega)
      rw [hnl] at hb
      exact ⟨g, cap, _, by rw [← hlen]; exact hbk.c0, by simpa [maxLen] using hcm, by omega, hcp, _, hb, hf, (hk.mono (S' := BfS b v) (fun k _ e => Or.inl e)).setRow hS _⟩
    go_enter Tryd.func85, Tryd.ntmps85
    go_wp2_with (go_at_call 51; refine (tryGrow_bf b q s.size T R v bs _ ?_).mono ?_)
    · exact h'
    rintro e W1 (⟨rfl, xs, v1, hxl, hI, hv1, hk1⟩ | ⟨rfl, rfl, hnr⟩)
    · obtain ⟨g, cap, Y, d0, hcm, hnc, hcp, hput⟩ := fin W1 (reserved_of hs0 hxl hI (Or.inl hv1) (hk0.same hk1))
      clear h' hk0 hk1 c2 f2 hI fin
      have HP := Lib.hid hput
      have HV := Lib.hid hv1
      have HX := Lib.hid hxl
      clear hput hv1 hxl
      have hne : ¬ cap = bs.length := by omega
      go_wp2
      go_ret2
      exact ⟨rfl, HP.out⟩
    · go_wp2_with (go_at_call 52; refine (grow_bf b q s.size T R v bs _ ?_ hnr h1 hlim).mono ?_)
      · exact h'
      rintro e W1 ⟨rfl, xs, v1, hxl, hI, ⟨k1, hv1, hk1'⟩, hk1⟩
      have hk1'' : w.heap.size ≤ k1 := by simpa [World.setCell] using hk1'
      obtain ⟨g, cap, Y, d0, hcm, hnc, hcp, hput⟩ := fin W1 (reserved_of hs0 hxl hI (Or.inr ⟨k1, hv1, hk1''⟩) (hk0.same hk1))
      clear h' hk0 hk1 c2 f2 hI fin hk1'
      have HP := Lib.hid hput
      have HV := Lib.hid hv1
      have HX := Lib.hid hxl
      clear hput hv1 hxl
      have hne : ¬ cap = bs.length := by omega
      go_wp2
      go_ret2
      exact ⟨rfl, HP.out⟩

set_option maxHeartbeats 1600000 in
/-- String: the bytes; only draws. -/
theorem bufString (b q : Nat) (T : TypeId) (R : Nat → Option Value) (v : Value) (l : List UInt8) (w : World) (h : Bf w b q T R v (Lib.byteCells l)) :
    Calls Tryd.prog 17 #[.pointer (some ⟨b, q, none⟩)] w fun e w' => e = .returned (.string ⟨l.toArray⟩) ∧ ∃ n, w' = w.drewN n := by
  obtain ⟨lr, hc⟩ := h.cases
  rcases hc with ⟨rfl, hnil, hbk⟩ | ⟨g, cap, cur, rfl, hbk, hg, hnc, hcm, hcs, htk, hgb⟩
  · have hl : l = [] := by simpa [Lib.byteCells] using hnil
    subst hl
    have c0 : w.cell? ⟨b, q, none⟩ = some (.slice none 0 0) := hbk.c0
    have c1 : w.cell? ⟨b, q + 1, none⟩ = some (.int .i64 0) := hbk.c1
    have hcv : ∀ W, (convert 57 9 (.slice none 0 0)).run Tryd.prog W = .ok (.string ⟨#[]⟩) W := fun W => Lib.run_convert_nil_bytes W _ _ _ 0 Tryd.underlying57 Tryd.underlying5 Tryd.underlying9
    go_enter Tryd.func17, Tryd.ntmps17
    go_wp2
    go_region
    all_goals (go_wp2; go_ret; exact ⟨rfl, 1, rfl⟩)
  · rw [Lib.byteCells_length] at hbk hnc htk
    have c0 : w.cell? ⟨b, q, none⟩ = some (.slice (some ⟨g, 0, none⟩) l.length cap) := hbk.c0
    have c1 : w.cell? ⟨b, q + 1, none⟩ = some (.int .i64 0) := hbk.c1
    have hcv := run_convert_bytes_back (P := Tryd.prog) w.drew 57 9 5 ⟨g, 0, none⟩ cap l Tryd.underlying57 Tryd.underlying5 Tryd.underlying9 (Lib.bytes_of_row (w := w.drew) hg htk)
    unfold maxLen at hcm
    go_enter Tryd.func17, Tryd.ntmps17
    go_wp2
    go_region
    all_goals (go_wp2; go_ret; exact ⟨rfl, 1, rfl⟩)

end Go.Proofs.YthhpmeaajgjdeaaDoor
