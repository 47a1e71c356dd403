/- Elements as plain data; the plain law of Pack; the record that Pack fills. -/
import Derived.Test.YthhpmeaajgjdeaaDoorX12

set_option linter.unusedVariables false
set_option linter.unusedSimpArgs false

/- Na: Elements and their bits, as they lie and as plain lists; what Pack makes of them; frames and NewPkgEncoder. -/
namespace Go.Proofs.YthhpmeaajgjdeaaDoor
open Go Go.RowKit

structure El where
  sec : Nat
  marker : Nat
  bits : List Bt

structure El.Ok (x : El) : Prop where
  sec1 : 1 ≤ x.sec
  sec10 : x.sec < 10
  marker1 : 1 ≤ x.marker
  marker60 : x.marker ≤ 60
  len : x.bits.length ≤ 60
  bits : ∀ b ∈ x.bits, b.Ok

/-- One bit written. -/
def Es.step (sf : Int) (e : Es) (b : Bt) : Es := if b.kind = 0 then e.bool sf (b.num != 0) else e.bit sf b
/-- An element begun. -/
def Es.begin (sf : Int) (secs : Nat → List ByteArray) (x : El) : Es := ⟨[], sy sf x.marker, secPut secs x.sec ⟨#[]⟩⟩
def Es.all (sf : Int) (secs : Nat → List ByteArray) (x : El) : Es := x.bits.foldl (Es.step sf) (Es.begin sf secs x)
/-- The sections behind an element. -/
def packEl (sf : Int) (secs : Nat → List ByteArray) (x : El) : Nat → List ByteArray :=
  secSet (Es.all sf secs x).secs x.sec (secs x.sec).length ⟨((Es.all sf secs x).flush sf).toArray⟩
def packAll (sf : Int) (els : List El) : Nat → List ByteArray := els.foldl (packEl sf) fun _ => []

/-- A slice of bits below B. -/
def BitsAt (w : World) (B : Nat) (v : Value) (bits : List Bt) : Prop :=
  (∃ ao, v = .slice ao 0 0 ∧ bits = []) ∨ ∃ b o c, v = .slice (some ⟨b, o, none⟩) bits.length c ∧ b < B ∧ ∀ (j : Nat) (x : Bt), bits[j]? = some x →
    w.cell? ⟨b, o + j * 5, none⟩ = some (.int .i64 x.kind) ∧ w.cell? ⟨b, o + j * 5 + 1, none⟩ = some (.int .i64 x.num) ∧ w.cell? ⟨b, o + j * 5 + 2, none⟩ = some (.int .i64 x.sec) ∧
    w.cell? ⟨b, o + j * 5 + 3, none⟩ = some (.string x.text) ∧ ∃ tv, w.cell? ⟨b, o + j * 5 + 4, none⟩ = some tv ∧ StrsAt w (fun k => B ≤ k) tv x.texts

/-- A slice of elements below B. -/
def ElsAt (w : World) (B : Nat) (v : Value) (els : List El) : Prop :=
  (∃ ao, v = .slice ao 0 0 ∧ els = []) ∨ ∃ b o c, v = .slice (some ⟨b, o, none⟩) els.length c ∧ b < B ∧ ∀ (j : Nat) (x : El), els[j]? = some x →
    w.cell? ⟨b, o + j * 3, none⟩ = some (.int .i64 x.sec) ∧ w.cell? ⟨b, o + j * 3 + 1, none⟩ = some (.int .i64 x.marker) ∧ ∃ bv, w.cell? ⟨b, o + j * 3 + 2, none⟩ = some bv ∧ BitsAt w B bv x.bits

theorem StrsAt.keeps {w w1 : World} {S T : Nat → Prop} {v : Value} {ss : List ByteArray} (h : StrsAt w S v ss) (hk : Keeps T w w1) (hT : ∀ j, T j → S j) : StrsAt w1 S v ss := by
  rcases h with h | ⟨b, o, c, rfl, h1, h2⟩
  · exact Or.inl h
  · exact Or.inr ⟨b, o, c, rfl, h1, fun j s hj => ⟨hk.cell (h2 j s hj).1 fun e => h1 (hT _ e), (h2 j s hj).2⟩⟩
theorem StrsAt.mono {w : World} {S T : Nat → Prop} {v : Value} {ss : List ByteArray} (h : StrsAt w S v ss) (hT : ∀ j, T j → S j) : StrsAt w T v ss := by
  rcases h with h | ⟨b, o, c, rfl, h1, h2⟩
  · exact Or.inl h
  · exact Or.inr ⟨b, o, c, rfl, fun e => h1 (hT _ e), h2⟩

theorem BitsAt.keeps {w w1 : World} {B : Nat} {v : Value} {bits : List Bt} (h : BitsAt w B v bits) (hk : Keeps (fun j => B ≤ j) w w1) : BitsAt w1 B v bits := by
  rcases h with h | ⟨b, o, c, rfl, h1, h2⟩
  · exact Or.inl h
  · refine Or.inr ⟨b, o, c, rfl, h1, fun j x hj => ?_⟩
    obtain ⟨a0, a1, a2, a3, tv, a4, a5⟩ := h2 j x hj
    have hn : ¬ B ≤ b := by omega
    exact ⟨hk.cell a0 hn, hk.cell a1 hn, hk.cell a2 hn, hk.cell a3 hn, tv, hk.cell a4 hn, a5.keeps hk fun _ h => h⟩
theorem BitsAt.mono {w : World} {B B' : Nat} {v : Value} {bits : List Bt} (h : BitsAt w B v bits) (hB : B ≤ B') : BitsAt w B' v bits := by
  rcases h with h | ⟨b, o, c, rfl, h1, h2⟩
  · exact Or.inl h
  · refine Or.inr ⟨b, o, c, rfl, by omega, fun j x hj => ?_⟩
    obtain ⟨a0, a1, a2, a3, tv, a4, a5⟩ := h2 j x hj
    exact ⟨a0, a1, a2, a3, tv, a4, a5.mono fun j h => by omega⟩
theorem ElsAt.keeps {w w1 : World} {B : Nat} {v : Value} {els : List El} (h : ElsAt w B v els) (hk : Keeps (fun j => B ≤ j) w w1) : ElsAt w1 B v els := by
  rcases h with h | ⟨b, o, c, rfl, h1, h2⟩
  · exact Or.inl h
  · refine Or.inr ⟨b, o, c, rfl, h1, fun j x hj => ?_⟩
    obtain ⟨a0, a1, bv, a2, a3⟩ := h2 j x hj
    have hn : ¬ B ≤ b := by omega
    exact ⟨hk.cell a0 hn, hk.cell a1 hn, bv, hk.cell a2 hn, a3.keeps hk⟩
theorem ElsAt.mono {w : World} {B B' : Nat} {v : Value} {els : List El} (h : ElsAt w B v els) (hB : B ≤ B') : ElsAt w B' v els := by
  rcases h with h | ⟨b, o, c, rfl, h1, h2⟩
  · exact Or.inl h
  · refine Or.inr ⟨b, o, c, rfl, by omega, fun j x hj => ?_⟩
    obtain ⟨a0, a1, bv, a2, a3⟩ := h2 j x hj
    exact ⟨a0, a1, bv, a2, a3.mono hB⟩

/-- What frames gives. -/
def sfOf (fr : Bool) : Int := if fr then 0 else -1
set_option maxHeartbeats 400000 in
theorem framesC (fr : Bool) (w : World) : Calls Tryd.prog 11 #[.bool fr] w fun e w' => e = .returned (.int .i64 (sfOf fr)) ∧ w' = w := by
  cases fr
  · go_enter Tryd.func11, Tryd.ntmps11
    go_wp2
    go_ret
    exact ⟨rfl, rfl⟩
  · go_enter Tryd.func11, Tryd.ntmps11
    go_wp2
    go_ret
    exact ⟨rfl, rfl⟩

set_option maxHeartbeats 1000000 in
/-- NewPkgEncoder: the value; its map is new. -/
theorem newPkg (ver : Int) (sf : Int) (w : World) : Calls Tryd.prog 10 #[.int .u32 ver, .int .i64 sf] w fun e w' => ∃ ms, e = .returned (.agg (pkgCells ver (fun _ => .slice none 0 0) ms sf)) ∧ w'.heap[ms]? = some (.map #[] 0) ∧ w.heap.size ≤ ms ∧ Keeps (fun _ => False) w w' := by
  have hmm := @run_makeMap Tryd.prog
  go_enter Tryd.func10, Tryd.ntmps10
  go_wp2
  refine bodyPost_ret (results_cell_row rfl _ _ w.heap.size 45 _ (0, 0) _ rfl (heap_alloc2_old w _ _) Tryd.underlying45 rfl (by kernel_rfl)) rfl ⟨w.heap.size + 1, rfl, heap_alloc2_new w _ _, by omega, ((Keeps.refl _ _).alloc _).alloc _⟩

end Go.Proofs.YthhpmeaajgjdeaaDoor

/- Nb: Plain laws of what Pack makes: which sections a bit turns, how long they grow. -/
namespace Go.Proofs.YthhpmeaajgjdeaaDoor
open Go Go.RowKit

section
variable {sf : Int} {e : Es} {b : Bt} {N : Nat}

theorem strPut_other (secs : Nat → List ByteArray) (s : ByteArray) (j : Nat) (hj : j ≠ 0) : strPut secs s j = secs j := by
  unfold strPut; split
  · rfl
  · simp [secPut, hj]
theorem put_secs (l : List UInt8) (e : Es) : (e.put l).secs = e.secs := rfl
theorem len_secs (n : Nat) (e : Es) : (e.len sf n).secs = e.secs := rfl
theorem reloc_secs (p : Int × Int) (e : Es) : (e.reloc sf p).secs = e.secs := rfl
theorem str_secs (s : ByteArray) (e : Es) : (e.str sf s).secs = strPut e.secs s := rfl

/-- The strings of a bit. -/
def Bt.strs (b : Bt) : List ByteArray := if b.kind = 6 then [b.text] else if b.kind = 7 then b.texts else []

theorem strs_secs (ss : List ByteArray) (e : Es) : (e.strs sf ss).secs = ss.foldl strPut e.secs := by
  have : ∀ (ss : List ByteArray) (e : Es), (ss.foldl (fun e s => e.str sf s) e).secs = ss.foldl strPut e.secs := by
    intro ss
    induction ss with
    | nil => intro e; rfl
    | cons s ss ih => intro e; simp only [List.foldl_cons]; rw [ih]; rfl
  exact this ss _

theorem bit_secs (e : Es) (b : Bt) : (e.bit sf b).secs = b.strs.foldl strPut e.secs := by
  unfold Es.bit Bt.strs
  by_cases h1 : b.kind = 1 ∨ b.kind = 4
  · have h6 : ¬ b.kind = 6 := by omega
    have h7 : ¬ b.kind = 7 := by omega
    simp [h1, h6, h7, put_secs]
  · by_cases h2 : b.kind = 2 ∨ b.kind = 5
    · have h6 : ¬ b.kind = 6 := by omega
      have h7 : ¬ b.kind = 7 := by omega
      simp [h1, h2, h6, h7, put_secs]
    · by_cases h3 : b.kind = 3
      · have h6 : ¬ b.kind = 6 := by omega
        have h7 : ¬ b.kind = 7 := by omega
        simp [h3, len_secs]
      · by_cases h6 : b.kind = 6
        · simp [h6, str_secs]
        · by_cases h7 : b.kind = 7
          · simp [h7, strs_secs]
          · rw [if_neg h1, if_neg h2, if_neg h3, if_neg h6, if_neg h7, if_neg h6, if_neg h7]
            split
            · rfl
            split
            · rfl
            split
            · rfl
            split
            · rfl
            · rfl

theorem step_secs (e : Es) (b : Bt) : (e.step sf b).secs = b.strs.foldl strPut e.secs := by
  unfold Es.step
  split
  next h => simp [Bt.strs, h, Es.bool, put_secs]
  next h => exact bit_secs e b

theorem foldStr_other (ss : List ByteArray) : ∀ (secs : Nat → List ByteArray) (j : Nat), j ≠ 0 → ss.foldl strPut secs j = secs j := by
  induction ss with
  | nil => intro secs j hj; rfl
  | cons s ss ih => intro secs j hj; simp only [List.foldl_cons]; rw [ih _ _ hj, strPut_other _ _ _ hj]

theorem foldStr_length (ss : List ByteArray) : ∀ (secs : Nat → List ByteArray), (ss.foldl strPut secs 0).length ≤ (secs 0).length + ss.length := by
  induction ss with
  | nil => intro secs; simp
  | cons s ss ih => intro secs; simp only [List.foldl_cons, List.length_cons]; have := ih (strPut secs s); have := strPut_length secs s; omega

theorem strs_len (hb : b.Ok) : b.strs.length ≤ 20 := by
  have := hb.texts
  unfold Bt.strs
  split
  · simp
  split
  · exact this
  · simp

theorem step_other (e : Es) (b : Bt) (j : Nat) (hj : j ≠ 0) : (e.step sf b).secs j = e.secs j := by rw [step_secs]; exact foldStr_other _ _ _ hj
theorem step_length (hb : b.Ok) : ((e.step sf b).secs 0).length ≤ (e.secs 0).length + 20 := by
  rw [step_secs]
  have := foldStr_length b.strs e.secs
  have := strs_len hb
  omega
theorem step_le (hb : b.Ok) (h : e.Le N) (hN : N < 200000) : (e.step sf b).Le (N + 100) := by
  unfold Es.step
  split
  · exact Es.bool_le h
  · exact Es.bit_le hb h hN

/-- The references are no negative numbers. -/
def Es.NN (e : Es) : Prop := ∀ p ∈ e.relocs, 0 ≤ p.1 ∧ 0 ≤ p.2

theorem NN.reloc (h : e.NN) (p : Int × Int) (hp : 0 ≤ p.1 ∧ 0 ≤ p.2) : (e.reloc sf p).NN := by
  intro q hq
  simp only [Es.reloc, relPut] at hq
  split at hq
  · exact h q hq
  · simp only [List.mem_append, List.mem_singleton] at hq
    rcases hq with hq | rfl
    · exact h q hq
    · exact hp
theorem NN.str (h : e.NN) (s : ByteArray) : (e.str sf s).NN := by
  unfold Es.str
  refine NN.reloc ?_ _ ⟨Int.le_refl _, by simp⟩
  exact h
theorem NN.strs (h : e.NN) (ss : List ByteArray) : (e.strs sf ss).NN := by
  have : ∀ (ss : List ByteArray) (e : Es), e.NN → (ss.foldl (fun e s => e.str sf s) e).NN := by
    intro ss
    induction ss with
    | nil => intro e h; exact h
    | cons s ss ih => intro e h; simp only [List.foldl_cons]; exact ih _ (NN.str h s)
  exact this ss _ h
theorem NN.step (hb : b.Ok) (h : e.NN) : (e.step sf b).NN := by
  unfold Es.step
  split
  · exact h
  unfold Es.bit
  split
  · exact h
  split
  · exact h
  split
  · exact h
  split
  · exact NN.str h _
  split
  · exact NN.strs h _
  split
  next h8 =>
    have := hb.reloc h8
    exact NN.reloc h _ ⟨this.1, this.2.2.1⟩
  split
  · exact h
  split
  · exact h
  split
  · exact h
  · exact h

end

/-- So far of an element. -/
def Es.upTo (sf : Int) (secs : Nat → List ByteArray) (x : El) (j : Nat) : Es := (x.bits.take j).foldl (Es.step sf) (Es.begin sf secs x)

theorem upTo_succ {sf : Int} {secs : Nat → List ByteArray} {x : El} {j : Nat} {b : Bt} (h : x.bits[j]? = some b) : Es.upTo sf secs x (j + 1) = (Es.upTo sf secs x j).step sf b := by
  obtain ⟨hk, rfl⟩ := List.getElem?_eq_some_iff.1 h
  simp only [Es.upTo]
  rw [List.take_succ_eq_append_getElem hk, List.foldl_append]
  rfl
theorem upTo_all (sf : Int) (secs : Nat → List ByteArray) (x : El) : Es.upTo sf secs x x.bits.length = Es.all sf secs x := by simp [Es.upTo, Es.all]

/-- What holds so far of an element. -/
structure UpTo (secs : Nat → List ByteArray) (x : El) (M j : Nat) (e : Es) : Prop where
  le : e.Le (M + 1 + 100 * j)
  strs : (e.secs 0).length ≤ M + 20 * j
  other : ∀ i, i ≠ 0 → e.secs i = secPut secs x.sec ⟨#[]⟩ i
  nn : e.NN

theorem upTo_ok {sf : Int} {secs : Nat → List ByteArray} {x : El} (hx : x.Ok) {M : Nat} (hM : (secs 0).length ≤ M) (hM2 : M ≤ 100000) : ∀ j, j ≤ x.bits.length → UpTo secs x M j (Es.upTo sf secs x j)
  | 0, _ => by
    have h1 := hx.sec1
    have h2 := hx.marker60
    have h3 := sy_length sf x.marker (by omega)
    have e0 : secPut secs x.sec ⟨#[]⟩ 0 = secs 0 := by simp only [secPut]; rw [if_neg (by omega)]
    refine ⟨⟨?_, ?_, ?_⟩, ?_, fun i hi => rfl, ?_⟩
    · simp only [Es.upTo, List.take_zero, List.foldl_nil, Es.begin]; omega
    · simp [Es.upTo, Es.begin]
    · simp only [Es.upTo, List.take_zero, List.foldl_nil, Es.begin]; rw [e0]; omega
    · simp only [Es.upTo, List.take_zero, List.foldl_nil, Es.begin]; rw [e0]; omega
    · intro p hp; simp [Es.upTo, Es.begin] at hp
  | j + 1, hj => by
    have h := upTo_ok (sf := sf) hx hM hM2 j (by omega)
    have hl := hx.len
    have hge := List.getElem?_eq_getElem (by omega : j < x.bits.length)
    have hb := hx.bits _ (List.getElem_mem (by omega : j < x.bits.length))
    rw [upTo_succ hge]
    refine ⟨?_, ?_, fun i hi => (step_other _ _ i hi).trans (h.other i hi), NN.step hb h.nn⟩
    · exact (step_le hb h.le (by omega)).mono (by omega)
    · have := step_length (sf := sf) (e := Es.upTo sf secs x j) hb
      have := h.strs
      omega

/-- What holds of the sections behind so many elements. -/
structure PkUpTo (i : Nat) (secs : Nat → List ByteArray) : Prop where
  strs : (secs 0).length ≤ 1200 * i
  other : ∀ k, k ≠ 0 → (secs k).length ≤ i

theorem packEl_ok {sf : Int} {secs : Nat → List ByteArray} {x : El} (hx : x.Ok) {i : Nat} (hi : i < 60) (h : PkUpTo i secs) : PkUpTo (i + 1) (packEl sf secs x) := by
  have h1 := hx.sec1
  have hl := hx.len
  have hu := upTo_ok (sf := sf) hx h.strs (by omega) x.bits.length (Nat.le_refl _)
  rw [upTo_all] at hu
  refine ⟨?_, fun k hk => ?_⟩
  · simp only [packEl, secSet]
    rw [if_neg (by omega)]
    have := hu.strs
    omega
  · have := hu.other k hk
    have hk2 := h.other k hk
    simp only [packEl, secSet]
    by_cases e : k = x.sec
    · subst e
      rw [if_pos rfl, List.length_set, this]
      simp only [secPut, if_true, List.length_append, List.length_cons, List.length_nil]; omega
    · rw [if_neg e, this]
      simp only [secPut, if_neg e]; omega

end Go.Proofs.YthhpmeaajgjdeaaDoor

/- Nc: The record that Pack fills, beside its encoders. -/
namespace Go.Proofs.YthhpmeaajgjdeaaDoor
open Go Go.RowKit

def tiCells (iv tv : Value) : Array Value := #[.string ⟨#[]⟩, iv, tv, .int .u8 0, .int .u8 0, .int .u8 0, .int .u8 0, .int .u8 0, .int .u8 0, .int .u8 0, .int .u8 0]

/-- The record in block pk: its two slices, apart from S, from B on. -/
structure TI (w : World) (S : Nat → Prop) (B pk : Nat) (iv tv : Value) (ni nt : Nat) : Prop where
  blk : w.heap[pk]? = some (.cells (tiCells iv tv) 34 (0, 0))
  irow : ∃ xs, w.ownsRow 0 2 1 iv ni xs
  trow : ∃ xs, w.ownsRow 0 4 1 tv nt xs
  pkB : B ≤ pk
  pkS : ¬ S pk
  iB : ∀ j, iv.ownBlock = some j → B ≤ j ∧ ¬ S j
  tB : ∀ j, tv.ownBlock = some j → B ≤ j ∧ ¬ S j

section
variable {w w1 w' : World} {S T : Nat → Prop} {B pk : Nat} {iv tv : Value} {ni nt : Nat}

theorem TI.lt (h : TI w S B pk iv tv ni nt) : pk < w.heap.size := Lib.lt_of_heap h.blk
theorem TI.mono (h : TI w S B pk iv tv ni nt) (hT : ∀ j, j < w.heap.size → T j → S j) : TI w T B pk iv tv ni nt := by
  obtain ⟨xs, hi⟩ := h.irow
  obtain ⟨ys, ht⟩ := h.trow
  exact ⟨h.blk, ⟨xs, hi⟩, ⟨ys, ht⟩, h.pkB, fun e => h.pkS (hT _ h.lt e), fun j hj => ⟨(h.iB j hj).1, fun e => (h.iB j hj).2 (hT _ (ownsRow_lt hi j hj) e)⟩, fun j hj => ⟨(h.tB j hj).1, fun e => (h.tB j hj).2 (hT _ (ownsRow_lt ht j hj) e)⟩⟩

/-- While S alone changes. -/
theorem TI.put (h : TI w S B pk iv tv ni nt) (hk : Keeps S w w') : TI w' (Grow S w w') B pk iv tv ni nt := by
  obtain ⟨xs, hi⟩ := h.irow
  obtain ⟨ys, ht⟩ := h.trow
  have hG : ∀ j, j < w.heap.size → ¬ S j → ¬ Grow S w w' j := by
    rintro j hj hS (e | e)
    · exact hS e
    · omega
  exact ⟨hk.heap h.blk h.pkS, ⟨xs, ownsRow_keeps hi hk fun j hj => (h.iB j hj).2⟩, ⟨ys, ownsRow_keeps ht hk fun j hj => (h.tB j hj).2⟩, h.pkB, hG _ h.lt h.pkS,
    fun j hj => ⟨(h.iB j hj).1, hG _ (ownsRow_lt hi j hj) (h.iB j hj).2⟩, fun j hj => ⟨(h.tB j hj).1, hG _ (ownsRow_lt ht j hj) (h.tB j hj).2⟩⟩
theorem TI.keep (h : TI w S B pk iv tv ni nt) (hk : Keeps (fun _ => False) w w') : TI w' S B pk iv tv ni nt := by
  obtain ⟨xs, hi⟩ := h.irow
  obtain ⟨ys, ht⟩ := h.trow
  exact ⟨hk.heap h.blk (fun h => h), ⟨xs, ownsRow_keeps hi hk fun _ _ h => h⟩, ⟨ys, ownsRow_keeps ht hk fun _ _ h => h⟩, h.pkB, h.pkS, h.iB, h.tB⟩

theorem TI.cell1 (h : TI w S B pk iv tv ni nt) : w.cell? ⟨pk, 1, none⟩ = some iv := by rw [Lib.cell_of_heap h.blk]; rfl
theorem TI.cell2 (h : TI w S B pk iv tv ni nt) : w.cell? ⟨pk, 2, none⟩ = some tv := by rw [Lib.cell_of_heap h.blk]; rfl

theorem ti_set {w : World} {pk : Nat} {iv tv : Value} (h : w.heap[pk]? = some (.cells (tiCells iv tv) 34 (0, 0))) (x : Value) :
    (w.setCell ⟨pk, 1, none⟩ x).heap[pk]? = some (.cells (tiCells x tv) 34 (0, 0)) ∧ (w.setCell ⟨pk, 2, none⟩ x).heap[pk]? = some (.cells (tiCells iv x) 34 (0, 0)) :=
  ⟨Lib.heap_setCell_same (i := 1) h x, Lib.heap_setCell_same (i := 2) h x⟩

/-- A truth value told. -/
theorem TI.told (h : TI w S B pk iv tv ni nt) (hB : B ≤ w.heap.size) (hS : ∀ j, S j → j < w.heap.size) {v' : Value} {xs : List Value} (ho : w'.ownsRow 0 4 1 v' (nt + 1) xs) (hk : Keeps (fun j => tv.ownBlock = some j) w w') (hf : Fresh w tv v') :
    w'.cell? ⟨pk, 2, none⟩ = some tv ∧ w'.frozen? ⟨pk, 2, none⟩ = false ∧ TI (w'.setCell ⟨pk, 2, none⟩ v') S B pk iv v' ni (nt + 1) ∧ Keeps (fun j => B ≤ j ∧ ¬ S j) w (w'.setCell ⟨pk, 2, none⟩ v') := by
  obtain ⟨xi, hi⟩ := h.irow
  obtain ⟨ys, ht⟩ := h.trow
  have hnp : tv.ownBlock ≠ some pk := row_tag ht h.blk (by decide)
  have hb : w'.heap[pk]? = some (.cells (tiCells iv tv) 34 (0, 0)) := hk.heap h.blk hnp
  have hv' : ∀ j, v'.ownBlock = some j → B ≤ j ∧ ¬ S j := by
    intro j hj
    rcases hf with e | ⟨n, e, hn⟩
    · exact h.tB j (by rw [← e]; exact hj)
    · rw [e] at hj; cases hj; exact ⟨by omega, fun e2 => by have := hS _ e2; omega⟩
  have hk1 : Keeps (fun j => j = pk) w' (w'.setCell ⟨pk, 2, none⟩ v') := (Keeps.refl (fun j => j = pk) w').setCell (p := ⟨pk, 2, none⟩) (by exact Or.inl rfl) _
  have hi' : w'.ownsRow 0 2 1 iv ni xi := ownsRow_keeps hi hk fun j hj e => by
    obtain ⟨cur, hg⟩ := ownsRow_block hi hj
    obtain ⟨cur2, hg2⟩ := ownsRow_block ht e
    rw [hg] at hg2; cases hg2
  refine ⟨by rw [Lib.cell_of_heap hb]; rfl, Lib.frozen_of_heap hb 2, ⟨(ti_set hb v').2, ⟨xi, ownsRow_keeps hi' hk1 fun j hj e => row_tag hi' hb (by decide) (e ▸ hj)⟩, ⟨xs, ownsRow_keeps ho hk1 fun j hj e => row_tag ho hb (by decide) (e ▸ hj)⟩, h.pkB, h.pkS, h.iB, hv'⟩, ?_⟩
  exact (hk.mono (S' := fun j => B ≤ j ∧ ¬ S j) fun j _ e => h.tB j e).same (hk1.mono fun j _ e => ⟨e ▸ h.pkB, e ▸ h.pkS⟩)

/-- An index told. -/
theorem TI.index (h : TI w S B pk iv tv ni nt) (hB : B ≤ w.heap.size) (hS : ∀ j, S j → j < w.heap.size) {v' : Value} {xs : List Value} (ho : w'.ownsRow 0 2 1 v' (ni + 1) xs) (hk : Keeps (fun j => iv.ownBlock = some j) w w') (hf : Fresh w iv v') :
    w'.cell? ⟨pk, 1, none⟩ = some iv ∧ w'.frozen? ⟨pk, 1, none⟩ = false ∧ TI (w'.setCell ⟨pk, 1, none⟩ v') S B pk v' tv (ni + 1) nt ∧ Keeps (fun j => B ≤ j ∧ ¬ S j) w (w'.setCell ⟨pk, 1, none⟩ v') := by
  obtain ⟨xi, hi⟩ := h.irow
  obtain ⟨ys, ht⟩ := h.trow
  have hnp : iv.ownBlock ≠ some pk := row_tag hi h.blk (by decide)
  have hb : w'.heap[pk]? = some (.cells (tiCells iv tv) 34 (0, 0)) := hk.heap h.blk hnp
  have hv' : ∀ j, v'.ownBlock = some j → B ≤ j ∧ ¬ S j := by
    intro j hj
    rcases hf with e | ⟨n, e, hn⟩
    · exact h.iB j (by rw [← e]; exact hj)
    · rw [e] at hj; cases hj; exact ⟨by omega, fun e2 => by have := hS _ e2; omega⟩
  have hk1 : Keeps (fun j => j = pk) w' (w'.setCell ⟨pk, 1, none⟩ v') := (Keeps.refl (fun j => j = pk) w').setCell (p := ⟨pk, 1, none⟩) (by exact Or.inl rfl) _
  have ht' : w'.ownsRow 0 4 1 tv nt ys := ownsRow_keeps ht hk fun j hj e => by
    obtain ⟨cur, hg⟩ := ownsRow_block ht hj
    obtain ⟨cur2, hg2⟩ := ownsRow_block hi e
    rw [hg] at hg2; cases hg2
  refine ⟨by rw [Lib.cell_of_heap hb]; rfl, Lib.frozen_of_heap hb 1, ⟨(ti_set hb v').1, ⟨xs, ownsRow_keeps ho hk1 fun j hj e => row_tag ho hb (by decide) (e ▸ hj)⟩, ⟨ys, ownsRow_keeps ht' hk1 fun j hj e => row_tag ht' hb (by decide) (e ▸ hj)⟩, h.pkB, h.pkS, hv', h.tB⟩, ?_⟩
  exact (hk.mono (S' := fun j => B ≤ j ∧ ¬ S j) fun j _ e => h.iB j e).same (hk1.mono fun j _ e => ⟨e ▸ h.pkB, e ▸ h.pkS⟩)
end

/-- The table of sha256's constants as it lies. -/
def Kat (w : World) (K : Nat → Int) : Prop := ∀ i, i < 64 → w.cell? ⟨7, i, none⟩ = some (.int .u32 (K i))

theorem Kat.keeps {w w1 : World} {T : Nat → Prop} {K : Nat → Int} (h : Kat w K) (hk : Keeps T w w1) (hT : ¬ T 7) : Kat w1 K := fun i hi => hk.cell (h i hi) hT

end Go.Proofs.YthhpmeaajgjdeaaDoor
