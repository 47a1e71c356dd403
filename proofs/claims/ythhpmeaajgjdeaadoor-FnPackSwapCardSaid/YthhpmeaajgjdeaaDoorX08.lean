/- The encoder's reloc, string and strings; a bit is written; newEncoder. -/
import Derived.Test.YthhpmeaajgjdeaaDoorX07

set_option linter.unusedVariables false
set_option linter.unusedSimpArgs false

/- Ja: What an encoder's methods do, as plain functions; and strings and references over this program. -/
namespace Go.Proofs.YthhpmeaajgjdeaaDoor
open Go Go.RowKit

/-- An encoder's references and bytes, and its package's sections. -/
structure Es where
  relocs : List (Int × Int)
  bs : List UInt8
  secs : Nat → List ByteArray

def Es.put (e : Es) (l : List UInt8) : Es := { e with bs := e.bs ++ l }
def Es.len (sf : Int) (n : Nat) (e : Es) : Es := e.put (sy sf 4 ++ Lib.uvarint n)
def Es.reloc (sf : Int) (p : Int × Int) (e : Es) : Es := { relocs := relPut e.relocs p, bs := e.bs ++ (sy sf 10 ++ (sy sf 4 ++ Lib.uvarint (e.relocs.idxOf p))), secs := e.secs }
def Es.intern (s : ByteArray) (e : Es) : Es := { e with secs := strPut e.secs s }
def Es.str (sf : Int) (s : ByteArray) (e : Es) : Es := ((e.intern s).put (sy sf 5)).reloc sf (0, ((e.secs 0).idxOf s : Nat))
def Es.strs (sf : Int) (ss : List ByteArray) (e : Es) : Es := ss.foldl (fun e s => e.str sf s) (e.len sf ss.length)

/-- Bounds that grow by one with each of those. -/
structure Es.Le (e : Es) (N : Nat) : Prop where
  bs : e.bs.length ≤ 100 * N
  relocs : e.relocs.length ≤ N
  strs : (e.secs 0).length ≤ N

theorem Es.Le.mono {e : Es} {N M : Nat} (h : e.Le N) (hm : N ≤ M) : e.Le M := ⟨by have := h.bs; omega, by have := h.relocs; omega, by have := h.strs; omega⟩

theorem Es.Le.put {e : Es} {N : Nat} (h : e.Le N) {l : List UInt8} (hl : l.length ≤ 100) : (e.put l).Le (N + 1) :=
  ⟨by have := h.bs; simp only [Es.put, List.length_append]; omega, by have := h.relocs; simp only [Es.put]; omega, by have := h.strs; simp only [Es.put]; omega⟩

theorem relPut_length (l : List (Int × Int)) (p : Int × Int) : (relPut l p).length ≤ l.length + 1 := by
  unfold relPut; split <;> simp

theorem idxOf_le (l : List (Int × Int)) (p : Int × Int) : l.idxOf p ≤ l.length := List.idxOf_le_length

theorem strPut_length (secs : Nat → List ByteArray) (s : ByteArray) : (strPut secs s 0).length ≤ (secs 0).length + 1 := by
  unfold strPut; split
  · omega
  · simp [secPut]

/-- The encoder and its package, in those terms. -/
def StE (w : World) (S : Nat → Prop) (be bp : Nat) (e : Es) (hdr : Bool) (k idx : Int) (ver : Int) (ms : Nat) (sf : Int) : Prop := St w S be bp e.relocs e.bs hdr k idx ver e.secs ms sf
def StEPut (w : World) (S : Nat → Prop) (be bp : Nat) (e : Es) (hdr : Bool) (k idx : Int) (ver : Int) (ms : Nat) (sf : Int) (w' : World) : Prop := StPut w S be bp e.relocs e.bs hdr k idx ver e.secs ms sf w'

section
variable {w w1 w2 : World} {S : Nat → Prop} {be bp : Nat} {e e1 e2 : Es} {hdr hdr1 hdr2 : Bool} {k idx : Int} {ver : Int} {ms : Nat} {sf : Int}

theorem StE.lt (h : StE w S be bp e hdr k idx ver ms sf) : ∀ j, S j → j < w.heap.size := St.lt h
theorem StEPut.refl (h : StE w S be bp e hdr k idx ver ms sf) : StEPut w S be bp e hdr k idx ver ms sf w := StPut.refl h
theorem StEPut.trans (h : StEPut w S be bp e1 hdr1 k idx ver ms sf w1) (h2 : StEPut w1 (Grow S w w1) be bp e2 hdr2 k idx ver ms sf w2) (hlt : ∀ j, S j → j < w.heap.size) : StEPut w S be bp e2 hdr2 k idx ver ms sf w2 := StPut.trans h h2 hlt

/-- A writer of bytes. -/
theorem StE.lift (h : StE w S be bp e hdr k idx ver ms sf) : ∃ R v pc, Enc w be bp R v e.bs pc sf ∧ ∀ l w', EncPut w be bp R v (e.bs ++ l) pc sf w' → StEPut w S be bp (e.put l) hdr k idx ver ms sf w' := by
  obtain ⟨F, pc, he, hl⟩ := St.enc h
  obtain ⟨R, v, h1, h2⟩ := he.lift
  exact ⟨R, v, pc, h1, fun l w' hp => hl _ _ _ _ (h2 _ _ hp)⟩

/-- A string put among the strings. -/
theorem StE.intern (h : StE w S be bp e hdr k idx ver ms sf) (s : ByteArray) (hs : s.size ≤ maxLen) (hlen : (e.secs 0).length < 1000000) :
    Calls Tryd.prog 48 #[.pointer (some ⟨bp, 0, none⟩), .string s] w fun r w' => r = .returned (.int .i32 ((e.secs 0).idxOf s)) ∧ StEPut w S be bp (e.intern s) hdr k idx ver ms sf w' := by
  obtain ⟨F, G, sl, h1, h2, h3, h4, h5, h6⟩ := h
  refine (stringIdx h2 s hs hlen).mono ?_
  rintro r w' ⟨rfl, sl', hS, hk⟩
  refine ⟨rfl, ⟨F, Grow G w w', sl', ?_, hS, ?_, fun j hj => Or.inl (h4 j hj), ?_, grow_lt h6 hk.size⟩, hk.mono fun j _ hj => h5 j hj⟩
  · obtain ⟨rsv, mapv, v, he, hr, hm, hnd, hok, hFb, hFv, hFr, hFm, hlt⟩ := h1
    refine ⟨rsv, mapv, v, ⟨he.buf.keeps hk ?_, he.ptr, hS.all.blk, rfl⟩, ownsRow_keeps hr hk fun j hj hG => h3 j (hFr j hj) hG, ?_, hnd, hok, hFb, hFv, hFr, hFm, fun j hj => Nat.lt_of_lt_of_le (hlt j hj) hk.size⟩
    · rintro j (rfl | hj) hG
      · exact h3 _ hFb hG
      · exact h3 j (hFv j hj) hG
    · rcases hm with hm | ⟨m, rfl, hm⟩
      · exact Or.inl hm
      · exact Or.inr ⟨m, rfl, hk.heap hm fun hG => h3 m (hFm m rfl) hG⟩
  · rintro j hF (hG | hG)
    · exact h3 j hF hG
    · have := h1.lt j hF; omega
  · rintro j (hj | hj)
    · exact Or.inl (h5 j hj)
    · exact Or.inr hj

theorem stSync (h : StE w S be bp e hdr k idx ver ms sf) {N : Nat} (hN : e.Le N) (hN9 : N < 900000) (m : Nat) (hm : m < 9223372036854775808) :
    Calls Tryd.prog 22 #[.pointer (some ⟨be, 0, none⟩), .int .i64 m] w fun r w' => r = .returned (.tuple #[]) ∧ StEPut w S be bp (e.put (sy sf m)) hdr k idx ver ms sf w' := by
  obtain ⟨R, v, pc, h1, h2⟩ := h.lift
  exact (sync be bp m hm R v _ pc sf w h1 (by have := hN.bs; omega)).mono fun r w' ⟨a, b⟩ => ⟨a, h2 _ _ b⟩

theorem stLen (h : StE w S be bp e hdr k idx ver ms sf) {N : Nat} (hN : e.Le N) (hN9 : N < 900000) (n : Nat) (hn : n < 9223372036854775808) :
    Calls Tryd.prog 25 #[.pointer (some ⟨be, 0, none⟩), .int .i64 n] w fun r w' => r = .returned (.tuple #[]) ∧ StEPut w S be bp (e.len sf n) hdr k idx ver ms sf w' := by
  obtain ⟨R, v, pc, h1, h2⟩ := h.lift
  exact (encLen be bp R v _ pc sf w h1 (by have := hN.bs; omega) n hn).mono fun r w' ⟨a, b⟩ => ⟨a, h2 _ _ b⟩

theorem Es.len_le {e : Es} {N : Nat} (h : e.Le N) (n : Nat) (hn : n < 18446744073709551616) : (e.len sf n).Le (N + 1) := by
  refine h.put ?_
  have := sy_length sf 4 (by omega)
  have := Lib.uvarint_length64 hn
  simp only [List.length_append]; omega

theorem stRawReloc (h : StE w S be bp e hdr k idx ver ms sf) {N : Nat} (hN : e.Le N) (hN9 : N < 900000) (p : Int × Int) (hp : ok32 p) :
    Calls Tryd.prog 47 #[.pointer (some ⟨be, 0, none⟩), .int .i32 p.1, .int .i32 p.2] w fun r w' => r = .returned (.int .i64 (e.relocs.idxOf p)) ∧ StEPut w S be bp { e with relocs := relPut e.relocs p } hdr k idx ver ms sf w' := by
  obtain ⟨F, pc, he, hl⟩ := St.enc h
  exact (rawReloc he p hp (by have := hN.relocs; omega)).mono fun r w' ⟨a, b⟩ => ⟨a, hl _ _ _ _ b⟩

set_option maxHeartbeats 800000 in
theorem stReloc (h : StE w S be bp e hdr k idx ver ms sf) {N : Nat} (hN : e.Le N) (hN9 : N < 800000) (p1 p2 : Int) (hp : ok32 (p1, p2)) :
    Calls Tryd.prog 30 #[.pointer (some ⟨be, 0, none⟩), .int .i32 p1, .int .i32 p2] w fun r w' => r = .returned (.tuple #[]) ∧ StEPut w S be bp (e.reloc sf (p1, p2)) hdr k idx ver ms sf w' := by
  have hlt := h.lt
  have hl := sy_length sf 10 (by omega)
  have hN1 : (e.put (sy sf 10)).Le (N + 1) := hN.put (by omega)
  go_enter Tryd.func30, Tryd.ntmps30
  go_wp2_with (go_at_call 22; refine (stSync h hN (by omega) 10 (by omega)).mono ?_; rintro r w1 ⟨rfl, hp1⟩; refine Hid.out ?_)
  refine Lib.hid ?_
  go_wp2_with (go_at_call 47; refine (stRawReloc hp1.1 hN1 (by omega) (p1, p2) hp).mono ?_; rintro r w2 ⟨rfl, hp2⟩; refine Hid.out ?_)
  refine Lib.hid ?_
  have hN2 : Es.Le { (e.put (sy sf 10)) with relocs := relPut (e.put (sy sf 10)).relocs (p1, p2) } (N + 1) := ⟨hN1.bs, by have := relPut_length e.relocs (p1, p2); have := hN.relocs; simp only [Es.put]; omega, hN1.strs⟩
  have hi := idxOf_le (e.put (sy sf 10)).relocs (p1, p2)
  have hi2 := hN1.relocs
  go_wp2_with (go_at_call 25; refine (stLen hp2.1 hN2 (by omega) _ (by omega)).mono ?_; rintro r w3 ⟨rfl, hp3⟩)
  go_end0
  refine ⟨rfl, ?_⟩
  have h3 := hp1.trans (hp2.trans hp3 hp1.1.lt) hlt
  have e1 : Es.len sf ((e.put (sy sf 10)).relocs.idxOf (p1, p2)) { (e.put (sy sf 10)) with relocs := relPut (e.put (sy sf 10)).relocs (p1, p2) } = e.reloc sf (p1, p2) := by
    simp [Es.len, Es.put, Es.reloc]
  rw [← e1]; exact h3

theorem Es.reloc_le {e : Es} {N : Nat} (h : e.Le N) (hN9 : N < 900000) (p : Int × Int) : (e.reloc sf p).Le (N + 1) := by
  have h1 := sy_length sf 10 (by omega)
  have h2 := sy_length sf 4 (by omega)
  have h3 := idxOf_le e.relocs p
  have h4 := h.relocs
  have h5 := Lib.uvarint_length64 (x := e.relocs.idxOf p) (by omega)
  have h6 := relPut_length e.relocs p
  have h7 := h.bs
  have h8 := h.strs
  exact ⟨by simp only [Es.reloc, List.length_append]; omega, by simp only [Es.reloc]; omega, by simp only [Es.reloc]; omega⟩

set_option maxHeartbeats 800000 in
theorem stStringRef (h : StE w S be bp e hdr k idx ver ms sf) {N : Nat} (hN : e.Le N) (hN9 : N < 700000) (p2 : Int) (hp : ok32 (0, p2)) :
    Calls Tryd.prog 50 #[.pointer (some ⟨be, 0, none⟩), .int .i32 p2] w fun r w' => r = .returned (.tuple #[]) ∧ StEPut w S be bp ((e.put (sy sf 5)).reloc sf (0, p2)) hdr k idx ver ms sf w' := by
  have hlt := h.lt
  have hl := sy_length sf 5 (by omega)
  have hN1 : (e.put (sy sf 5)).Le (N + 1) := hN.put (by omega)
  go_enter Tryd.func50, Tryd.ntmps50
  go_wp2_with (go_at_call 22; refine (stSync h hN (by omega) 5 (by omega)).mono ?_; rintro r w1 ⟨rfl, hp1⟩; refine Hid.out ?_)
  refine Lib.hid ?_
  go_wp2_with (go_at_call 30; refine (stReloc hp1.1 hN1 (by omega) 0 p2 hp).mono ?_; rintro r w2 ⟨rfl, hp2⟩)
  go_end0
  exact ⟨rfl, hp1.trans hp2 hlt⟩

theorem ok32_nat (n : Nat) (hn : n < 2147483648) : ok32 (0, (n : Int)) := by
  refine ⟨show (Lit.int .i32 0).wf = true by decide, ?_⟩
  simp [Lit.wf, IntKind.min, IntKind.max, IntKind.signed, IntKind.bits]
  omega

theorem idxOf_leS (l : List ByteArray) (s : ByteArray) : l.idxOf s ≤ l.length := by
  have := lawfulBA
  exact List.idxOf_le_length

theorem Es.intern_le {e : Es} {N : Nat} (h : e.Le N) (s : ByteArray) : (e.intern s).Le (N + 1) :=
  ⟨by have := h.bs; simp only [Es.intern]; omega, by have := h.relocs; simp only [Es.intern]; omega, by have := h.strs; have := strPut_length e.secs s; simp only [Es.intern]; omega⟩

theorem Es.str_le {e : Es} {N : Nat} (h : e.Le N) (hN9 : N < 700000) (s : ByteArray) : (e.str sf s).Le (N + 3) := by
  have hl := sy_length sf 5 (by omega)
  have h1 : ((e.intern s).put (sy sf 5)).Le (N + 1 + 1) := (Es.intern_le h s).put (by omega)
  exact Es.reloc_le h1 (by omega) _

set_option maxHeartbeats 800000 in
theorem stString (h : StE w S be bp e hdr k idx ver ms sf) {N : Nat} (hN : e.Le N) (hN9 : N < 600000) (s : ByteArray) (hs : s.size ≤ maxLen) :
    Calls Tryd.prog 28 #[.pointer (some ⟨be, 0, none⟩), .string s] w fun r w' => r = .returned (.tuple #[]) ∧ StEPut w S be bp (e.str sf s) hdr k idx ver ms sf w' := by
  have hlt := h.lt
  obtain ⟨R, v, pc, he, -⟩ := h.lift
  obtain ⟨lr, h3, -, -⟩ := id he.buf
  have c0 : w.cell? ⟨be, 0, none⟩ = some (.pointer (some ⟨bp, 0, none⟩)) := (h3.rest 0 (by omega)).trans he.ptr
  clear h3 he
  have hi := idxOf_leS (e.secs 0) s
  have hi2 := hN.strs
  go_enter Tryd.func28, Tryd.ntmps28
  go_wp2_with (go_at_call 48; refine (h.intern s hs (by omega)).mono ?_; rintro r w1 ⟨rfl, hp1⟩; refine Hid.out ?_)
  refine Lib.hid ?_
  go_wp2_with (go_at_call 50; refine (stStringRef hp1.1 (Es.intern_le hN s) (by omega) _ (ok32_nat _ (by omega))).mono ?_; rintro r w2 ⟨rfl, hp2⟩)
  go_end0
  exact ⟨rfl, hp1.trans hp2 hlt⟩

end
end Go.Proofs.YthhpmeaajgjdeaaDoor

/- Jb: (*Encoder).Strings: a list of strings. -/
namespace Go.Proofs.YthhpmeaajgjdeaaDoor
open Go Go.RowKit

/-- A slice value that reads as strings, outside S. -/
def StrsAt (w : World) (S : Nat → Prop) (v : Value) (ss : List ByteArray) : Prop :=
  (∃ ao, v = .slice ao 0 0 ∧ ss = []) ∨ ∃ b o c, v = .slice (some ⟨b, o, none⟩) ss.length c ∧ ¬ S b ∧ ∀ j s, ss[j]? = some s → w.cell? ⟨b, o + j, none⟩ = some (.string s) ∧ s.size ≤ maxLen

def Es.strsTo (sf : Int) (ss : List ByteArray) (e : Es) (k : Nat) : Es := (ss.take k).foldl (fun e s => e.str sf s) (e.len sf ss.length)

theorem Es.strsTo_succ {sf : Int} {ss : List ByteArray} {e : Es} {k : Nat} {s : ByteArray} (h : ss[k]? = some s) : e.strsTo sf ss (k + 1) = (e.strsTo sf ss k).str sf s := by
  obtain ⟨hk, rfl⟩ := List.getElem?_eq_some_iff.1 h
  simp only [Es.strsTo]
  rw [List.take_succ_eq_append_getElem hk, List.foldl_append]
  rfl

theorem Es.strsTo_le {sf : Int} {ss : List ByteArray} {e : Es} {N : Nat} (h : e.Le N) (hN : N < 300000) (hs : ss.length ≤ 1000) : ∀ k, k ≤ ss.length → (e.strsTo sf ss k).Le (N + 1 + 3 * k)
  | 0, _ => by simpa [Es.strsTo] using Es.len_le h _ (by omega)
  | k + 1, hk => by
    have h1 := Es.strsTo_le h hN hs k (by omega) (sf := sf) (ss := ss)
    rw [Es.strsTo_succ (List.getElem?_eq_getElem (by omega : k < ss.length))]
    exact (Es.str_le h1 (by omega) _).mono (by omega)

section
variable {w w1 w2 : World} {S : Nat → Prop} {be bp : Nat} {e e1 e2 : Es} {hdr : Bool} {k idx : Int} {ver : Int} {ms : Nat} {sf : Int}

set_option maxHeartbeats 1600000 in
theorem stStrings (h : StE w S be bp e hdr k idx ver ms sf) {N : Nat} (hN : e.Le N) (hN9 : N < 300000) (v : Value) (ss : List ByteArray) (hss : StrsAt w S v ss) (hn : ss.length ≤ 1000) :
    Calls Tryd.prog 29 #[.pointer (some ⟨be, 0, none⟩), v] w fun r w' => r = .returned (.tuple #[]) ∧ StEPut w S be bp (e.strs sf ss) hdr k idx ver ms sf w' := by
  have hlt := h.lt
  rcases hss with ⟨ao, rfl, rfl⟩ | ⟨b, o, c, rfl, hSb, hcell⟩
  · go_enter Tryd.func29, Tryd.ntmps29
    go_wp2_with (go_at_call 25; refine (stLen h hN (by omega) 0 (by omega)).mono ?_; rintro r w1 ⟨rfl, hp1⟩; refine Hid.out ?_)
    refine Lib.hid ?_
    go_wp2
    go_loop [12] (fun i => i = .int .i64 0) (fun _ => 0)
    case atStart => rfl
    case round =>
      subst hrel
      go_wp2
      go_end0
      exact ⟨rfl, hp1⟩
  · go_enter Tryd.func29, Tryd.ntmps29
    go_wp2_with (go_at_call 25; refine (stLen h hN (by omega) ss.length (by omega)).mono ?_; rintro r w1 ⟨rfl, hp1⟩; refine Hid.out ?_)
    refine Lib.hid ?_
    go_wp2
    go_loopw [12] (fun i wr => ∃ j : Nat, j ≤ ss.length ∧ i = .int .i64 j ∧ StEPut w S be bp (e.strsTo sf ss j) hdr k idx ver ms sf wr) (fun i _ => ss.length - (intOf i).toNat)
    case atStart => exact ⟨0, Nat.zero_le _, rfl, by simpa [Es.strsTo] using hp1⟩
    case round =>
      obtain ⟨j, hj, rfl, hp⟩ := hrel
      by_cases hlj : j < ss.length
      · have hge := List.getElem?_eq_getElem hlj
        have hc := hcell j _ hge
        have hcr : wr.cell? ⟨b, o + j, none⟩ = some (.string ss[j]) := hp.2.cell hc.1 hSb
        have hsz := hc.2
        have hle := Es.strsTo_le (sf := sf) hN hN9 hn j hj
        have hstep := Es.strsTo_succ (sf := sf) (e := e) hge
        have HS := Lib.hid hstep
        have HG := Lib.hid hge
        clear hstep hge hc
        generalize hT : ss[j] = T at *
        clear hT
        go_wp2_with (go_at_call 28; refine (stString hp.1 hle (by omega) T hsz).mono ?_; rintro r w2 ⟨rfl, hp2⟩; refine Hid.out ?_)
        refine Lib.hid ?_
        have hp3 := hp.trans hp2 hlt
        rw [← HS.out] at hp3
        go_wp2
        go_roundw
        case rel => exact ⟨j + 1, by omega, by go_num, hp3⟩
        case measure => simp [intOf]; omega
      · go_wp2
        go_end0
        refine ⟨rfl, ?_⟩
        have : ss.take j = ss := List.take_of_length_le (by omega)
        simp only [Es.strsTo, this] at hp
        exact hp

end
end Go.Proofs.YthhpmeaajgjdeaaDoor

/- Jc: impl.write: a bit that is no truth value, by its kind. -/
namespace Go.Proofs.YthhpmeaajgjdeaaDoor
open Go Go.RowKit

theorem EncF.keeps {T : Nat → Prop} {w w' : World} {F : Nat → Prop} {be bp : Nat} {relocs : List (Int × Int)} {bs : List UInt8} {hdr : Bool} {k idx : Int} {pc : Array Value} {sf : Int} (h : EncF w F be bp relocs bs hdr k idx pc sf) (hk : Keeps T w w') (hn : ∀ j, F j → ¬ T j) (hbp : ¬ T bp) : EncF w' F be bp relocs bs hdr k idx pc sf := by
  obtain ⟨rsv, mapv, v, he, hr, hm, hnd, hok, hFb, hFv, hFr, hFm, hlt⟩ := h
  refine ⟨rsv, mapv, v, ⟨he.buf.keeps hk ?_, he.ptr, hk.heap he.pkg hbp, he.frames⟩, ownsRow_keeps hr hk fun j hj => hn j (hFr j hj), ?_, hnd, hok, hFb, hFv, hFr, hFm, fun j hj => Nat.lt_of_lt_of_le (hlt j hj) hk.size⟩
  · rintro j (rfl | hj)
    · exact hn _ hFb
    · exact hn j (hFv j hj)
  · rcases hm with hm | ⟨m, rfl, hm⟩
    · exact Or.inl hm
    · exact Or.inr ⟨m, rfl, hk.heap hm (hn m (hFm m rfl))⟩

section
variable {T S : Nat → Prop} {w w1 w2 : World} {be bp : Nat} {e : Es} {hdr : Bool} {k idx : Int} {ver : Int} {ms : Nat} {sf : Int}

theorem StE.keeps (h : StE w S be bp e hdr k idx ver ms sf) (hk : Keeps T w w1) (hn : ∀ j, S j → ¬ T j) : StE w1 S be bp e hdr k idx ver ms sf := by
  obtain ⟨F, G, sl, h1, h2, h3, h4, h5, h6⟩ := h
  exact ⟨F, G, sl, h1.keeps hk (fun j hj => hn j (h4 j hj)) (hn _ (h5 _ h2.all.Gb)), h2.keeps hk (fun j hj => hn j (h5 j hj)), h3, h4, h5, fun j hj => Nat.lt_of_lt_of_le (h6 j hj) hk.size⟩

theorem StEPut.after (hk : Keeps (fun _ => False) w w1) (h : StEPut w1 S be bp e hdr k idx ver ms sf w2) (hlt : ∀ j, S j → j < w.heap.size) : StEPut w S be bp e hdr k idx ver ms sf w2 := by
  refine ⟨h.1.mono (fun j hj => ?_) (grow_lt hlt (Nat.le_trans hk.size h.2.size)), (hk.mono (S' := S) fun _ _ h => h.elim).same h.2⟩
  rcases hj with hj | hj
  · exact Or.inl hj
  · exact Or.inr ⟨Nat.le_trans hk.size hj.1, hj.2⟩
end

/-- A bit, its texts beside it. -/
structure Bt where
  kind : Int
  num : Int
  sec : Int
  text : ByteArray
  texts : List ByteArray

def u64 (x : Int) : Nat := (IntKind.u64.wrap x).toNat

theorem u64_cast (x : Int) : ((u64 x : Nat) : Int) = IntKind.u64.wrap x := by
  have := bounds_u64 (wf_wrap .u64 x)
  unfold u64; omega
theorem u64_lt (x : Int) : u64 x < 18446744073709551616 := by
  have := bounds_u64 (wf_wrap .u64 x)
  unfold u64; omega

/-- What may be written. -/
structure Bt.Ok (b : Bt) : Prop where
  kind0 : 0 ≤ b.kind
  kind12 : b.kind ≤ 12
  num0 : -9223372036854775808 ≤ b.num
  num1 : b.num ≤ 9223372036854775807
  len : b.kind = 3 → 0 ≤ b.num
  reloc : b.kind = 8 → 0 ≤ b.sec ∧ b.sec ≤ 9 ∧ 0 ≤ b.num ∧ b.num ≤ 2147483647
  code : b.kind = 9 ∨ b.kind = 10 ∨ b.kind = 11 ∨ b.kind = 12 → 0 ≤ b.num ∧ b.num ≤ 60
  text : b.text.size ≤ 200
  texts : b.texts.length ≤ 20

/-- What is written of a bit that is no truth value. -/
def Es.bit (sf : Int) (b : Bt) (e : Es) : Es :=
  if b.kind = 1 ∨ b.kind = 4 then e.put (sy sf 3 ++ Lib.uvarint (zz b.num))
  else if b.kind = 2 ∨ b.kind = 5 then e.put (sy sf 4 ++ Lib.uvarint (u64 b.num))
  else if b.kind = 3 then e.len sf b.num.toNat
  else if b.kind = 6 then e.str sf b.text
  else if b.kind = 7 then e.strs sf b.texts
  else if b.kind = 8 then e.reloc sf (b.sec, b.num)
  else if b.kind = 9 then e.put (sy sf 25 ++ (sy sf 4 ++ Lib.uvarint b.num.toNat))
  else if b.kind = 10 then e.put (sy sf 19 ++ (sy sf 4 ++ Lib.uvarint b.num.toNat))
  else if b.kind = 11 then e.put (sy sf 7 ++ (sy sf 4 ++ Lib.uvarint b.num.toNat))
  else e.put (sy sf b.num.toNat)

/-- A bit as a value. -/
def Bt.val (b : Bt) (v : Value) : Value := .agg #[.int .i64 b.kind, .int .i64 b.num, .int .i64 b.sec, .string b.text, v]

section
variable {w : World} {S : Nat → Prop} {be bp : Nat} {e : Es} {hdr : Bool} {k idx : Int} {ver : Int} {ms : Nat} {sf : Int}

theorem StE.alloc (h : StE w S be bp e hdr k idx ver ms sf) (o : Obj) : StE (w.alloc o) S be bp e hdr k idx ver ms sf := h.keeps (T := fun _ => False) ((Keeps.refl _ _).alloc _) (fun _ _ h => h)

theorem ok32_mk {a b : Int} (h1 : 0 ≤ a) (h2 : a ≤ 9) (h3 : 0 ≤ b) (h4 : b ≤ 2147483647) : ok32 (a, b) := by
  constructor <;> simp [Lit.wf, IntKind.min, IntKind.max, IntKind.signed, IntKind.bits] <;> omega

theorem StrsAt.alloc {v : Value} {ss : List ByteArray} (h : StrsAt w S v ss) (o : Obj) : StrsAt (w.alloc o) S v ss := by
  rcases h with h | ⟨b, o', c, rfl, h1, h2⟩
  · exact Or.inl h
  · refine Or.inr ⟨b, o', c, rfl, h1, fun j s hj => ⟨?_, (h2 j s hj).2⟩⟩
    exact ((Keeps.refl (fun _ => False) w).alloc o).cell (h2 j s hj).1 (fun h => h)

set_option maxHeartbeats 800000 in
/-- A truth value: nothing is written. -/
theorem write_bool (num sec : Int) (text : ByteArray) (v : Value) (w : World) : Calls Tryd.prog 13 #[.pointer (some ⟨be, 0, none⟩), .agg #[.int .i64 0, .int .i64 num, .int .i64 sec, .string text, v]] w fun r w' => r = .returned (.bool true) ∧ Keeps (fun _ => False) w w' := by
  go_enter Tryd.func13, Tryd.ntmps13
  go_wp2
  go_ret
  exact ⟨rfl, (Keeps.refl _ _).alloc _⟩

set_option maxHeartbeats 800000 in
set_option maxRecDepth 10000 in
theorem write_1 (h : StE w S be bp e hdr k idx ver ms sf) {N : Nat} (hN : e.Le N) (hN9 : N < 200000) (num sec : Int) (text : ByteArray) (v : Value) (hn0 : -9223372036854775808 ≤ num) (hn1 : num ≤ 9223372036854775807) :
    Calls Tryd.prog 13 #[.pointer (some ⟨be, 0, none⟩), .agg #[.int .i64 1, .int .i64 num, .int .i64 sec, .string text, v]] w fun r w' => r = .returned (.bool false) ∧ StEPut w S be bp (e.put (sy sf 3 ++ Lib.uvarint (zz num))) hdr k idx ver ms sf w' := by
  have hlt := h.lt
  obtain ⟨R, vv, pc, h1, h2⟩ := (h.alloc (.cells #[.int .i64 1, .int .i64 num, .int .i64 sec, .string text, v] 39)).lift
  have hb := hN.bs
  go_enter Tryd.func13, Tryd.ntmps13
  go_wp2_with (go_at_call 23; refine (encInt64 be bp R vv _ pc sf _ h1 (by omega) num hn0 hn1).mono ?_; rintro r w1 ⟨rfl, hp1⟩)
  go_ret
  exact ⟨rfl, StEPut.after ((Keeps.refl _ _).alloc _) (h2 _ _ hp1) hlt⟩

set_option maxHeartbeats 800000 in
set_option maxRecDepth 10000 in
theorem write_2 (h : StE w S be bp e hdr k idx ver ms sf) {N : Nat} (hN : e.Le N) (hN9 : N < 200000) (num sec : Int) (text : ByteArray) (v : Value) :
    Calls Tryd.prog 13 #[.pointer (some ⟨be, 0, none⟩), .agg #[.int .i64 2, .int .i64 num, .int .i64 sec, .string text, v]] w fun r w' => r = .returned (.bool false) ∧ StEPut w S be bp (e.put (sy sf 4 ++ Lib.uvarint (u64 num))) hdr k idx ver ms sf w' := by
  have hlt := h.lt
  obtain ⟨R, vv, pc, h1, h2⟩ := (h.alloc (.cells #[.int .i64 2, .int .i64 num, .int .i64 sec, .string text, v] 39)).lift
  have hb := hN.bs
  have hc := encUint64 be bp R vv _ pc sf _ h1 (by omega) (u64 num) (u64_lt num)
  rw [u64_cast] at hc
  go_enter Tryd.func13, Tryd.ntmps13
  go_wp2_with (go_at_call 24; refine (hc).mono ?_; rintro r w1 ⟨rfl, hp1⟩)
  go_ret
  exact ⟨rfl, StEPut.after ((Keeps.refl _ _).alloc _) (h2 _ _ hp1) hlt⟩

set_option maxHeartbeats 800000 in
set_option maxRecDepth 10000 in
theorem write_3 (h : StE w S be bp e hdr k idx ver ms sf) {N : Nat} (hN : e.Le N) (hN9 : N < 200000) (num sec : Int) (text : ByteArray) (v : Value) (hn0 : 0 ≤ num) (hn1 : num ≤ 9223372036854775807) :
    Calls Tryd.prog 13 #[.pointer (some ⟨be, 0, none⟩), .agg #[.int .i64 3, .int .i64 num, .int .i64 sec, .string text, v]] w fun r w' => r = .returned (.bool false) ∧ StEPut w S be bp (e.len sf num.toNat) hdr k idx ver ms sf w' := by
  have hlt := h.lt
  obtain ⟨n, rfl⟩ := Int.eq_ofNat_of_zero_le hn0
  go_enter Tryd.func13, Tryd.ntmps13
  go_wp2_with (go_at_call 25; refine (stLen (h.alloc _) hN (by omega) n (by omega)).mono ?_; rintro r w1 ⟨rfl, hp1⟩)
  go_ret
  exact ⟨rfl, StEPut.after ((Keeps.refl _ _).alloc _) (by simpa using hp1) hlt⟩

set_option maxHeartbeats 800000 in
set_option maxRecDepth 10000 in
theorem write_4 (h : StE w S be bp e hdr k idx ver ms sf) {N : Nat} (hN : e.Le N) (hN9 : N < 200000) (num sec : Int) (text : ByteArray) (v : Value) (hn0 : -9223372036854775808 ≤ num) (hn1 : num ≤ 9223372036854775807) :
    Calls Tryd.prog 13 #[.pointer (some ⟨be, 0, none⟩), .agg #[.int .i64 4, .int .i64 num, .int .i64 sec, .string text, v]] w fun r w' => r = .returned (.bool false) ∧ StEPut w S be bp (e.put (sy sf 3 ++ Lib.uvarint (zz num))) hdr k idx ver ms sf w' := by
  have hlt := h.lt
  obtain ⟨R, vv, pc, h1, h2⟩ := (h.alloc (.cells #[.int .i64 4, .int .i64 num, .int .i64 sec, .string text, v] 39)).lift
  have hb := hN.bs
  go_enter Tryd.func13, Tryd.ntmps13
  go_wp2_with (go_at_call 26; refine (encInt be bp R vv _ pc sf _ h1 (by omega) num hn0 hn1).mono ?_; rintro r w1 ⟨rfl, hp1⟩)
  go_ret
  exact ⟨rfl, StEPut.after ((Keeps.refl _ _).alloc _) (h2 _ _ hp1) hlt⟩

set_option maxHeartbeats 800000 in
set_option maxRecDepth 10000 in
theorem write_5 (h : StE w S be bp e hdr k idx ver ms sf) {N : Nat} (hN : e.Le N) (hN9 : N < 200000) (num sec : Int) (text : ByteArray) (v : Value) :
    Calls Tryd.prog 13 #[.pointer (some ⟨be, 0, none⟩), .agg #[.int .i64 5, .int .i64 num, .int .i64 sec, .string text, v]] w fun r w' => r = .returned (.bool false) ∧ StEPut w S be bp (e.put (sy sf 4 ++ Lib.uvarint (u64 num))) hdr k idx ver ms sf w' := by
  have hlt := h.lt
  obtain ⟨R, vv, pc, h1, h2⟩ := (h.alloc (.cells #[.int .i64 5, .int .i64 num, .int .i64 sec, .string text, v] 39)).lift
  have hb := hN.bs
  have hc := encUint be bp R vv _ pc sf _ h1 (by omega) (u64 num) (u64_lt num)
  rw [u64_cast] at hc
  go_enter Tryd.func13, Tryd.ntmps13
  go_wp2_with (go_at_call 27; refine (hc).mono ?_; rintro r w1 ⟨rfl, hp1⟩)
  go_ret
  exact ⟨rfl, StEPut.after ((Keeps.refl _ _).alloc _) (h2 _ _ hp1) hlt⟩

set_option maxHeartbeats 800000 in
set_option maxRecDepth 10000 in
theorem write_6 (h : StE w S be bp e hdr k idx ver ms sf) {N : Nat} (hN : e.Le N) (hN9 : N < 200000) (num sec : Int) (text : ByteArray) (v : Value) (hs : text.size ≤ maxLen) :
    Calls Tryd.prog 13 #[.pointer (some ⟨be, 0, none⟩), .agg #[.int .i64 6, .int .i64 num, .int .i64 sec, .string text, v]] w fun r w' => r = .returned (.bool false) ∧ StEPut w S be bp (e.str sf text) hdr k idx ver ms sf w' := by
  have hlt := h.lt
  go_enter Tryd.func13, Tryd.ntmps13
  go_wp2_with (go_at_call 28; refine (stString (h.alloc _) hN (by omega) text hs).mono ?_; rintro r w1 ⟨rfl, hp1⟩)
  go_ret
  exact ⟨rfl, StEPut.after ((Keeps.refl _ _).alloc _) hp1 hlt⟩

set_option maxHeartbeats 800000 in
set_option maxRecDepth 10000 in
theorem write_7 (h : StE w S be bp e hdr k idx ver ms sf) {N : Nat} (hN : e.Le N) (hN9 : N < 200000) (num sec : Int) (text : ByteArray) (v : Value) (ss : List ByteArray) (hss : StrsAt w S v ss) (hn : ss.length ≤ 1000) :
    Calls Tryd.prog 13 #[.pointer (some ⟨be, 0, none⟩), .agg #[.int .i64 7, .int .i64 num, .int .i64 sec, .string text, v]] w fun r w' => r = .returned (.bool false) ∧ StEPut w S be bp (e.strs sf ss) hdr k idx ver ms sf w' := by
  have hlt := h.lt
  go_enter Tryd.func13, Tryd.ntmps13
  go_wp2_with (go_at_call 29; refine (stStrings (h.alloc _) hN (by omega) v ss (hss.alloc _) hn).mono ?_; rintro r w1 ⟨rfl, hp1⟩)
  go_ret
  exact ⟨rfl, StEPut.after ((Keeps.refl _ _).alloc _) hp1 hlt⟩

set_option maxHeartbeats 800000 in
set_option maxRecDepth 10000 in
theorem write_8 (h : StE w S be bp e hdr k idx ver ms sf) {N : Nat} (hN : e.Le N) (hN9 : N < 200000) (num sec : Int) (text : ByteArray) (v : Value) (hs0 : 0 ≤ sec) (hs9 : sec ≤ 9) (hn0 : 0 ≤ num) (hn1 : num ≤ 2147483647) :
    Calls Tryd.prog 13 #[.pointer (some ⟨be, 0, none⟩), .agg #[.int .i64 8, .int .i64 num, .int .i64 sec, .string text, v]] w fun r w' => r = .returned (.bool false) ∧ StEPut w S be bp (e.reloc sf (sec, num)) hdr k idx ver ms sf w' := by
  have hlt := h.lt
  go_enter Tryd.func13, Tryd.ntmps13
  go_wp2_with (go_at_call 30; refine (stReloc (h.alloc _) hN (by omega) sec num (ok32_mk hs0 hs9 hn0 hn1)).mono ?_; rintro r w1 ⟨rfl, hp1⟩)
  go_ret
  exact ⟨rfl, StEPut.after ((Keeps.refl _ _).alloc _) hp1 hlt⟩

set_option maxHeartbeats 800000 in
set_option maxRecDepth 10000 in
theorem write_9 (h : StE w S be bp e hdr k idx ver ms sf) {N : Nat} (hN : e.Le N) (hN9 : N < 200000) (num sec : Int) (text : ByteArray) (v : Value) (hn0 : 0 ≤ num) (hn1 : num ≤ 60) :
    Calls Tryd.prog 13 #[.pointer (some ⟨be, 0, none⟩), .agg #[.int .i64 9, .int .i64 num, .int .i64 sec, .string text, v]] w fun r w' => r = .returned (.bool false) ∧ StEPut w S be bp (e.put (sy sf 25 ++ (sy sf 4 ++ Lib.uvarint num.toNat))) hdr k idx ver ms sf w' := by
  have hlt := h.lt
  obtain ⟨n, rfl⟩ := Int.eq_ofNat_of_zero_le hn0
  obtain ⟨R, vv, pc, h1, h2⟩ := (h.alloc (.cells #[.int .i64 9, .int .i64 (n : Int), .int .i64 sec, .string text, v] 39)).lift
  have hb := hN.bs
  go_enter Tryd.func13, Tryd.ntmps13
  go_wp2_with (go_at_call 31; refine (encCodeObj be bp R vv _ pc sf _ h1 (by omega) n (by omega)).mono ?_; rintro r w1 ⟨rfl, hp1⟩)
  go_ret
  exact ⟨rfl, StEPut.after ((Keeps.refl _ _).alloc _) (by simpa using h2 _ _ hp1) hlt⟩

set_option maxHeartbeats 800000 in
set_option maxRecDepth 10000 in
theorem write_10 (h : StE w S be bp e hdr k idx ver ms sf) {N : Nat} (hN : e.Le N) (hN9 : N < 200000) (num sec : Int) (text : ByteArray) (v : Value) (hn0 : 0 ≤ num) (hn1 : num ≤ 60) :
    Calls Tryd.prog 13 #[.pointer (some ⟨be, 0, none⟩), .agg #[.int .i64 10, .int .i64 num, .int .i64 sec, .string text, v]] w fun r w' => r = .returned (.bool false) ∧ StEPut w S be bp (e.put (sy sf 19 ++ (sy sf 4 ++ Lib.uvarint num.toNat))) hdr k idx ver ms sf w' := by
  have hlt := h.lt
  obtain ⟨n, rfl⟩ := Int.eq_ofNat_of_zero_le hn0
  obtain ⟨R, vv, pc, h1, h2⟩ := (h.alloc (.cells #[.int .i64 10, .int .i64 (n : Int), .int .i64 sec, .string text, v] 39)).lift
  have hb := hN.bs
  go_enter Tryd.func13, Tryd.ntmps13
  go_wp2_with (go_at_call 31; refine (encCodeType be bp R vv _ pc sf _ h1 (by omega) n (by omega)).mono ?_; rintro r w1 ⟨rfl, hp1⟩)
  go_ret
  exact ⟨rfl, StEPut.after ((Keeps.refl _ _).alloc _) (by simpa using h2 _ _ hp1) hlt⟩

set_option maxHeartbeats 800000 in
set_option maxRecDepth 10000 in
theorem write_11 (h : StE w S be bp e hdr k idx ver ms sf) {N : Nat} (hN : e.Le N) (hN9 : N < 200000) (num sec : Int) (text : ByteArray) (v : Value) (hn0 : 0 ≤ num) (hn1 : num ≤ 60) :
    Calls Tryd.prog 13 #[.pointer (some ⟨be, 0, none⟩), .agg #[.int .i64 11, .int .i64 num, .int .i64 sec, .string text, v]] w fun r w' => r = .returned (.bool false) ∧ StEPut w S be bp (e.put (sy sf 7 ++ (sy sf 4 ++ Lib.uvarint num.toNat))) hdr k idx ver ms sf w' := by
  have hlt := h.lt
  obtain ⟨n, rfl⟩ := Int.eq_ofNat_of_zero_le hn0
  obtain ⟨R, vv, pc, h1, h2⟩ := (h.alloc (.cells #[.int .i64 11, .int .i64 (n : Int), .int .i64 sec, .string text, v] 39)).lift
  have hb := hN.bs
  go_enter Tryd.func13, Tryd.ntmps13
  go_wp2_with (go_at_call 31; refine (encCodeVal be bp R vv _ pc sf _ h1 (by omega) n (by omega)).mono ?_; rintro r w1 ⟨rfl, hp1⟩)
  go_ret
  exact ⟨rfl, StEPut.after ((Keeps.refl _ _).alloc _) (by simpa using h2 _ _ hp1) hlt⟩

set_option maxHeartbeats 800000 in
set_option maxRecDepth 10000 in
theorem write_12 (h : StE w S be bp e hdr k idx ver ms sf) {N : Nat} (hN : e.Le N) (hN9 : N < 200000) (num sec : Int) (text : ByteArray) (v : Value) (hn0 : 0 ≤ num) (hn1 : num ≤ 60) :
    Calls Tryd.prog 13 #[.pointer (some ⟨be, 0, none⟩), .agg #[.int .i64 12, .int .i64 num, .int .i64 sec, .string text, v]] w fun r w' => r = .returned (.bool false) ∧ StEPut w S be bp (e.put (sy sf num.toNat)) hdr k idx ver ms sf w' := by
  have hlt := h.lt
  obtain ⟨n, rfl⟩ := Int.eq_ofNat_of_zero_le hn0
  go_enter Tryd.func13, Tryd.ntmps13
  go_wp2_with (go_at_call 22; refine (stSync (h.alloc _) hN (by omega) n (by omega)).mono ?_; rintro r w1 ⟨rfl, hp1⟩)
  go_ret
  exact ⟨rfl, StEPut.after ((Keeps.refl _ _).alloc _) (by simpa using hp1) hlt⟩

end
end Go.Proofs.YthhpmeaajgjdeaaDoor

/- Ka: impl.write over every bit; NewEncoder; a truth value written. -/
namespace Go.Proofs.YthhpmeaajgjdeaaDoor
open Go Go.RowKit

theorem zz_len (x : Int) (h0 : -9223372036854775808 ≤ x) (h1 : x ≤ 9223372036854775807) : (Lib.uvarint (zz x)).length ≤ 10 := Lib.uvarint_length64 (zz_lt x h1)

theorem Es.bit_le {sf : Int} {b : Bt} {e : Es} {N : Nat} (hb : b.Ok) (h : e.Le N) (hN : N < 200000) : (e.bit sf b).Le (N + 100) := by
  have s3 := sy_length sf 3 (by omega)
  have s4 := sy_length sf 4 (by omega)
  have s25 := sy_length sf 25 (by omega)
  have s19 := sy_length sf 19 (by omega)
  have s7 := sy_length sf 7 (by omega)
  have z := zz_len b.num hb.num0 hb.num1
  have u := Lib.uvarint_length64 (u64_lt b.num)
  have hn0 := hb.num0
  have hn1 := hb.num1
  unfold Es.bit
  split
  · exact (h.put (by simp only [List.length_append]; omega)).mono (by omega)
  split
  · exact (h.put (by simp only [List.length_append]; omega)).mono (by omega)
  split
  · exact (Es.len_le h _ (by omega)).mono (by omega)
  split
  · exact (Es.str_le h (by omega) _).mono (by omega)
  split
  · have ht := hb.texts
    have := Es.strsTo_le (sf := sf) (ss := b.texts) h (by omega) (by omega) b.texts.length (Nat.le_refl _)
    rw [show e.strsTo sf b.texts b.texts.length = e.strs sf b.texts by simp [Es.strsTo, Es.strs]] at this
    exact this.mono (by omega)
  split
  · exact (Es.reloc_le h (by omega) _).mono (by omega)
  have hk0 := hb.kind0
  have hk12 := hb.kind12
  have key : ∀ m, m < 9223372036854775808 → b.num.toNat < 18446744073709551616 → (sy sf m ++ (sy sf 4 ++ Lib.uvarint b.num.toNat)).length ≤ 100 := by
    intro m hm hlt
    have := sy_length sf m (by omega)
    have := Lib.uvarint_length64 hlt
    simp only [List.length_append]; omega
  split
  · exact (h.put (key 25 (by omega) (by omega))).mono (by omega)
  split
  · exact (h.put (key 19 (by omega) (by omega))).mono (by omega)
  split
  · exact (h.put (key 7 (by omega) (by omega))).mono (by omega)
  · have := sy_length sf b.num.toNat (by omega)
    exact (h.put (by omega)).mono (by omega)

section
variable {w : World} {S : Nat → Prop} {be bp : Nat} {e : Es} {hdr : Bool} {k idx : Int} {ver : Int} {ms : Nat} {sf : Int}

theorem writeBit (h : StE w S be bp e hdr k idx ver ms sf) {N : Nat} (hN : e.Le N) (hN9 : N < 200000) (b : Bt) (hb : b.Ok) (h0 : b.kind ≠ 0) (v : Value) (hv : StrsAt w S v b.texts) :
    Calls Tryd.prog 13 #[.pointer (some ⟨be, 0, none⟩), b.val v] w fun r w' => r = .returned (.bool false) ∧ StEPut w S be bp (e.bit sf b) hdr k idx ver ms sf w' := by
  obtain ⟨bk, num, sec, text, texts⟩ := b
  obtain ⟨hk0, hk12, hn0, hn1, hl, hr, hc, ht, hts⟩ := hb
  simp only at *
  have hms : text.size ≤ maxLen := by unfold maxLen; omega
  have hcase : bk = 1 ∨ bk = 2 ∨ bk = 3 ∨ bk = 4 ∨ bk = 5 ∨ bk = 6 ∨ bk = 7 ∨ bk = 8 ∨ bk = 9 ∨ bk = 10 ∨ bk = 11 ∨ bk = 12 := by omega
  unfold Bt.val
  rcases hcase with rfl | rfl | rfl | rfl | rfl | rfl | rfl | rfl | rfl | rfl | rfl | rfl
  · exact write_1 h hN hN9 num sec text v hn0 hn1
  · exact write_2 h hN hN9 num sec text v
  · exact write_3 h hN hN9 num sec text v (hl rfl) hn1
  · exact write_4 h hN hN9 num sec text v hn0 hn1
  · exact write_5 h hN hN9 num sec text v
  · exact write_6 h hN hN9 num sec text v hms
  · exact write_7 h hN hN9 num sec text v texts hv (by omega)
  · obtain ⟨a, b, c, d⟩ := hr rfl
    exact write_8 h hN hN9 num sec text v a b c d
  · obtain ⟨a, b⟩ := hc (by simp)
    exact write_9 h hN hN9 num sec text v a b
  · obtain ⟨a, b⟩ := hc (by simp)
    exact write_10 h hN hN9 num sec text v a b
  · obtain ⟨a, b⟩ := hc (by simp)
    exact write_11 h hN hN9 num sec text v a b
  · obtain ⟨a, b⟩ := hc (by simp)
    exact write_12 h hN hN9 num sec text v a b

/-- A truth value written. -/
def Es.bool (sf : Int) (x : Bool) (e : Es) : Es := e.put (sy sf 2 ++ [if x then 1 else 0])

theorem Es.bool_le {e : Es} {N : Nat} {x : Bool} (h : e.Le N) : (e.bool sf x).Le (N + 100) := by
  have := sy_length sf 2 (by omega)
  exact (h.put (by simp only [List.length_append, List.length_cons, List.length_nil]; omega)).mono (by omega)

theorem stBool (h : StE w S be bp e hdr k idx ver ms sf) {N : Nat} (hN : e.Le N) (hN9 : N < 200000) (x : Bool) :
    Calls Tryd.prog 14 #[.pointer (some ⟨be, 0, none⟩), .bool x] w fun r w' => r = .returned (.bool x) ∧ StEPut w S be bp (e.bool sf x) hdr k idx ver ms sf w' := by
  obtain ⟨R, v, pc, h1, h2⟩ := h.lift
  exact (encBool be bp R v _ pc sf w h1 (by have := hN.bs; omega) x).mono fun r w' ⟨a, b⟩ => ⟨a, h2 _ _ b⟩

set_option maxHeartbeats 800000 in
/-- NewEncoder: a new encoder that holds its marker. -/
theorem newEncoder {G : Nat → Prop} {sl : Nat → Value} {secs : Nat → List ByteArray} (h : PkgS w G bp ver sl secs ms sf) (k : Nat) (hk1 : 1 ≤ k) (hk10 : k < 10) (hlen : (secs k).length < 1000000) (m : Nat) (hm : m < 9223372036854775808) :
    Calls Tryd.prog 12 #[.pointer (some ⟨bp, 0, none⟩), .int .i32 k, .int .i64 m] w fun e w' => ∃ be, e = .returned (.pointer (some ⟨be, 0, none⟩)) ∧ NewEnc w G bp k ver secs ms sf (sy sf m) be w' := by
  have hlt := h.all.lt
  go_enter Tryd.func12, Tryd.ntmps12
  go_wp2_with (go_at_call 21; refine (newEncoderRaw h k hk1 hk10 hlen).mono ?_; rintro r w1 ⟨be, rfl, hp⟩; refine Hid.out ?_)
  refine Lib.hid ?_
  obtain ⟨q1, q2, q3⟩ := hp
  have hE : StE w1 (Grow G w w1) be bp ⟨[], [], secPut secs k ⟨#[]⟩⟩ false k (secs k).length ver ms sf := q2
  obtain ⟨R, v, pc, e1, e2⟩ := hE.lift
  go_wp2_with (go_at_call 22; refine (sync be bp m hm R v _ pc sf w1 e1 (by simp)).mono ?_; rintro r w2 ⟨rfl, hp1⟩; refine Hid.out ?_)
  refine Lib.hid ?_
  go_wp2
  go_ret
  have h2 := e2 _ _ hp1
  refine ⟨be, rfl, q1, ?_, q3.trans' h2.2⟩
  have h3 := h2.1
  refine St.mono h3 ?_ (grow_lt hlt (Nat.le_trans q3.size h2.2.size))
  rintro j ((hj | hj) | hj)
  · exact Or.inl hj
  · exact Or.inr ⟨hj.1, Nat.lt_of_lt_of_le hj.2 h2.2.size⟩
  · exact Or.inr ⟨Nat.le_trans q3.size hj.1, hj.2⟩

end
end Go.Proofs.YthhpmeaajgjdeaaDoor
