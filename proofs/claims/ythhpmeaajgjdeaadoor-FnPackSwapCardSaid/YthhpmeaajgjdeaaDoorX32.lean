/- The plain law: two neighbours of different sections, one without strings, may be swapped; the sizes stay within bounds. -/
import Derived.Test.YthhpmeaajgjdeaaDoorX13
import Derived.Test.YthhpmeaajgjdeaaDoorX14

set_option linter.unusedVariables false
set_option linter.unusedSimpArgs false

/- Tb: Two neighbours of other sections, one without strings, change places: the same sections. -/
namespace Go.Proofs.YthhpmeaajgjdeaaDoor
open Go Go.RowKit

section
variable {sf : Int} {e e' : Es} {b : Bt}

/-- The same, as far as bits can tell. -/
structure Es.Sim (e e' : Es) : Prop where
  relocs : e.relocs = e'.relocs
  bs : e.bs = e'.bs
  strs : e.secs 0 = e'.secs 0

theorem Sim.put (h : e.Sim e') (l : List UInt8) : (e.put l).Sim (e'.put l) := ⟨h.relocs, by simp [Es.put, h.bs], h.strs⟩
theorem Sim.reloc (h : e.Sim e') (p : Int × Int) : (e.reloc sf p).Sim (e'.reloc sf p) := ⟨by simp [Es.reloc, h.relocs], by simp [Es.reloc, h.bs, h.relocs], h.strs⟩
theorem Sim.intern (h : e.Sim e') (s : ByteArray) : (e.intern s).Sim (e'.intern s) := by
  refine ⟨h.relocs, h.bs, ?_⟩
  simp only [Es.intern, strPut, h.strs]
  split
  · exact h.strs
  · simp [secPut, h.strs]
theorem Sim.str (h : e.Sim e') (s : ByteArray) : (e.str sf s).Sim (e'.str sf s) := by
  unfold Es.str
  rw [h.strs]
  exact Sim.reloc (Sim.put (Sim.intern h s) _) _
theorem Sim.strs' (h : e.Sim e') (ss : List ByteArray) : (e.strs sf ss).Sim (e'.strs sf ss) := by
  have : ∀ (ss : List ByteArray) (e e' : Es), e.Sim e' → (ss.foldl (fun e s => e.str sf s) e).Sim (ss.foldl (fun e s => e.str sf s) e') := by
    intro ss
    induction ss with
    | nil => intro e e' h; exact h
    | cons s ss ih => intro e e' h; exact ih _ _ (Sim.str h s)
  exact this ss _ _ (Sim.put h _)
theorem Sim.step (h : e.Sim e') (b : Bt) : (e.step sf b).Sim (e'.step sf b) := by
  unfold Es.step
  split
  · exact Sim.put h _
  unfold Es.bit
  split
  · exact Sim.put h _
  split
  · exact Sim.put h _
  split
  · exact Sim.put h _
  split
  · exact Sim.str h _
  split
  · exact Sim.strs' h _
  split
  · exact Sim.reloc h _
  split
  · exact Sim.put h _
  split
  · exact Sim.put h _
  split
  · exact Sim.put h _
  · exact Sim.put h _
theorem Sim.fold : ∀ (bits : List Bt) (e e' : Es), e.Sim e' → (bits.foldl (Es.step sf) e).Sim (bits.foldl (Es.step sf) e')
  | [], _, _, h => h
  | b :: bits, _, _, h => Sim.fold bits _ _ (Sim.step h b)

/-- The same bytes and references. -/
structure Es.SimN (e e' : Es) : Prop where
  relocs : e.relocs = e'.relocs
  bs : e.bs = e'.bs
theorem SimN.put (h : e.SimN e') (l : List UInt8) : (e.put l).SimN (e'.put l) := ⟨h.relocs, by simp [Es.put, h.bs]⟩
theorem SimN.reloc (h : e.SimN e') (p : Int × Int) : (e.reloc sf p).SimN (e'.reloc sf p) := ⟨by simp [Es.reloc, h.relocs], by simp [Es.reloc, h.bs, h.relocs]⟩
theorem SimN.step (h : e.SimN e') (b : Bt) (hb : b.strs = []) : (e.step sf b).SimN (e'.step sf b) := by
  unfold Es.step
  split
  · exact SimN.put h _
  unfold Es.bit
  split
  · exact SimN.put h _
  split
  · exact SimN.put h _
  split
  · exact SimN.put h _
  split
  next h6 => simp [Bt.strs, h6] at hb
  split
  next h6 h7 =>
    have ht : b.texts = [] := by simpa [Bt.strs, h6, h7] using hb
    rw [ht]
    exact SimN.put h _
  split
  · exact SimN.reloc h _
  split
  · exact SimN.put h _
  split
  · exact SimN.put h _
  split
  · exact SimN.put h _
  · exact SimN.put h _
theorem SimN.fold : ∀ (bits : List Bt) (e e' : Es), (∀ b ∈ bits, b.strs = []) → e.SimN e' → (bits.foldl (Es.step sf) e).SimN (bits.foldl (Es.step sf) e')
  | [], _, _, _, h => h
  | b :: bits, _, _, hb, h => SimN.fold bits _ _ (fun x hx => hb x (List.mem_cons_of_mem _ hx)) (SimN.step h b (hb b List.mem_cons_self))
theorem fold_secs0 : ∀ (bits : List Bt) (e : Es), (∀ b ∈ bits, b.strs = []) → (bits.foldl (Es.step sf) e).secs = e.secs
  | [], _, _ => rfl
  | b :: bits, e, hb => by
    rw [List.foldl_cons, fold_secs0 bits _ fun x hx => hb x (List.mem_cons_of_mem _ hx), step_secs, hb b List.mem_cons_self]
    rfl
theorem fold_other : ∀ (bits : List Bt) (e : Es) (k : Nat), k ≠ 0 → (bits.foldl (Es.step sf) e).secs k = e.secs k
  | [], _, _, _ => rfl
  | b :: bits, e, k, hk => by rw [List.foldl_cons, fold_other bits _ k hk, step_other _ _ _ hk]
end

/-- An element's bytes. -/
def elBytes (sf : Int) (secs : Nat → List ByteArray) (x : El) : ByteArray := ⟨((Es.all sf secs x).flush sf).toArray⟩

theorem packEl_at (sf : Int) (secs : Nat → List ByteArray) (x : El) (hx : x.sec ≠ 0) (k : Nat) :
    packEl sf secs x k = if k = x.sec then secs k ++ [elBytes sf secs x] else if k = 0 then (Es.all sf secs x).secs 0 else secs k := by
  unfold packEl secSet
  by_cases h : k = x.sec
  · rw [if_pos h, if_pos h]
    have e1 : (Es.all sf secs x).secs k = secs k ++ [⟨#[]⟩] := by
      rw [Es.all, fold_other _ _ _ (by omega)]
      simp [Es.begin, secPut, h]
    rw [e1, h, List.set_append_right _ _ (Nat.le_refl _), Nat.sub_self]
    rfl
  · rw [if_neg h, if_neg h]
    by_cases h0 : k = 0
    · rw [if_pos h0, h0]
    · rw [if_neg h0, Es.all, fold_other _ _ _ h0]
      simp [Es.begin, secPut, h]

theorem all_dep {sf : Int} {secs secs' : Nat → List ByteArray} {x : El} (hx : x.sec ≠ 0) (h : secs 0 = secs' 0) : (Es.all sf secs x).Sim (Es.all sf secs' x) := by
  refine Sim.fold _ _ _ ⟨rfl, rfl, ?_⟩
  simp only [Es.begin, secPut]
  rw [if_neg (by omega), if_neg (by omega), h]
theorem elBytes_dep {sf : Int} {secs secs' : Nat → List ByteArray} {x : El} (hx : x.sec ≠ 0) (h : secs 0 = secs' 0) : elBytes sf secs x = elBytes sf secs' x := by
  have h := all_dep (sf := sf) hx h
  simp only [elBytes, Es.flush, h.relocs, h.bs]
def El.plain (x : El) : Prop := ∀ b ∈ x.bits, b.strs = []
theorem elBytes_plain {sf : Int} {secs secs' : Nat → List ByteArray} {x : El} (h : x.plain) : elBytes sf secs x = elBytes sf secs' x := by
  have h := SimN.fold (sf := sf) x.bits (Es.begin sf secs x) (Es.begin sf secs' x) h ⟨rfl, rfl⟩
  have h1 : (Es.all sf secs x).relocs = (Es.all sf secs' x).relocs := h.relocs
  have h2 : (Es.all sf secs x).bs = (Es.all sf secs' x).bs := h.bs
  simp only [elBytes, Es.flush, h1, h2]
theorem all_plain {sf : Int} {secs : Nat → List ByteArray} {x : El} (hx : x.sec ≠ 0) (h : x.plain) : (Es.all sf secs x).secs 0 = secs 0 := by
  rw [Es.all, fold_secs0 _ _ h]
  simp only [Es.begin, secPut]
  rw [if_neg (by omega)]

theorem swap_plain (sf : Int) (secs : Nat → List ByteArray) (a b : El) (ha : a.sec ≠ 0) (hb : b.sec ≠ 0) (hab : a.sec ≠ b.sec) (hp : a.plain) :
    packEl sf (packEl sf secs a) b = packEl sf (packEl sf secs b) a := by
  have h0 : packEl sf secs a 0 = secs 0 := by rw [packEl_at _ _ _ ha, if_neg (by omega), if_pos rfl, all_plain ha hp]
  funext k
  rw [packEl_at _ _ _ hb, packEl_at _ _ _ ha, packEl_at _ _ _ ha, packEl_at _ _ _ hb]
  rw [elBytes_dep hb h0, (all_dep (sf := sf) hb h0).strs, elBytes_plain (secs := packEl sf secs b) (secs' := secs) hp, all_plain ha hp]
  rw [all_plain (secs := packEl sf secs b) ha hp, packEl_at _ _ _ hb 0, if_neg (show ¬ 0 = b.sec by omega), if_pos rfl]
  by_cases h1 : k = b.sec
  · have h2 : ¬ k = a.sec := by omega
    have h3 : ¬ k = 0 := by omega
    simp only [if_pos h1, if_neg h2, if_neg h3]
  · by_cases h2 : k = a.sec
    · have h3 : ¬ k = 0 := by omega
      simp only [if_neg h1, if_pos h2, if_neg h3]
    · by_cases h3 : k = 0
      · simp only [if_neg h1, if_neg h2, if_pos h3]
      · simp only [if_neg h1, if_neg h2, if_neg h3]

theorem packAll_swap (sf : Int) (pre post : List El) (a b : El) (ha : a.sec ≠ 0) (hb : b.sec ≠ 0) (hab : a.sec ≠ b.sec) (hp : a.plain ∨ b.plain) :
    packAll sf (pre ++ a :: b :: post) = packAll sf (pre ++ b :: a :: post) := by
  unfold packAll
  rw [List.foldl_append, List.foldl_append, List.foldl_cons, List.foldl_cons, List.foldl_cons, List.foldl_cons]
  congr 1
  rcases hp with hp | hp
  · exact swap_plain sf _ a b ha hb hab hp
  · exact (swap_plain sf _ b a hb ha (fun e => hab e.symm) hp).symm

end Go.Proofs.YthhpmeaajgjdeaaDoor

/- Tc: How long a package's sections and their strings can be. -/
namespace Go.Proofs.YthhpmeaajgjdeaaDoor
open Go Go.RowKit

section
variable {sf : Int} {e : Es} {b : Bt}

/-- The references are small numbers. -/
def Es.Small (e : Es) : Prop := ∀ p ∈ e.relocs, p.1.toNat < 18446744073709551616 ∧ p.2.toNat < 18446744073709551616

theorem Small.reloc (h : e.Small) (p : Int × Int) (hp : p.1.toNat < 18446744073709551616 ∧ p.2.toNat < 18446744073709551616) : (e.reloc sf p).Small := by
  intro q hq
  simp only [Es.reloc, relPut] at hq
  split at hq
  · exact h q hq
  · simp only [List.mem_append, List.mem_singleton] at hq
    rcases hq with hq | rfl
    · exact h q hq
    · exact hp
theorem Small.str (h : e.Small) (s : ByteArray) (hl : (e.secs 0).length < 1000000000) : (e.str sf s).Small := by
  unfold Es.str
  refine Small.reloc (e := (e.intern s).put (sy sf 5)) h _ ⟨by simp, ?_⟩
  have : List.idxOf s (e.secs 0) ≤ (e.secs 0).length := List.findIdx_le_length
  simp only [Int.toNat_natCast]
  omega
theorem Small.strs (h : e.Small) (ss : List ByteArray) (hl : (e.secs 0).length + ss.length < 1000000000) : (e.strs sf ss).Small := by
  have : ∀ (ss : List ByteArray) (e : Es), e.Small → (e.secs 0).length + ss.length < 1000000000 → (ss.foldl (fun e s => e.str sf s) e).Small := by
    intro ss
    induction ss with
    | nil => intro e h _; exact h
    | cons s ss ih =>
      intro e h hl
      simp only [List.foldl_cons, List.length_cons] at hl ⊢
      refine ih _ (Small.str h s (by omega)) ?_
      have := strPut_length e.secs s
      rw [str_secs]
      omega
  exact this ss _ h hl
theorem Small.step (hb : b.Ok) (h : e.Small) (hl : (e.secs 0).length < 900000000) : (e.step sf b).Small := by
  have ht := hb.texts
  unfold Es.step
  split
  · exact h
  unfold Es.bit
  split
  · exact h
  split
  · exact h
  split
  · exact h
  split
  · exact Small.str h _ (by omega)
  split
  · exact Small.strs h _ (by omega)
  split
  next h8 =>
    have := hb.reloc h8
    exact Small.reloc h _ ⟨by simp only; omega, by simp only; omega⟩
  split
  · exact h
  split
  · exact h
  split
  · exact h
  · exact h
end

theorem hdrTo_len (sf : Int) (relocs : List (Int × Int)) (hok : ∀ p ∈ relocs, p.1.toNat < 18446744073709551616 ∧ p.2.toNat < 18446744073709551616) (hn : relocs.length < 1000000) : ∀ i, i ≤ relocs.length → (hdrTo sf relocs i).length ≤ 100 + 80 * i
  | 0, _ => by
    have := sy_length sf 8 (by omega)
    have := sy_length sf 4 (by omega)
    have := Lib.uvarint_length64 (x := relocs.length) (by omega)
    simp only [hdrTo, List.take_zero, List.flatMap_nil, List.append_nil, List.length_append]; omega
  | i + 1, hi => by
    have h1 := hdrTo_len sf relocs hok hn i (by omega)
    have hge := List.getElem?_eq_getElem (by omega : i < relocs.length)
    rw [hdrTo_succ hge]
    obtain ⟨a, b⟩ := hok _ (List.getElem_mem (by omega : i < relocs.length))
    have := sy_length sf 9 (by omega)
    have := sy_length sf 4 (by omega)
    have := Lib.uvarint_length64 a
    have := Lib.uvarint_length64 b
    simp only [List.length_append]; omega

theorem upTo_small {sf : Int} {secs : Nat → List ByteArray} {x : El} (hx : x.Ok) {M : Nat} (hM : (secs 0).length ≤ M) (hM2 : M ≤ 100000) : ∀ j, j ≤ x.bits.length → (Es.upTo sf secs x j).Small
  | 0, _ => by intro p hp; simp [Es.upTo, Es.begin] at hp
  | j + 1, hj => by
    have h := upTo_small (sf := sf) hx hM hM2 j (by omega)
    have hu := upTo_ok (sf := sf) hx hM hM2 j (by omega)
    have hl := hx.len
    have hge := List.getElem?_eq_getElem (by omega : j < x.bits.length)
    have hb := hx.bits _ (List.getElem_mem (by omega : j < x.bits.length))
    rw [upTo_succ hge]
    have := hu.strs
    exact Small.step hb h (by omega)

theorem elBytes_size {sf : Int} {secs : Nat → List ByteArray} {x : El} (hx : x.Ok) {M : Nat} (hM : (secs 0).length ≤ M) (hM2 : M ≤ 72000) : (elBytes sf secs x).size ≤ 20000000 := by
  have hl := hx.len
  have hu := upTo_ok (sf := sf) hx hM (by omega) x.bits.length (Nat.le_refl _)
  have hs := upTo_small (sf := sf) hx hM (by omega) x.bits.length (Nat.le_refl _)
  rw [upTo_all] at hu hs
  obtain ⟨hle, -, -, -⟩ := hu
  have h1 := hle.bs
  have h2 := hle.relocs
  have h3 := hdrTo_len sf _ hs (by omega) _ (Nat.le_refl _)
  have h4 : (elBytes sf secs x).size = (hdrTo sf (Es.all sf secs x).relocs (Es.all sf secs x).relocs.length).length + (Es.all sf secs x).bs.length := by
    simp [elBytes, ByteArray.size, Es.flush, hdrBytes]
  omega

def El.Short (x : El) : Prop := ∀ b ∈ x.bits, ∀ s ∈ b.texts, s.size ≤ 200
theorem mem_foldStr (ss : List ByteArray) : ∀ (secs : Nat → List ByteArray) (s : ByteArray), s ∈ ss.foldl strPut secs 0 → s ∈ secs 0 ∨ s ∈ ss := by
  induction ss with
  | nil => intro secs s h; exact Or.inl h
  | cons t ss ih =>
    intro secs s h
    rcases ih _ _ h with h | h
    · unfold strPut at h
      split at h
      · exact Or.inl h
      · simp only [secPut, if_true, List.mem_append, List.mem_singleton] at h
        rcases h with h | rfl
        · exact Or.inl h
        · exact Or.inr List.mem_cons_self
    · exact Or.inr (List.mem_cons_of_mem _ h)
theorem mem_fold {sf : Int} : ∀ (bits : List Bt) (e : Es) (s : ByteArray), s ∈ (bits.foldl (Es.step sf) e).secs 0 → s ∈ e.secs 0 ∨ ∃ b ∈ bits, s ∈ b.strs
  | [], _, _, h => Or.inl h
  | b :: bits, e, s, h => by
    rcases mem_fold bits _ s h with h | ⟨c, hc, h⟩
    · rw [step_secs] at h
      rcases mem_foldStr _ _ _ h with h | h
      · exact Or.inl h
      · exact Or.inr ⟨b, List.mem_cons_self, h⟩
    · exact Or.inr ⟨c, List.mem_cons_of_mem _ hc, h⟩

/-- The strings of the sections are short enough. -/
structure SzOk (secs : Nat → List ByteArray) : Prop where
  strs : ∀ s ∈ secs 0, s.size ≤ 200
  other : ∀ k, k ≠ 0 → ∀ s ∈ secs k, s.size ≤ 20000000

theorem packEl_sz {sf : Int} {secs : Nat → List ByteArray} {x : El} (hx : x.Ok) (hs : x.Short) (h : SzOk secs) {M : Nat} (hM : (secs 0).length ≤ M) (hM2 : M ≤ 72000) : SzOk (packEl sf secs x) := by
  have h1 := hx.sec1
  have hx0 : x.sec ≠ 0 := by omega
  constructor
  · intro s hm
    rw [packEl_at _ _ _ hx0, if_neg (by omega), if_pos rfl] at hm
    rcases mem_fold x.bits _ s hm with hm | ⟨b, hb, hm⟩
    · simp only [Es.begin, secPut] at hm
      rw [if_neg (by omega)] at hm
      exact h.strs s hm
    · have hbo := hx.bits b hb
      unfold Bt.strs at hm
      split at hm
      · simp only [List.mem_singleton] at hm
        subst hm
        exact hbo.text
      · split at hm
        · exact hs b hb s hm
        · simp at hm
  · intro k hk s hm
    rw [packEl_at _ _ _ hx0] at hm
    split at hm
    · simp only [List.mem_append, List.mem_singleton] at hm
      rcases hm with hm | rfl
      · exact h.other k hk s hm
      · exact elBytes_size hx hM hM2
    · exact h.other k hk s (by simpa [hk] using hm)

theorem packTo_sz {sf : Int} {els : List El} (hok : ∀ x ∈ els, x.Ok) (hs : ∀ x ∈ els, x.Short) (h60 : els.length ≤ 60) : ∀ i, i ≤ els.length → SzOk (packTo sf els i)
  | 0, _ => ⟨by simp [packTo], by simp [packTo]⟩
  | i + 1, hi => by
    have hge := List.getElem?_eq_getElem (by omega : i < els.length)
    rw [packTo_succ hge]
    have hm := List.getElem_mem (by omega : i < els.length)
    have hp := packTo_ok (sf := sf) hok h60 i (by omega)
    exact packEl_sz (hok _ hm) (hs _ hm) (packTo_sz hok hs h60 i (by omega)) hp.strs (by omega)

/-- What DumpTo asks of the sections. -/
theorem packAll_fits {sf : Int} {els : List El} (hok : ∀ x ∈ els, x.Ok) (hs : ∀ x ∈ els, x.Short) (h60 : els.length ≤ 60) :
    (∀ k, k < 10 → (packAll sf els k).length ≤ 100000) ∧ ∀ k, k < 10 → ∀ s ∈ packAll sf els k, s.size ≤ 20000000 := by
  have h1 := packTo_ok (sf := sf) hok h60 els.length (Nat.le_refl _)
  have h2 := packTo_sz (sf := sf) hok hs h60 els.length (Nat.le_refl _)
  rw [packTo_all] at h1 h2
  constructor
  · intro k hk
    by_cases h0 : k = 0
    · subst h0
      have := h1.strs
      omega
    · have := h1.other k h0
      omega
  · intro k hk s hm
    by_cases h0 : k = 0
    · subst h0
      have := h2.strs s hm
      omega
    · exact h2.other k h0 s hm

end Go.Proofs.YthhpmeaajgjdeaaDoor
