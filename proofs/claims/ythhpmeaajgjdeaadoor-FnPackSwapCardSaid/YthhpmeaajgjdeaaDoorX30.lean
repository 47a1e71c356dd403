/- The guards on one element: its bits, its strings. -/
import Derived.Test.YthhpmeaajgjdeaaDoorX14

set_option linter.unusedVariables false
set_option linter.unusedSimpArgs false

/- Sa: The laws' guards: zzFits5, zzFits4, zzFits3, zzFits2, zzFits1. -/
namespace Go.Proofs.YthhpmeaajgjdeaaDoor
open Go Go.RowKit

/-- An element as it lies, nothing asked of its numbers. -/
structure ElI where
  sec : Int
  marker : Int
  bits : List Bt

def ElsI (w : World) (B : Nat) (v : Value) (els : List ElI) : Prop :=
  (∃ ao, v = .slice ao 0 0 ∧ els = []) ∨ ∃ b o c, v = .slice (some ⟨b, o, none⟩) els.length c ∧ b < B ∧ ∀ (j : Nat) (x : ElI), els[j]? = some x →
    w.cell? ⟨b, o + j * 3, none⟩ = some (.int .i64 x.sec) ∧ w.cell? ⟨b, o + j * 3 + 1, none⟩ = some (.int .i64 x.marker) ∧ ∃ bv, w.cell? ⟨b, o + j * 3 + 2, none⟩ = some bv ∧ BitsAt w B bv x.bits

theorem ElsI.keeps {w w1 : World} {B : Nat} {v : Value} {els : List ElI} (h : ElsI w B v els) (hk : Keeps (fun j => B ≤ j) w w1) : ElsI w1 B v els := by
  rcases h with h | ⟨b, o, c, rfl, h1, h2⟩
  · exact Or.inl h
  · refine Or.inr ⟨b, o, c, rfl, h1, fun j x hj => ?_⟩
    obtain ⟨a0, a1, bv, a2, a3⟩ := h2 j x hj
    have hn : ¬ B ≤ b := by omega
    exact ⟨hk.cell a0 hn, hk.cell a1 hn, bv, hk.cell a2 hn, a3.keeps hk⟩
theorem ElsI.form {w : World} {B : Nat} {v : Value} {els : List ElI} (h : ElsI w B v els) : ∃ ao c, v = .slice ao els.length c := by
  rcases h with ⟨ao, rfl, rfl⟩ | ⟨b, o, c, rfl, -⟩
  · exact ⟨ao, 0, rfl⟩
  · exact ⟨_, c, rfl⟩
theorem ElsI.get {w : World} {B : Nat} {ao : Option Addr} {n c : Nat} {els : List ElI} (h : ElsI w B (.slice ao n c) els) {j : Nat} {x : ElI} (hx : els[j]? = some x) :
    ∃ b o, ao = some ⟨b, o, none⟩ ∧ b < B ∧ w.cell? ⟨b, o + j * 3, none⟩ = some (.int .i64 x.sec) ∧ w.cell? ⟨b, o + j * 3 + 1, none⟩ = some (.int .i64 x.marker) ∧ ∃ bv, w.cell? ⟨b, o + j * 3 + 2, none⟩ = some bv ∧ BitsAt w B bv x.bits := by
  rcases h with ⟨_, -, h⟩ | ⟨b, o, c', e, h1, h2⟩
  · subst h; simp at hx
  · cases e
    exact ⟨b, o, rfl, h1, h2 j x hx⟩
theorem StrsAt.get {w : World} {S : Nat → Prop} {ao : Option Addr} {n c : Nat} {ss : List ByteArray} (h : StrsAt w S (.slice ao n c) ss) {j : Nat} {s : ByteArray} (hs : ss[j]? = some s) :
    ∃ b o, ao = some ⟨b, o, none⟩ ∧ ¬ S b ∧ w.cell? ⟨b, o + j, none⟩ = some (.string s) ∧ s.size ≤ maxLen := by
  rcases h with ⟨_, -, h⟩ | ⟨b, o, c', e, h1, h2⟩
  · subst h; simp at hs
  · cases e
    exact ⟨b, o, rfl, h1, h2 j s hs⟩

def Bt.Fit (b : Bt) : Prop := b.texts.length ≤ 2147483647
structure ElI.Fit (x : ElI) : Prop where
  len : x.bits.length ≤ 2147483647
  bits : ∀ b ∈ x.bits, b.Fit

/-- An answer yes or no; yes says p; nothing that lay there changes. -/
def Ans (p : Prop) (w : World) (e : Ending) (w' : World) : Prop := ∃ r, e = .returned (.bool r) ∧ (r = true → p) ∧ Keeps (fun _ => False) w w'

theorem all_upto {α : Type} {p : α → Prop} {l : List α} {j : Nat} {y : α} (h : ∀ k x, k < j → l[k]? = some x → p x) (hge : l[j]? = some y) (hy : p y) : ∀ k x, k < j + 1 → l[k]? = some x → p x := by
  intro k x hk hx
  by_cases hkj : k = j
  · subst hkj
    rw [hge] at hx
    cases hx
    exact hy
  · exact h k x (by omega) hx

set_option maxHeartbeats 1000000 in
theorem zz5 (S : Nat → Prop) (v : Value) (ss : List ByteArray) (w : World) (h : StrsAt w S v ss) :
    Calls Tryd.prog 57 #[v] w fun e w' => Ans (ss.length ≤ 2147483647) w e w' := by
  obtain ⟨ao, c, rfl⟩ := h.form
  obtain ⟨n, hn⟩ : ∃ n, n = ss.length := ⟨_, rfl⟩
  rw [← hn]
  have H := Lib.hid (And.intro h hn)
  clear h hn
  go_enter Tryd.func57, Tryd.ntmps57
  by_cases hb : (2147483647 : Int) < (n : Int)
  · go_wp2
    go_ret
    exact ⟨false, rfl, by simp, Keeps.refl _ _⟩
  · go_wp2
    go_loopw [10] (fun u10 wr => ∃ j : Nat, j ≤ n ∧ u10 = .int .i64 j ∧ wr = w) (fun u10 _ => n - (intOf u10).toNat)
    case atStart => exact ⟨0, Nat.zero_le _, rfl, rfl⟩
    case round =>
      obtain ⟨j, hj, rfl, rfl⟩ := hrel
      by_cases hjn : j < n
      · have hjn' : (j : Int) < (n : Int) := by omega
        obtain ⟨h, hn⟩ := H.out
        have hge := List.getElem?_eq_getElem (show j < ss.length by omega)
        generalize ss[j]'(by omega) = s at *
        rw [← hn] at h
        obtain ⟨b, o, rfl, -, hc, -⟩ := h.get hge
        clear h hge hn
        by_cases hs : (2147483647 : Int) < (s.size : Int)
        · go_wp2
          go_ret
          exact ⟨false, rfl, by simp, Keeps.refl _ _⟩
        · go_wp2
          refine ⟨⟨j + 1, by omega, rfl, trivial⟩, ?_⟩
          simp [intOf]; omega
      · have hjn' : ¬ (j : Int) < (n : Int) := by omega
        go_wp2
        go_ret
        exact ⟨true, rfl, fun _ => by have := H.out.2; omega, Keeps.refl _ _⟩

set_option maxHeartbeats 1000000 in
theorem zz4 (S : Nat → Prop) (b : Bt) (tv : Value) (w : World) (h : StrsAt w S tv b.texts) :
    Calls Tryd.prog 44 #[b.val tv] w fun e w' => Ans b.Fit w e w' := by
  have hk := (Keeps.refl (fun _ => False) w).alloc (.cells #[.int .i64 b.kind, .int .i64 b.num, .int .i64 b.sec, .string b.text, tv] 39)
  have H := Lib.hid (zz5 S tv b.texts _ (h.keeps hk fun _ h => h.elim))
  have HK := Lib.hid hk
  clear h hk
  unfold Bt.val
  go_enter Tryd.func44, Tryd.ntmps44
  by_cases hs : (2147483647 : Int) < (b.text.size : Int)
  · go_wp2
    go_ret
    exact ⟨false, rfl, by simp, HK.out⟩
  · go_wp2_with (go_at_call 57; refine H.out.mono ?_; rintro e w1 ⟨r, rfl, hr, hk1⟩; refine Hid.out ?_)
    refine Lib.hid ?_
    have HR := Lib.hid (And.intro hr (HK.out.same hk1))
    clear hr hk1
    cases r
    · go_wp2
      go_ret
      exact ⟨false, rfl, by simp, HR.out.2⟩
    · go_wp2
      go_ret
      exact ⟨true, rfl, fun _ => HR.out.1 (by trivial), HR.out.2⟩

set_option maxHeartbeats 1000000 in
theorem zz3 (B : Nat) (v : Value) (bits : List Bt) (w : World) (h : BitsAt w B v bits) (hB : B ≤ w.heap.size) :
    Calls Tryd.prog 18 #[v] w fun e w' => Ans (bits.length ≤ 2147483647 ∧ ∀ b ∈ bits, b.Fit) w e w' := by
  obtain ⟨ao, c, rfl⟩ := h.form
  obtain ⟨n, hn⟩ : ∃ n, n = bits.length := ⟨_, rfl⟩
  rw [← hn]
  have H := Lib.hid (And.intro h hn)
  clear h hn
  go_enter Tryd.func18, Tryd.ntmps18
  by_cases hb : (2147483647 : Int) < (n : Int)
  · go_wp2
    go_ret
    exact ⟨false, rfl, by simp, Keeps.refl _ _⟩
  · go_wp2
    go_loopw [10] (fun u10 wr => ∃ j : Nat, j ≤ n ∧ u10 = .int .i64 j ∧ (∀ k x, k < j → bits[k]? = some x → x.Fit) ∧ Keeps (fun _ => False) w wr) (fun u10 _ => n - (intOf u10).toNat)
    case atStart => exact ⟨0, Nat.zero_le _, rfl, fun k x h => by omega, Keeps.refl _ _⟩
    case round =>
      generalize hwo : wr = wo at *
      clear hwo
      obtain ⟨j, hj, rfl, hall, hk⟩ := hrel
      by_cases hjn : j < n
      · have hjn' : (j : Int) < (n : Int) := by omega
        obtain ⟨h, hn⟩ := H.out
        have hge := List.getElem?_eq_getElem (show j < bits.length by omega)
        generalize bits[j]'(by omega) = x at *
        rw [← hn] at h
        have h := h.keeps (hk.mono fun _ _ h => h.elim)
        obtain ⟨b, o, rfl, hbB, c0, c1, c2, c3, tv, c4, hst⟩ := h.get hge
        obtain ⟨tao, tc, rfl⟩ := hst.form
        have hkA := (Keeps.refl (fun _ => False) wo).alloc (.cells #[.int .i64 x.kind, .int .i64 x.num, .int .i64 x.sec, .string x.text, .slice tao x.texts.length tc] 39)
        have HC := zz4 (fun k => B ≤ k) x (.slice tao x.texts.length tc) _ (hst.keeps hkA fun _ h => h.elim)
        unfold Bt.val at HC
        have HC := Lib.hid HC
        have HK := Lib.hid (And.intro hall (And.intro hge (hk.same hkA)))
        clear h hge hn hall hk hkA hst
        go_wp2_with (go_at_call 44; refine HC.out.mono ?_; rintro e w1 ⟨r, rfl, hr, hk1⟩; refine Hid.out ?_)
        refine Lib.hid ?_
        obtain ⟨hall, hge, hkw⟩ := HK.out
        have HR := Lib.hid (And.intro hr (hkw.same hk1))
        clear hr hk1 hkw hall hge HC
        cases r
        · go_wp2
          go_ret
          exact ⟨false, rfl, by simp, HR.out.2⟩
        · go_wp2
          refine ⟨⟨j + 1, by omega, rfl, all_upto HK.out.1 HK.out.2.1 (HR.out.1 (by trivial)), HR.out.2⟩, ?_⟩
          simp only [intOf]
          omega
      · have hjn' : ¬ (j : Int) < (n : Int) := by omega
        have HK := Lib.hid (And.intro hall hk)
        clear hall hk
        go_wp2
        go_ret
        refine ⟨true, rfl, fun _ => ⟨by have := H.out.2; omega, fun x hx => ?_⟩, HK.out.2⟩
        obtain ⟨k, hk⟩ := List.mem_iff_getElem?.1 hx
        have hlt : k < bits.length := (List.getElem?_eq_some_iff.1 hk).1
        exact HK.out.1 k x (by have := H.out.2; omega) hk

def ElI.val (x : ElI) (bv : Value) : Value := .agg #[.int .i64 x.sec, .int .i64 x.marker, bv]
set_option maxHeartbeats 1000000 in
theorem zz2 (B : Nat) (x : ElI) (bv : Value) (w : World) (h : BitsAt w B bv x.bits) (hB : B ≤ w.heap.size) :
    Calls Tryd.prog 8 #[x.val bv] w fun e w' => Ans x.Fit w e w' := by
  obtain ⟨ao, c, rfl⟩ := h.form
  have hk := (Keeps.refl (fun _ => False) w).alloc (.cells #[.int .i64 x.sec, .int .i64 x.marker, .slice ao x.bits.length c] 27)
  have H := Lib.hid (zz3 B (.slice ao x.bits.length c) x.bits _ (h.keeps (hk.mono fun _ _ h => h.elim)) (by simp; omega))
  have HK := Lib.hid hk
  clear h hk
  unfold ElI.val
  go_enter Tryd.func8, Tryd.ntmps8
  go_wp2_with (go_at_call 18; refine H.out.mono ?_; rintro e w1 ⟨r, rfl, hr, hk1⟩; refine Hid.out ?_)
  refine Lib.hid ?_
  have HR := Lib.hid (And.intro hr (HK.out.same hk1))
  clear hr hk1
  cases r
  · go_wp2
    go_ret
    exact ⟨false, rfl, by simp, HR.out.2⟩
  · go_wp2
    go_ret
    exact ⟨true, rfl, fun _ => ⟨(HR.out.1 (by trivial)).1, (HR.out.1 (by trivial)).2⟩, HR.out.2⟩

set_option maxHeartbeats 1000000 in
theorem zz1 (B : Nat) (v : Value) (els : List ElI) (w : World) (h : ElsI w B v els) (hB : B ≤ w.heap.size) :
    Calls Tryd.prog 4 #[v] w fun e w' => Ans (els.length ≤ 2147483647 ∧ ∀ b ∈ els, b.Fit) w e w' := by
  obtain ⟨ao, c, rfl⟩ := h.form
  obtain ⟨n, hn⟩ : ∃ n, n = els.length := ⟨_, rfl⟩
  rw [← hn]
  have H := Lib.hid (And.intro h hn)
  clear h hn
  go_enter Tryd.func4, Tryd.ntmps4
  by_cases hb : (2147483647 : Int) < (n : Int)
  · go_wp2
    go_ret
    exact ⟨false, rfl, by simp, Keeps.refl _ _⟩
  · go_wp2
    go_loopw [10] (fun u10 wr => ∃ j : Nat, j ≤ n ∧ u10 = .int .i64 j ∧ (∀ k x, k < j → els[k]? = some x → x.Fit) ∧ Keeps (fun _ => False) w wr) (fun u10 _ => n - (intOf u10).toNat)
    case atStart => exact ⟨0, Nat.zero_le _, rfl, fun k x h => by omega, Keeps.refl _ _⟩
    case round =>
      generalize hwo : wr = wo at *
      clear hwo
      obtain ⟨j, hj, rfl, hall, hk⟩ := hrel
      by_cases hjn : j < n
      · have hjn' : (j : Int) < (n : Int) := by omega
        obtain ⟨h, hn⟩ := H.out
        have hge := List.getElem?_eq_getElem (show j < els.length by omega)
        generalize els[j]'(by omega) = x at *
        rw [← hn] at h
        have h := h.keeps (hk.mono fun _ _ h => h.elim)
        obtain ⟨b, o, rfl, hbB, c0, c1, bv, c2, hst⟩ := h.get hge
        obtain ⟨tao, tc, rfl⟩ := hst.form
        have hkA := (Keeps.refl (fun _ => False) wo).alloc (.cells #[.int .i64 x.sec, .int .i64 x.marker, .slice tao x.bits.length tc] 27)
        have HC := zz2 B x (.slice tao x.bits.length tc) _ (hst.keeps (hkA.mono fun _ _ h => h.elim)) (by have := hk.size; simp; omega)
        unfold ElI.val at HC
        have HC := Lib.hid HC
        have HK := Lib.hid (And.intro hall (And.intro hge (hk.same hkA)))
        clear h hge hn hall hk hkA hst
        go_wp2_with (go_at_call 8; refine HC.out.mono ?_; rintro e w1 ⟨r, rfl, hr, hk1⟩; refine Hid.out ?_)
        refine Lib.hid ?_
        obtain ⟨hall, hge, hkw⟩ := HK.out
        have HR := Lib.hid (And.intro hr (hkw.same hk1))
        clear hr hk1 hkw hall hge HC
        cases r
        · go_wp2
          go_ret
          exact ⟨false, rfl, by simp, HR.out.2⟩
        · go_wp2
          refine ⟨⟨j + 1, by omega, rfl, all_upto HK.out.1 HK.out.2.1 (HR.out.1 (by trivial)), HR.out.2⟩, ?_⟩
          simp only [intOf]
          omega
      · have hjn' : ¬ (j : Int) < (n : Int) := by omega
        have HK := Lib.hid (And.intro hall hk)
        clear hall hk
        go_wp2
        go_ret
        refine ⟨true, rfl, fun _ => ⟨by have := H.out.2; omega, fun x hx => ?_⟩, HK.out.2⟩
        obtain ⟨k, hk⟩ := List.mem_iff_getElem?.1 hx
        have hlt : k < els.length := (List.getElem?_eq_some_iff.1 hk).1
        exact HK.out.1 k x (by have := H.out.2; omega) hk

end Go.Proofs.YthhpmeaajgjdeaaDoor

/- Sb: The laws' guards: shortTexts, within, BitOk. -/
namespace Go.Proofs.YthhpmeaajgjdeaaDoor
open Go Go.RowKit

set_option maxHeartbeats 1000000 in
theorem shortC (S : Nat → Prop) (v : Value) (ss : List ByteArray) (w : World) (h : StrsAt w S v ss) (hf : ss.length ≤ 2147483647) :
    Calls Tryd.prog 20 #[v] w fun e w' => Ans (ss.length ≤ 20 ∧ ∀ s ∈ ss, s.size ≤ 200) w e w' := by
  obtain ⟨ao, c, rfl⟩ := h.form
  obtain ⟨n, hn⟩ : ∃ n, n = ss.length := ⟨_, rfl⟩
  rw [← hn] at hf ⊢
  have H := Lib.hid (And.intro h hn)
  clear h hn
  go_enter Tryd.func20, Tryd.ntmps20
  go_wp2
  go_loopw [7] (fun u7 wr => ∃ j : Nat, j ≤ n ∧ u7 = .int .i64 j ∧ (∀ k x, k < j → ss[k]? = some x → ByteArray.size x ≤ 200) ∧ wr = w) (fun u7 _ => n - (intOf u7).toNat)
  case atStart => exact ⟨0, Nat.zero_le _, rfl, fun k x h => by omega, rfl⟩
  case round =>
    obtain ⟨j, hj, rfl, hall, hwr⟩ := hrel
    have hwr := hwr.symm
    subst hwr
    by_cases hjn : j < n
    · have hjn' : (j : Int) < (n : Int) := by omega
      obtain ⟨h, hn⟩ := H.out
      have hge := List.getElem?_eq_getElem (show j < ss.length by omega)
      generalize ss[j]'(by omega) = s at *
      rw [← hn] at h
      obtain ⟨b, o, rfl, -, hc, -⟩ := h.get hge
      have HK := Lib.hid (And.intro hall hge)
      clear h hge hn hall
      by_cases hs : (200 : Int) < (s.size : Int)
      · go_wp2
        go_ret
        exact ⟨false, rfl, by simp, Keeps.refl _ _⟩
      · go_wp2
        refine ⟨⟨j + 1, by omega, rfl, all_upto HK.out.1 HK.out.2 (by omega), trivial⟩, ?_⟩
        simp [intOf]; omega
    · have hjn' : ¬ (j : Int) < (n : Int) := by omega
      have HK := Lib.hid hall
      clear hall
      go_wp2
      go_ret
      refine ⟨decide ((n : Int) ≤ 20), rfl, fun hr => ⟨?_, fun x hx => ?_⟩, Keeps.refl _ _⟩
      · have := of_decide_eq_true hr; have := H.out.2; omega
      · obtain ⟨k, hk⟩ := List.mem_iff_getElem?.1 hx
        have hlt : k < ss.length := (List.getElem?_eq_some_iff.1 hk).1
        exact HK.out k x (by have := H.out.2; omega) hk

set_option maxHeartbeats 400000 in
theorem withinC (x lo hi : Int) (w : World) : Calls Tryd.prog 45 #[.int .i64 x, .int .i64 lo, .int .i64 hi] w fun e w' => Ans (lo ≤ x ∧ x ≤ hi) w e w' := by
  by_cases h1 : lo ≤ x
  · by_cases h2 : x ≤ hi
    · go_enter Tryd.func45, Tryd.ntmps45
      go_wp2
      go_ret
      exact ⟨true, rfl, fun _ => ⟨h1, h2⟩, Keeps.refl _ _⟩
    · go_enter Tryd.func45, Tryd.ntmps45
      go_wp2
      go_ret
      exact ⟨false, rfl, by simp, Keeps.refl _ _⟩
  · go_enter Tryd.func45, Tryd.ntmps45
    go_wp2
    go_ret
    exact ⟨false, rfl, by simp, Keeps.refl _ _⟩

/-- What BitOk says of a bit's numbers. -/
structure Bt.OkN (b : Bt) : Prop where
  kind0 : 0 ≤ b.kind
  kind12 : b.kind ≤ 12
  len : b.kind = 3 → 0 ≤ b.num
  reloc : b.kind = 8 → 0 ≤ b.sec ∧ b.sec ≤ 9 ∧ 0 ≤ b.num ∧ b.num ≤ 2147483647
  code : b.kind = 9 ∨ b.kind = 10 ∨ b.kind = 11 ∨ b.kind = 12 → 0 ≤ b.num ∧ b.num ≤ 60

set_option maxHeartbeats 4000000 in
theorem bitOk (b : Bt) (ao : Option Addr) (n c : Nat) (w : World) : Calls Tryd.prog 19 #[b.val (.slice ao n c)] w fun e w' => Ans b.OkN w e w' := by
  obtain ⟨kind, num, sec, text, texts⟩ := b
  unfold Bt.val
  simp only
  have hk := (Keeps.refl (fun _ => False) w).alloc (.cells #[.int .i64 kind, .int .i64 num, .int .i64 sec, .string text, .slice ao n c] 39)
  have HK := Lib.hid hk
  clear hk
  by_cases k3 : kind = 3
  · subst k3
    by_cases h : 0 ≤ num
    · go_enter Tryd.func19, Tryd.ntmps19
      go_wp2
      go_ret
      exact ⟨true, rfl, fun _ => ⟨by simp, by simp, fun _ => h, by simp, by simp⟩, HK.out⟩
    · go_enter Tryd.func19, Tryd.ntmps19
      go_wp2
      go_ret
      exact ⟨false, rfl, by simp, HK.out⟩
  · by_cases k8 : kind = 8
    · subst k8
      go_enter Tryd.func19, Tryd.ntmps19
      go_wp2_with (go_at_call 45; refine (withinC _ _ _ _).mono ?_; rintro e w1 ⟨r, rfl, hr, hk1⟩; refine Hid.out ?_)
      refine Lib.hid ?_
      have hw1 := hk1.heap (heap_alloc_new w _) fun h => h
      have c1 : w1.cell? ⟨w.heap.size, 1, none⟩ = some (.int .i64 num) := by rw [Lib.cell_of_heap hw1]; rfl
      have H1 := Lib.hid (And.intro hr (HK.out.same hk1))
      clear hr hk1 hw1
      cases r
      · go_wp2
        go_ret
        exact ⟨false, rfl, by simp, H1.out.2⟩
      · go_wp2_with (go_at_call 45; refine (withinC _ _ _ _).mono ?_; rintro e w2 ⟨r, rfl, hr, hk2⟩; refine Hid.out ?_)
        refine Lib.hid ?_
        have H2 := Lib.hid (And.intro hr hk2)
        clear hr hk2
        cases r
        · go_wp2
          go_ret
          exact ⟨false, rfl, by simp, H1.out.2.same H2.out.2⟩
        · go_wp2
          go_ret
          have a := H1.out.1 (by trivial)
          have b := H2.out.1 (by trivial)
          exact ⟨true, rfl, fun _ => ⟨by simp, by simp, by simp, fun _ => ⟨a.1, a.2, b.1, b.2⟩, by simp⟩, H1.out.2.same H2.out.2⟩
    · by_cases k9 : kind = 9
      · subst k9
        go_enter Tryd.func19, Tryd.ntmps19
        go_wp2_with (go_at_call 45; refine (withinC _ _ _ _).mono ?_; rintro e w1 ⟨r, rfl, hr, hk1⟩; refine Hid.out ?_)
        refine Lib.hid ?_
        have H1 := Lib.hid (And.intro hr (HK.out.same hk1))
        clear hr hk1
        cases r
        · go_wp2
          go_ret
          exact ⟨false, rfl, by simp, H1.out.2⟩
        · go_wp2
          go_ret
          have a := H1.out.1 (by trivial)
          exact ⟨true, rfl, fun _ => ⟨by simp, by simp, by simp, by simp, fun _ => ⟨a.1, by simp only; omega⟩⟩, H1.out.2⟩
      · by_cases k11 : kind = 11
        · subst k11
          go_enter Tryd.func19, Tryd.ntmps19
          go_wp2_with (go_at_call 45; refine (withinC _ _ _ _).mono ?_; rintro e w1 ⟨r, rfl, hr, hk1⟩; refine Hid.out ?_)
          refine Lib.hid ?_
          have H1 := Lib.hid (And.intro hr (HK.out.same hk1))
          clear hr hk1
          cases r
          · go_wp2
            go_ret
            exact ⟨false, rfl, by simp, H1.out.2⟩
          · go_wp2
            go_ret
            have a := H1.out.1 (by trivial)
            exact ⟨true, rfl, fun _ => ⟨by simp, by simp, by simp, by simp, fun _ => ⟨a.1, by simp only; omega⟩⟩, H1.out.2⟩
        · by_cases k10 : kind = 10
          · subst k10
            go_enter Tryd.func19, Tryd.ntmps19
            go_wp2_with (go_at_call 45; refine (withinC _ _ _ _).mono ?_; rintro e w1 ⟨r, rfl, hr, hk1⟩; refine Hid.out ?_)
            refine Lib.hid ?_
            have H1 := Lib.hid (And.intro hr (HK.out.same hk1))
            clear hr hk1
            cases r
            · go_wp2
              go_ret
              exact ⟨false, rfl, by simp, H1.out.2⟩
            · go_wp2
              go_ret
              have a := H1.out.1 (by trivial)
              exact ⟨true, rfl, fun _ => ⟨by simp, by simp, by simp, by simp, fun _ => ⟨a.1, by simp only; omega⟩⟩, H1.out.2⟩
          · by_cases k12 : kind = 12
            · subst k12
              go_enter Tryd.func19, Tryd.ntmps19
              go_wp2_with (go_at_call 45; refine (withinC _ _ _ _).mono ?_; rintro e w1 ⟨r, rfl, hr, hk1⟩; refine Hid.out ?_)
              refine Lib.hid ?_
              have H1 := Lib.hid (And.intro hr (HK.out.same hk1))
              clear hr hk1
              cases r
              · go_wp2
                go_ret
                exact ⟨false, rfl, by simp, H1.out.2⟩
              · go_wp2
                go_ret
                have a := H1.out.1 (by trivial)
                exact ⟨true, rfl, fun _ => ⟨by simp, by simp, by simp, by simp, fun _ => ⟨by simp only; omega, by simp only; omega⟩⟩, H1.out.2⟩
            · go_enter Tryd.func19, Tryd.ntmps19
              go_wp2_with (go_at_call 45; refine (withinC _ _ _ _).mono ?_; rintro e w1 ⟨r, rfl, hr, hk1⟩; refine Hid.out ?_)
              refine Lib.hid ?_
              have H1 := Lib.hid (And.intro hr (HK.out.same hk1))
              clear hr hk1
              cases r
              · go_wp2
                go_ret
                exact ⟨false, rfl, by simp, H1.out.2⟩
              · go_wp2
                go_ret
                have a := H1.out.1 (by trivial)
                exact ⟨true, rfl, fun _ => ⟨a.1, a.2, by simp [k3], by simp [k8], by simp [k9, k10, k11, k12]⟩, H1.out.2⟩

end Go.Proofs.YthhpmeaajgjdeaaDoor
