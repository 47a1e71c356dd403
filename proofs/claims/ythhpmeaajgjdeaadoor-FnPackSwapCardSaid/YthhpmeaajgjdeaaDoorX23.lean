/- sha256: the digest's Write. -/
import Derived.Test.YthhpmeaajgjdeaaDoorX22

set_option linter.unusedVariables false
set_option linter.unusedSimpArgs false

/- Pe: sha256: (*Digest).Write over this program. -/
namespace Go.Proofs.YthhpmeaajgjdeaaDoor
open Go Go.RowKit

theorem byteAt_take (p : List UInt8) (i k : Nat) (h : k < i) : byteAt (p.take i) k = byteAt p k := by
  simp [byteAt, List.getD_eq_getElem?_getD, List.getElem?_take, h]

set_option maxHeartbeats 4000000 in
set_option maxRecDepth 10000 in
theorem dgWrite (db : Nat) (d : Dg) (b o n c : Nat) (p : List UInt8) (K : Nat → Int) (w : World) (h : DgAt w db d) (hn : p.length = n) (hc : n ≤ c) (hc63 : c ≤ 9223372036854775807) (hp : ∀ k, k < n → w.cell? ⟨b, o + k, none⟩ = some (.int .u8 (byteAt p k))) (hK : Kat w K) (hb : b < w.heap.size) (h7 : 7 < w.heap.size) (hbd : ¬ b = db) (h7d : ¬ 7 = db) :
    Calls Tryd.prog 102 #[.pointer (some ⟨db, 0, none⟩), .slice (some ⟨b, o, none⟩) n c] w fun e w' => e = .returned (.tuple #[.int .i64 n, .nilIface]) ∧ DgAt w' db (d.write K p) ∧ Keeps (fun k => k = db) w w' := by
  obtain ⟨s, x, nx, len⟩ := d
  obtain ⟨hblk, hx, hnx, hmod, hl0, hl1⟩ := h
  simp only at *
  obtain ⟨i72, i73, i74⟩ := dgC_get s x nx len hx
  have c72 : w.cell? ⟨db, 72, none⟩ = some (.int .i64 nx) := by rw [Lib.cell_of_heap hblk]; exact i72
  have c73 : w.cell? ⟨db, 73, none⟩ = some (.int .u64 len) := by rw [Lib.cell_of_heap hblk]; exact i73
  have f73 := Lib.frozen_of_heap hblk 73
  have HMOD := Lib.hid (And.intro hmod (And.intro hl0 hl1))
  clear hmod hl0 hl1
  have hn63 : (n : Int) ≤ 9223372036854775807 := by omega
  go_enter Tryd.func102, Tryd.ntmps102
  go_upto_if 23 with fail
  go_cut [1] from 6 to 58 (fun u wx => ∃ (o1 c1 : Nat), u = .slice (some ⟨b, o1, none⟩) (Dg.left ⟨s, x, nx, len⟩ p).length c1 ∧ (Dg.left ⟨s, x, nx, len⟩ p).length ≤ c1 ∧ c1 ≤ c ∧ (∀ k, k < (Dg.left ⟨s, x, nx, len⟩ p).length → wx.cell? ⟨b, o1 + k, none⟩ = some (.int .u8 (byteAt (Dg.left ⟨s, x, nx, len⟩ p) k))) ∧
    wx.heap[db]? = some (.cells (dgC (Dg.first K ⟨s, x, nx, IntKind.u64.wrap (len + n)⟩ p).s (dgRest (Dg.first K ⟨s, x, nx, IntKind.u64.wrap (len + n)⟩ p).x (Dg.first K ⟨s, x, nx, IntKind.u64.wrap (len + n)⟩ p).nx (IntKind.u64.wrap (len + n)))) 163 (0, 0)) ∧ (Dg.first K ⟨s, x, nx, IntKind.u64.wrap (len + n)⟩ p).x.length = 64 ∧ Keeps (fun k => k = db) w wx)
  case first =>
    have hb1 := Lib.heap_setCell_same (i := 73) hblk (.int .u64 (IntKind.u64.wrap (len + n)))
    rw [dgC_len _ _ _ _ _ hx] at hb1
    have hk1 : Keeps (fun k => k = db) w (w.setCell ⟨db, 73, none⟩ (.int .u64 (IntKind.u64.wrap (len + n)))) := (Keeps.refl (fun k => k = db) w).setCell (p := ⟨db, 73, none⟩) (by exact Or.inl rfl) _
    generalize hlen : IntKind.u64.wrap (len + n) = len' at *
    generalize hW1 : w.setCell ⟨db, 73, none⟩ (.int .u64 len') = w1 at *
    clear hlen hW1 c72 c73 f73 i72 i73 i74
    obtain ⟨i72, i73, i74⟩ := dgC_get s x nx len' hx
    have c72 : w1.cell? ⟨db, 72, none⟩ = some (.int .i64 nx) := by rw [Lib.cell_of_heap hb1]; exact i72
    have f72 := Lib.frozen_of_heap hb1 72
    have hp1 : ∀ k, k < n → w1.cell? ⟨b, o + k, none⟩ = some (.int .u8 (byteAt p k)) := fun k hk => hk1.cell (hp k hk) hbd
    by_cases h0 : nx = 0
    · subst h0
      have HH := Lib.hid (And.intro hb1 (And.intro hk1 hp1))
      clear hp hK hb1 hk1 hp1 hblk
      go_wp2_with fail
      go_meet
      obtain ⟨hb1, hk1, hp1⟩ := HH.out
      refine ⟨o, c, ?_, ?_, Nat.le_refl _, ?_, ?_, ?_, hk1⟩
      · simp [Dg.left, hn]
      · simpa [Dg.left, hn] using hc
      · simpa [Dg.left, hn] using hp1
      · simpa [Dg.first] using hb1
      · simpa [Dg.first] using hx
    · have hnx0 : (0 : Int) < (nx : Int) := by omega
      have hnx64 : (nx : Int) < 64 := by omega
      have hql : (p.take (64 - nx)).length = Nat.min n (64 - nx) := by rw [List.length_take, hn, Nat.min_comm]
      have hqb : ∀ k, k < (p.take (64 - nx)).length → byteAt (p.take (64 - nx)) k = byteAt p k := by
        intro k hk
        have : k < 64 - nx := by rw [List.length_take] at hk; omega
        simp [byteAt, List.getD_eq_getElem?_getD, List.getElem?_take, this]
      have hcp := dg_copy (w := w1.drew) hb1 hx nx (64 - nx) (64 - nx) (p.take (64 - nx)) b o n c hql (by rw [List.length_take]; omega) (fun k hk => by
        rw [hqb k hk]; exact hp1 k (by rw [List.length_take] at hk; omega))
      have hsl := slice161 db nx hnx
      have hx2 : (over x nx (p.take (64 - nx))).length = 64 := by rw [over_length (by rw [List.length_take]; omega)]; exact hx
      have hb2 := setRow_heap w1.drew db _ (dgC s (dgRest (over x nx (p.take (64 - nx))) nx len')) 163 _ (show w1.drew.heap[db]? = _ from hb1)
      have hk2 : Keeps (fun k => k = db) w (w1.drew.setRow db (dgC s (dgRest (over x nx (p.take (64 - nx))) nx len'))) := hk1.drew.setRow (by exact Or.inl rfl) _
      by_cases hlt : n < 64 - nx
      · have hmin : Nat.min n (64 - nx) = n := Nat.min_eq_left (by omega)
        rw [hql, hmin] at hcp
        have hne64 : ¬ (nx : Int) + (n : Int) = 64 := by omega
        have hwr : IntKind.i64.wrap ((nx : Int) + (n : Int)) = (nx : Int) + (n : Int) := by rw [IntKind.wrap_i64]; omega
        go_wp2
        go_region
        generalize hW2 : w1.drew.setRow db (dgC s (dgRest (over x nx (p.take (64 - nx))) nx len')) = w2 at *
        clear hW2
        obtain ⟨j72, -, -⟩ := dgC_get s _ nx len' hx2
        have e72 : w2.cell? ⟨db, 72, none⟩ = some (.int .i64 nx) := by rw [Lib.cell_of_heap hb2]; exact j72
        have ef72 := Lib.frozen_of_heap hb2 72
        have hleft0 : Dg.left ⟨s, x, nx, len⟩ p = [] := by
          simp only [Dg.left, if_neg h0]; exact List.drop_eq_nil_of_le (by omega)
        have htk : p.take (64 - nx) = p := List.take_of_length_le (by omega)
        have hfirst : Dg.first K ⟨s, x, nx, len'⟩ p = ⟨s, over x nx p, nx + n, len'⟩ := by
          simp only [Dg.first, if_neg h0, hn, if_pos hlt]
        have hb3 := Lib.heap_setCell_same (i := 72) hb2 (.int .i64 ((nx + n : Nat) : Int))
        rw [dgC_nx _ _ _ _ _ hx2, htk, Int.natCast_add] at hb3
        have hk3 := hk2.setCell (p := ⟨db, 72, none⟩) (by exact Or.inl rfl) (.int .i64 ((nx : Int) + (n : Int)))
        rw [htk] at hx2
        have FIN := Lib.hid (And.intro hb3 (And.intro hk3 (And.intro hx2 (And.intro hleft0 hfirst))))
        clear hb3 hk3 hx2 hleft0 htk hfirst hp hK hp1 hb2 hk2 hb1 hk1 hblk
        go_wp2_with fail
        all_goals go_meet
        all_goals obtain ⟨hb3, hk3, hx2, hleft0, hfirst⟩ := FIN.out
        all_goals rw [hleft0, hfirst]
        all_goals exact ⟨_, _, rfl, Nat.zero_le _, by omega, fun k hk => absurd hk (Nat.not_lt_zero _), hb3, hx2, hk3⟩
      · obtain ⟨m, hm⟩ : ∃ m, m = 64 - nx := ⟨_, rfl⟩
        have hmin : Nat.min n (64 - nx) = m := by rw [hm]; exact Nat.min_eq_right (by omega)
        rw [hql, hmin] at hcp
        rw [← hm] at hcp hsl hx2 hb2 hk2 hlt hqb hql
        have hsum : (nx : Int) + (m : Int) = 64 := by omega
        have hmn : (m : Int) ≤ (n : Int) := by omega
        have hmc : m ≤ c := by omega
        have hlen0 : (p.drop m).length = n - m := by rw [List.length_drop, hn]
        have hleft : Dg.left ⟨s, x, nx, len⟩ p = p.drop m := by
          simp only [Dg.left, if_neg h0, hm]
        have hfirst : Dg.first K ⟨s, x, nx, len'⟩ p = ⟨blkS K s (over x nx (p.take m)), over x nx (p.take m), 0, len'⟩ := by
          simp only [Dg.first, if_neg h0, hn, ← hm, if_neg hlt]
        have hb3 : ((w1.drew.setRow db (dgC s (dgRest (over x nx (p.take m)) nx len'))).setCell ⟨db, 72, none⟩ (.int .i64 64)).heap[db]? = some (.cells (dgC s (dgRest (over x nx (p.take m)) 64 len')) 163 (0, 0)) := by
          have h := Lib.heap_setCell_same (i := 72) hb2 (.int .i64 ((64 : Nat) : Int))
          rw [dgC_nx _ _ _ _ _ hx2] at h
          exact h
        have hk3 := hk2.setCell (p := ⟨db, 72, none⟩) (by exact Or.inl rfl) (.int .i64 64)
        have HB2 := Lib.hid hb2
        have hdb1 := Lib.lt_of_heap hb3
        have hbl := blockC db s (dgRest (over x nx (p.take m)) 64 len') db 8 64 64 (over x nx (p.take m)) K _ hx2 (by omega) (by omega) (fun k hk => by rw [Lib.cell_of_heap hb3]; exact dgC_x _ _ _ _ hx2 k hk) (hK.keeps hk3 h7d) hdb1 (by have := hk3.size; omega) hb3
        have HB := Lib.hid hbl
        have hsa := sliceAll161 db
        have FIN := Lib.hid (And.intro hk3 (And.intro hx2 (And.intro hleft hfirst)))
        have HP := Lib.hid hp
        clear hb3 hbl hk3 hleft hfirst hp hK hp1 hb2 hk2 hb1 hk1 hblk hqb hql hmin hm
        go_wp2
        go_region
        generalize hW2 : w1.drew.setRow db (dgC s (dgRest (over x nx (p.take m)) nx len')) = w2 at *
        clear hW2
        have hb2 := HB2.out
        obtain ⟨j72, -, -⟩ := dgC_get s _ nx len' hx2
        have e72 : w2.cell? ⟨db, 72, none⟩ = some (.int .i64 nx) := by rw [Lib.cell_of_heap hb2]; exact j72
        have ef72 := Lib.frozen_of_heap hb2 72
        clear hb2 j72 HB2
        go_wp2_with (go_at_call 105; refine (HB.out).mono ?_; rintro e w4 ⟨rfl, hp⟩; refine Hid.out ?_)
        refine Lib.hid ?_
        obtain ⟨hb4, hk4⟩ := hp
        have i72 : w4.cell? ⟨db, 72, none⟩ = some (.int .i64 (64 : Nat)) := by rw [Lib.cell_of_heap hb4]; exact (dgC_get _ _ 64 len' hx2).1
        have if72 := Lib.frozen_of_heap hb4 72
        have hb5 := Lib.heap_setCell_same (i := 72) hb4 (.int .i64 ((0 : Nat) : Int))
        rw [dgC_nx _ _ _ _ _ hx2] at hb5
        have hk5 := (FIN.out.1.same hk4).setCell (p := ⟨db, 72, none⟩) (by exact Or.inl rfl) (.int .i64 ((0 : Nat) : Int))
        have FIN2 := Lib.hid (And.intro hb5 hk5)
        clear hb5 hk5 hb4 hk4
        go_wp2_with fail
        all_goals go_meet
        all_goals obtain ⟨hk3, hx2, hleft, hfirst⟩ := FIN.out
        all_goals obtain ⟨hb5, hk5⟩ := FIN2.out
        all_goals rw [hleft, hfirst, hlen0]
        · exact ⟨_, _, rfl, by omega, by omega, fun k hk => absurd hk (by omega), hb5, hx2, hk5⟩
        · refine ⟨_, _, rfl, by omega, by omega, fun k hk => ?_, hb5, hx2, hk5⟩
          rw [byteAt_drop, Nat.add_assoc]
          exact hk5.cell (HP.out (m + k) (by omega)) hbd
  case rest =>
    obtain ⟨o1, c1, rfl, hm1, hc1, hp1, hb1, hx1, hk1⟩ := hcut
    have hwr : Dg.write K ⟨s, x, nx, len⟩ p = ((Dg.first K ⟨s, x, nx, IntKind.u64.wrap (len + n)⟩ p).whole K (Dg.left ⟨s, x, nx, len⟩ p)).rest ((Dg.left ⟨s, x, nx, len⟩ p).drop ((Dg.left ⟨s, x, nx, len⟩ p).length / 64 * 64)) := by rw [← hn]; rfl
    have hl1 : (Dg.first K ⟨s, x, nx, IntKind.u64.wrap (len + n)⟩ p).len = IntKind.u64.wrap (len + n) := Dg.first_len _ _ _
    have hwok := Dg.write_ok K ⟨s, x, nx, len⟩ p ⟨hx, hnx, HMOD.out.1, HMOD.out.2.1, HMOD.out.2.2⟩ (by omega)
    rw [hwr] at hwok
    generalize hlen' : IntKind.u64.wrap (len + n) = len' at *
    generalize hq : Dg.left ⟨s, x, nx, len⟩ p = q at *
    generalize hd1 : Dg.first K ⟨s, x, nx, len'⟩ p = d1 at *
    have HW := Lib.hid (And.intro hwok (And.intro hl1 hwr))
    clear hwr hwok hlen' hq hd1 hl1 hp hblk hx hnx i72 i73 i74 c72 c73 f73 HMOD
    have hd1 := Lib.lt_of_heap hb1
    obtain ⟨m, hm⟩ : ∃ m, m = q.length := ⟨_, rfl⟩
    rw [← hm] at hm1 hp1
    have hm' : q.length = m := hm.symm
    clear hm
    have HP1 := Lib.hid (And.intro hp1 (And.intro hb1 hk1))
    have HK := Lib.hid hK
    clear hp1 hb1 hk1 hK
    rw [hm']
    go_upto_if 61 with fail
    go_cut [1] from 61 to 82 (fun u wx => ∃ (o2 c2 : Nat), u = .slice (some ⟨b, o2, none⟩) (q.drop (m / 64 * 64)).length c2 ∧ (q.drop (m / 64 * 64)).length ≤ c2 ∧ c2 ≤ c ∧ (∀ k, k < (q.drop (m / 64 * 64)).length → wx.cell? ⟨b, o2 + k, none⟩ = some (.int .u8 (byteAt (q.drop (m / 64 * 64)) k))) ∧
      wx.heap[db]? = some (.cells (dgC (Dg.whole K d1 q).s (dgRest d1.x d1.nx len')) 163 (0, 0)) ∧ Keeps (fun k => k = db) w wx)
    case first =>
      by_cases h64 : m < 64
      · have h64' : ¬ (64 : Int) ≤ (m : Int) := by omega
        go_wp2_with fail
        go_meet
        obtain ⟨hp1, hb1, hk1⟩ := HP1.out
        have e0 : m / 64 * 64 = 0 := by omega
        rw [e0, List.drop_zero, hm']
        refine ⟨o1, c1, rfl, hm1, hc1, hp1, ?_, hk1⟩
        simp only [Dg.whole, hm', if_pos h64]
        exact hb1
      · have h64' : (64 : Int) ≤ (m : Int) := by omega
        have hAN := andNot_63 m (by omega)
        obtain ⟨N, hN⟩ : ∃ N, N = m / 64 * 64 := ⟨_, rfl⟩
        rw [← hN] at hAN
        have HN := Lib.hid hN
        clear hN
        go_wp2
        have H64 := Lib.hid h64
        clear h64' h64
        generalize (decide ((64 : Int) ≤ (m : Int))) = bb
        go_loopw [1, 7] (fun u1 u7 wr => ∃ (i o' : Nat), u1 = .slice (some ⟨b, o', none⟩) (m - 65536 * i) (c1 - 65536 * i) ∧ u7 = .int .i64 ((N - 65536 * i : Nat) : Int) ∧ 65536 * i < N ∧ o' = o1 + 65536 * i ∧
          wr.heap[db]? = some (.cells (dgC (longN K q d1.s i) (dgRest d1.x d1.nx len')) 163 (0, 0)) ∧ Keeps (fun k => k = db) wc wr) (fun _ u7 _ => (intOf u7).toNat)
        case atStart =>
          obtain ⟨hp1, hb1, hk1⟩ := HP1.out
          exact ⟨0, o1, rfl, rfl, by have := HN.out; omega, rfl, hb1, Keeps.refl _ _⟩
        case round =>
          generalize hwo : wr = wo at *
          clear hwo
          obtain ⟨i, o', rfl, rfl, hiN, ho', hbo, hko⟩ := hrel
          have hHN := HN.out
          have h64 := H64.out
          have hdo := Lib.lt_of_heap hbo
          have hszo := hko.size
          have hkw := HP1.out.2.2.size
          have hKo : Kat wo K := (HK.out.keeps HP1.out.2.2 h7d).keeps hko h7d
          obtain ⟨N', hN'⟩ : ∃ N', N' = N - 65536 * i := ⟨_, rfl⟩
          obtain ⟨m', hm2⟩ : ∃ m', m' = m - 65536 * i := ⟨_, rfl⟩
          obtain ⟨c', hc2⟩ : ∃ c', c' = c1 - 65536 * i := ⟨_, rfl⟩
          rw [← hN', ← hm2, ← hc2]
          by_cases hl : 65536 < N'
          · have hl' : (65536 : Int) < (N' : Int) := by omega
            have hc65 : (65536 : Int) ≤ (c' : Int) := by omega
            have hm65 : (65536 : Int) ≤ (m' : Int) := by omega
            have hne : ¬ c' = 65536 := by omega
            have hsub : IntKind.i64.wrap ((N' : Int) - 65536) = (N' : Int) - 65536 := by rw [IntKind.wrap_i64]; omega
            have hql : ((q.drop (65536 * i)).take 65536).length = 65536 := by rw [List.length_take, List.length_drop]; omega
            have hbl := blockC db (longN K q d1.s i) (dgRest d1.x d1.nx len') b o' 65536 c' ((q.drop (65536 * i)).take 65536) K wo hql (by omega) (by omega) (fun k hk => by
              rw [byteAt_take _ _ _ hk, byteAt_drop, ho', Nat.add_assoc]
              exact hko.cell (HP1.out.1 _ (by omega)) hbd) hKo (by omega) (by omega) hbo
            have HB := Lib.hid hbl
            have HE := Lib.hid (And.intro hN' (And.intro hm2 (And.intro hc2 (And.intro ho' hko))))
            clear hbl hql hKo hbo hHN hdo hszo hkw hN' hm2 hc2 ho' hko h64
            go_wp2_with (go_at_call 105; refine (HB.out).mono ?_; rintro e w4 ⟨rfl, hp⟩; refine Hid.out ?_)
            refine Lib.hid ?_
            go_wp2_with fail
            obtain ⟨hN', hm2, hc2, ho', hko⟩ := HE.out
            have e1 : (.slice (some ⟨b, o' + 65536, none⟩) (m' - 65536) (c' - 65536) : Value) = .slice (some ⟨b, o' + 65536, none⟩) (m - 65536 * (i + 1)) (c1 - 65536 * (i + 1)) := by
              rw [show m' - 65536 = m - 65536 * (i + 1) by omega, show c' - 65536 = c1 - 65536 * (i + 1) by omega]
            have e2 : (.int .i64 ((N' : Int) - 65536) : Value) = .int .i64 ((N - 65536 * (i + 1) : Nat) : Int) := by congr 1; omega
            refine ⟨⟨i + 1, o' + 65536, e1, e2, by omega, by omega, hp.1, hko.same hp.2⟩, ?_⟩
            show (intOf (.int .i64 ((N' : Int) - 65536))).toNat < (intOf (.int .i64 (N' : Int))).toNat
            simp only [intOf]
            omega
          · have hl' : ¬ (65536 : Int) < (N' : Int) := by omega
            have hcN : (N' : Int) ≤ (c' : Int) := by omega
            have hmN : (N' : Int) ≤ (m' : Int) := by omega
            have hi : (N - 1) / 65536 = i := by omega
            have hql : ((q.drop (65536 * i)).take N').length = N' := by rw [List.length_take, List.length_drop]; omega
            have hbl := blockC db (longN K q d1.s i) (dgRest d1.x d1.nx len') b o' N' c' ((q.drop (65536 * i)).take N') K wo hql (by omega) (by omega) (fun k hk => by
              rw [byteAt_take _ _ _ hk, byteAt_drop, ho', Nat.add_assoc]
              exact hko.cell (HP1.out.1 _ (by omega)) hbd) hKo (by omega) (by omega) hbo
            have HB := Lib.hid hbl
            have HE := Lib.hid (And.intro hN' (And.intro hm2 (And.intro hc2 (And.intro ho' (And.intro hko (And.intro hi hHN))))))
            clear hbl hql hKo hbo hHN hdo hszo hkw hN' hm2 hc2 ho' hko hi h64
            go_wp2_with (go_at_call 105; refine (HB.out).mono ?_; rintro e w4 ⟨rfl, hp⟩; refine Hid.out ?_)
            refine Lib.hid ?_
            go_wp2_with fail
            all_goals go_meet
            all_goals obtain ⟨hN', hm2, hc2, ho', hko, hi, hHN⟩ := HE.out
            all_goals obtain ⟨hb4, hk4⟩ := hp
            all_goals have hwx : Dg.s (Dg.whole K d1 q) = blkS K (longN K q d1.s i) ((q.drop (65536 * i)).take N') := by simp only [Dg.whole, hm', if_neg H64.out, ← hHN, hi, ← hN']
            all_goals rw [← hHN, hwx, List.length_drop, hm']
            · refine ⟨o', 0, ?_, by omega, by omega, fun k hk => absurd hk (by omega), hb4, HP1.out.2.2.same (hko.same hk4)⟩
              rw [show m' - N' = m - N by omega]
            · refine ⟨o' + N', c' - N', ?_, by omega, by omega, fun k hk => ?_, hb4, HP1.out.2.2.same (hko.same hk4)⟩
              · rw [show m' - N' = m - N by omega]
              · rw [byteAt_drop, show o' + N' + k = o1 + (N + k) by omega]
                exact hk4.cell (hko.cell (HP1.out.1 (N + k) (by omega)) hbd) hbd
    case rest =>
      obtain ⟨o2, c2, rfl, hm2, hc2, hp2, hb2, hk2⟩ := hcut
      obtain ⟨hok, hl1, hwr⟩ := HW.out
      rw [hm'] at hok hwr
      clear HP1 HK HW
      generalize hd2 : Dg.whole K d1 q = d2 at *
      have hd2x : d2.x = d1.x ∧ d2.nx = d1.nx ∧ d2.len = d1.len := by rw [← hd2]; exact Dg.whole_x K d1 q
      obtain ⟨hx2, hn2, hl2⟩ := hd2x
      have hr64 : (q.drop (m / 64 * 64)).length < 64 := by rw [List.length_drop, hm']; omega
      generalize ht : q.drop (m / 64 * 64) = t at *
      clear ht hd2 hm' hm1
      obtain ⟨r, hr⟩ : ∃ r, r = t.length := ⟨_, rfl⟩
      rw [← hr] at hm2 hp2 hr64 ⊢
      by_cases h0 : r = 0
      · have h0' : ¬ (0 : Int) < (r : Int) := by omega
        have hrest : d2.rest t = d2 := by rw [Dg.rest, if_pos (by omega)]
        have FIN : Hid (DgAt wc db (Dg.write K ⟨s, x, nx, len⟩ p) ∧ Keeps (fun k => k = db) w wc) := Lib.hid (And.intro (by
          rw [hwr]
          refine DgAt.mk' hok ?_
          rw [hrest, hx2, hn2, hl2, hl1]
          exact hb2) hk2)
        clear hok hl1 hwr hp2 hb2 hk2 hrest hx2 hn2 hl2 hr hx1
        go_wp2_with fail
        go_ret2
        exact ⟨rfl, FIN.out⟩
      · have h0' : (0 : Int) < (r : Int) := by omega
        have hrest : d2.rest t = { d2 with x := over d2.x 0 t, nx := r } := by rw [Dg.rest, if_neg (by omega), hr]
        have hcp := dg_copy (w := wc) hb2 hx1 0 64 64 t b o2 r c2 (by rw [← hr]; exact (Nat.min_eq_left (by omega)).symm) (by omega) (fun k hk => hp2 k (by omega))
        simp only [Nat.add_zero] at hcp
        rw [← hr] at hcp
        have hxo : (over d1.x 0 t).length = 64 := by rw [over_length (by omega)]; exact hx1
        have hb3 := setRow_heap wc db _ (dgC d2.s (dgRest (over d1.x 0 t) d1.nx len')) 163 _ (show wc.heap[db]? = _ from hb2)
        have hk3 : Keeps (fun k => k = db) w (wc.setRow db (dgC d2.s (dgRest (over d1.x 0 t) d1.nx len'))) := hk2.setRow (by exact Or.inl rfl) _
        have hb4 := Lib.heap_setCell_same (i := 72) hb3 (.int .i64 (r : Int))
        rw [dgC_nx _ _ _ _ _ hxo] at hb4
        have hk4 := hk3.setCell (p := ⟨db, 72, none⟩) (by exact Or.inl rfl) (.int .i64 (r : Int))
        have hsa := sliceAll161 db
        have c72 : (wc.setRow db (dgC d2.s (dgRest (over d1.x 0 t) d1.nx len'))).cell? ⟨db, 72, none⟩ = some (.int .i64 d1.nx) := by rw [Lib.cell_of_heap hb3]; exact (dgC_get _ _ _ len' hxo).1
        have f72 := Lib.frozen_of_heap hb3 72
        have FIN : Hid (DgAt ((wc.setRow db (dgC d2.s (dgRest (over d1.x 0 t) d1.nx len'))).setCell ⟨db, 72, none⟩ (.int .i64 (r : Int))) db (Dg.write K ⟨s, x, nx, len⟩ p) ∧ Keeps (fun k => k = db) w ((wc.setRow db (dgC d2.s (dgRest (over d1.x 0 t) d1.nx len'))).setCell ⟨db, 72, none⟩ (.int .i64 (r : Int)))) := Lib.hid (And.intro (by
          rw [hwr]
          refine DgAt.mk' hok ?_
          rw [hrest]
          simp only
          rw [hx2, hl2, hl1]
          exact hb4) hk4)
        clear hok hl1 hwr hp2 hb2 hk2 hrest hx2 hn2 hl2 hr hx1 hb3 hb4 hk3 hk4 hxo
        go_wp2
        go_ret2
        exact ⟨rfl, FIN.out⟩

end Go.Proofs.YthhpmeaajgjdeaaDoor
