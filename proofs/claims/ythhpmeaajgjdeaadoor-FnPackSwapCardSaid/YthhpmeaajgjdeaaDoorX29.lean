/- DumpTo, whole: what it writes is a function of the tables. -/
import Derived.Test.YthhpmeaajgjdeaaDoorX28
import Derived.Test.YthhpmeaajgjdeaaDoorX14
import Derived.StillTailTactics

set_option linter.unusedVariables false
set_option linter.unusedSimpArgs false

/- Rf: (*PkgEncoder).DumpTo: the walk. -/
namespace Go.Proofs.YthhpmeaajgjdeaaDoor
open Go Go.RowKit

/-- A further number: a sum so far, and what was written. -/
def numStep (p : Int × List (List UInt8)) (n : Nat) : Int × List (List UInt8) := ((p.1 + n) % 4294967296, p.2 ++ [le4 ((p.1 + n) % 4294967296)])
/-- The first numbers: the version, and the flags if there are any. -/
def flagCs (ver sf : Int) : List (List UInt8) := le4 ver :: (if 1 ≤ ver then [le4 (if 0 ≤ sf then 1 else 0)] else [])
/-- The sections' ends. -/
def endsTo (secs : Nat → List ByteArray) (p : Int × List (List UInt8)) : Nat → Int × List (List UInt8)
  | 0 => p
  | i + 1 => numStep (endsTo secs p i) (secs i).length
/-- The elements' ends. -/
def sizesTo (secs : Nat → List ByteArray) (p : Int × List (List UInt8)) : Nat → Int × List (List UInt8)
  | 0 => p
  | i + 1 => (secs i).foldl (fun p s => numStep p s.size) (sizesTo secs p i)
/-- The elements. -/
def datasTo (secs : Nat → List ByteArray) (p : List (List UInt8)) : Nat → List (List UInt8)
  | 0 => p
  | i + 1 => datasTo secs p i ++ (secs i).map (·.data.toList)
/-- All that is written before the sum. -/
def dumpCs (ver sf : Int) (secs : Nat → List ByteArray) : List (List UInt8) := datasTo secs (sizesTo secs (0, (endsTo secs (0, flagCs ver sf) 10).2) 10).2 10

theorem numStep_len (p : Int × List (List UInt8)) (n : Nat) : (numStep p n).2.flatten.length = p.2.flatten.length + 4 := by simp [numStep, le4]
theorem numStep_rng (p : Int × List (List UInt8)) (n : Nat) : 0 ≤ (numStep p n).1 ∧ (numStep p n).1 < 4294967296 := by simp only [numStep]; omega
theorem flagCs_len (ver sf : Int) : (flagCs ver sf).flatten.length ≤ 8 := by unfold flagCs; split <;> simp [le4]
theorem endsTo_ok (secs : Nat → List ByteArray) (p : Int × List (List UInt8)) (h0 : 0 ≤ p.1) (h1 : p.1 < 4294967296) : ∀ i, 0 ≤ (endsTo secs p i).1 ∧ (endsTo secs p i).1 < 4294967296 ∧ (endsTo secs p i).2.flatten.length = p.2.flatten.length + 4 * i
  | 0 => ⟨h0, h1, rfl⟩
  | i + 1 => by
    obtain ⟨-, -, h⟩ := endsTo_ok secs p h0 h1 i
    refine ⟨(numStep_rng _ _).1, (numStep_rng _ _).2, ?_⟩
    rw [endsTo, numStep_len, h]
    omega
theorem sizes_fold (l : List ByteArray) : ∀ (p : Int × List (List UInt8)), 0 ≤ p.1 → p.1 < 4294967296 → 0 ≤ (l.foldl (fun p s => numStep p s.size) p).1 ∧ (l.foldl (fun p s => numStep p s.size) p).1 < 4294967296 ∧ (l.foldl (fun p s => numStep p s.size) p).2.flatten.length = p.2.flatten.length + 4 * l.length := by
  induction l with
  | nil => intro p h0 h1; exact ⟨h0, h1, rfl⟩
  | cons s l ih =>
    intro p h0 h1
    obtain ⟨a, b, c⟩ := ih (numStep p s.size) (numStep_rng _ _).1 (numStep_rng _ _).2
    refine ⟨a, b, ?_⟩
    rw [List.foldl_cons, c, numStep_len, List.length_cons]
    omega
theorem sizesTo_ok (secs : Nat → List ByteArray) (p : Int × List (List UInt8)) (h0 : 0 ≤ p.1) (h1 : p.1 < 4294967296) (hn : ∀ k, k < 10 → (secs k).length ≤ 100000) : ∀ i, i ≤ 10 → 0 ≤ (sizesTo secs p i).1 ∧ (sizesTo secs p i).1 < 4294967296 ∧ (sizesTo secs p i).2.flatten.length ≤ p.2.flatten.length + 400000 * i
  | 0, _ => ⟨h0, h1, by simp [sizesTo]⟩
  | i + 1, hi => by
    obtain ⟨a, b, h⟩ := sizesTo_ok secs p h0 h1 hn i (by omega)
    obtain ⟨c, d, e⟩ := sizes_fold (secs i) (sizesTo secs p i) a b
    have := hn i (by omega)
    exact ⟨c, d, by rw [sizesTo, e]; omega⟩
theorem datas_len (l : List ByteArray) (hs : ∀ s ∈ l, s.size ≤ 20000000) : (l.map (·.data.toList)).flatten.length ≤ 20000000 * l.length := by
  induction l with
  | nil => simp
  | cons s l ih =>
    have h1 := ih fun x hx => hs x (List.mem_cons_of_mem _ hx)
    have h2 : s.data.size ≤ 20000000 := hs s List.mem_cons_self
    rw [List.map_cons, List.flatten_cons, List.length_append, List.length_cons, Array.length_toList]
    omega
theorem datasTo_len (secs : Nat → List ByteArray) (p : List (List UInt8)) (hn : ∀ k, k < 10 → (secs k).length ≤ 100000) (hs : ∀ k, k < 10 → ∀ s ∈ secs k, s.size ≤ 20000000) : ∀ i, i ≤ 10 → (datasTo secs p i).flatten.length ≤ p.flatten.length + 2000000000000 * i
  | 0, _ => by simp [datasTo]
  | i + 1, hi => by
    have h := datasTo_len secs p hn hs i (by omega)
    have h2 := datas_len (secs i) (hs i (by omega))
    have := hn i (by omega)
    rw [datasTo, List.flatten_append, List.length_append]
    omega

/-- A string of a section, where it lies. -/
theorem rowStr {w : World} {v : Value} {l : List ByteArray} (h : w.ownsRow 0 9 1 v l.length (strCells l)) {j : Nat} {s : ByteArray} (hj : l[j]? = some s) : ∃ g c, v = .slice (some ⟨g, 0, none⟩) l.length c ∧ l.length ≤ c ∧ v.ownBlock = some g ∧ w.cell? ⟨g, j, none⟩ = some (.string s) := by
  rcases h.2 with ⟨-, h0⟩ | ⟨g, cap, cur, rfl, h1, h2, h3, h4⟩
  · have : l = [] := List.eq_nil_of_length_eq_zero h0
    subst this
    simp at hj
  · have hc := h.cells (g := g) rfl j (.string s) (by simp [strCells, hj])
    rw [Lib.addr_add] at hc
    simp only [Nat.zero_add] at hc
    exact ⟨g, cap, rfl, h3, rfl, hc⟩

/-- The sum that is written last. -/
def fpOf (K : Nat → Int) (cs : List (List UInt8)) : List UInt8 := ((dgs K cs).sum K).take 8
theorem fpOf_length (K : Nat → Int) (cs : List (List UInt8)) : (fpOf K cs).length = 8 := by
  have : ((dgs K cs).sum K).length = 32 := sumOf_length _
  rw [fpOf, List.length_take, this]
  rfl

def szIn (l : List ByteArray) (p : Int × List (List UInt8)) (j : Nat) : Int × List (List UInt8) := (l.take j).foldl (fun p s => numStep p s.size) p
theorem szIn_succ {l : List ByteArray} {p : Int × List (List UInt8)} {j : Nat} {s : ByteArray} (h : l[j]? = some s) : szIn l p (j + 1) = numStep (szIn l p j) s.size := by
  obtain ⟨hk, rfl⟩ := List.getElem?_eq_some_iff.1 h
  simp only [szIn]
  rw [List.take_succ_eq_append_getElem hk, List.foldl_append]
  rfl
theorem szIn_ok (l : List ByteArray) (p : Int × List (List UInt8)) (h0 : 0 ≤ p.1) (h1 : p.1 < 4294967296) (j : Nat) (hj : j ≤ l.length) : (szIn l p j).2.flatten.length = p.2.flatten.length + 4 * j := by
  have h := (sizes_fold (l.take j) p h0 h1).2.2
  rw [List.length_take, Nat.min_eq_left hj] at h
  exact h
def dataIn (l : List ByteArray) (p : List (List UInt8)) (j : Nat) : List (List UInt8) := p ++ (l.take j).map (·.data.toList)
theorem dataIn_succ {l : List ByteArray} {p : List (List UInt8)} {j : Nat} {s : ByteArray} (h : l[j]? = some s) : dataIn l p (j + 1) = dataIn l p j ++ [s.data.toList] := by
  obtain ⟨hk, rfl⟩ := List.getElem?_eq_some_iff.1 h
  simp only [dataIn]
  rw [List.take_succ_eq_append_getElem hk, List.map_append, ← List.append_assoc]
  rfl
theorem dataIn_ok (l : List ByteArray) (p : List (List UInt8)) (hs : ∀ s ∈ l, s.size ≤ 20000000) (j : Nat) (hj : j ≤ l.length) : (dataIn l p j).flatten.length ≤ p.flatten.length + 20000000 * j := by
  have h := datas_len (l.take j) fun s hs' => hs s (List.mem_of_mem_take hs')
  rw [List.length_take, Nat.min_eq_left hj] at h
  rw [dataIn, List.flatten_append, List.length_append]
  omega

set_option maxHeartbeats 4000000 in
set_option maxRecDepth 10000 in
theorem dumpTo {w : World} {G : Nat → Prop} {bp : Nat} {ver : Int} {sl : Nat → Value} {secs : Nat → List ByteArray} {ms : Nat} {sf : Int} (hP : PkgS w G bp ver sl secs ms sf) {K : Nat → Int} (hG : Gl w K) (h7G : ∀ g, g ≤ 7 → ¬ G g) {bb : Nat} {R : Nat → Option Value} (hB : Bf w bb 0 61 R (.slice none 0 0) []) (hbG : ¬ G bb) (hb7 : 7 < bb) (hv0 : 0 ≤ ver) (hv5 : ver ≤ 5)
    (hcount : ∀ k, k < 10 → (secs k).length ≤ 100000) (hsize : ∀ k, k < 10 → ∀ s ∈ secs k, s.size ≤ 20000000) :
    Calls Tryd.prog 16 #[.pointer (some ⟨bp, 0, none⟩), .iface 56 (.pointer (some ⟨bb, 0, none⟩))] w fun e w' => e = .returned (.agg (Lib.byteCells (fpOf K (dumpCs ver sf secs))).toArray) ∧ (∃ v', Bf w' bb 0 61 R v' (Lib.byteCells ((dumpCs ver sf secs).flatten ++ fpOf K (dumpCs ver sf secs)))) ∧ Keeps (fun j => j = bb) w w' := by
  obtain ⟨lr, hB3, -, -⟩ := id hB
  have hbl := hB3.lt
  have HH := Lib.hid (And.intro hP (And.intro hG (And.intro h7G hB)))
  have HCT := Lib.hid (And.intro hcount hsize)
  clear hP hG h7G hB hB3 hcount hsize
  go_enter Tryd.func16, Tryd.ntmps16
  go_wp2_with (go_at_call 36; refine (newC _).mono ?_; rintro e w1 ⟨db, rfl, hp⟩; refine Hid.out ?_)
  refine Lib.hid ?_
  obtain ⟨hD1, hdb, hk1⟩ := hp
  rw [show (w.alloc (.cells #[.int .u8 0, .int .u8 0, .int .u8 0, .int .u8 0, .int .u8 0, .int .u8 0, .int .u8 0, .int .u8 0] 32)).heap.size = w.heap.size + 1 by simp] at hdb
  have hF1 := hk1.heap (heap_alloc_new w _) fun h => h
  have hkw1 := ((Keeps.refl (fun _ => False) w).alloc (.cells #[.int .u8 0, .int .u8 0, .int .u8 0, .int .u8 0, .int .u8 0, .int .u8 0, .int .u8 0, .int .u8 0] 32)).same hk1
  clear hk1
  have hkA := (Keeps.refl (fun _ => False) w1).alloc (.cells #[.iface 56 (.pointer (some ⟨bb, 0, none⟩)), .iface 130 (.pointer (some ⟨db, 0, none⟩))] 99)
  have hnA := heap_alloc_new w1 (.cells #[.iface 56 (.pointer (some ⟨bb, 0, none⟩)), .iface 130 (.pointer (some ⟨db, 0, none⟩))] 99)
  have hcA := multiWriterC w1.heap.size 2 bb db (w1.alloc (.cells #[.iface 56 (.pointer (some ⟨bb, 0, none⟩)), .iface 130 (.pointer (some ⟨db, 0, none⟩))] 99)) (by rw [Lib.cell_of_heap hnA]; rfl) (by rw [Lib.cell_of_heap hnA]; rfl) (by omega)
  have hsA : (w1.alloc (.cells #[.iface 56 (.pointer (some ⟨bb, 0, none⟩)), .iface 130 (.pointer (some ⟨db, 0, none⟩))] 99)).heap.size = w1.heap.size + 1 := by simp
  have HC := Lib.hid hcA
  have H1 := Lib.hid (And.intro hD1 (And.intro hF1 (And.intro hkw1 (And.intro hkA hsA))))
  clear hcA hD1 hF1 hkw1 hkA hnA hsA
  go_wp2_with (go_at_call 37; refine HC.out.mono ?_; rintro e w2 ⟨mb, sb, rfl, hp⟩; refine Hid.out ?_)
  refine Lib.hid ?_
  obtain ⟨hmb, hsb, hm0, hs0, hs1, hk2⟩ := hp
  obtain ⟨hD1, hF1, hkw1, hkA, hsA⟩ := H1.out
  have hk12 := hkA.same hk2
  have hD2 := hD1.keeps hk12 fun h => h
  have hF2 := hk12.heap hF1 fun h => h
  have hkw2 := hkw1.same hk12
  have hsz12 := hk12.size
  have hszw1 := hkw1.size
  rw [hsA] at hmb hsb
  have hdl1 := Lib.lt_of_heap hD1.blk
  have hmlt := World.block_lt_of_cell? w2 ⟨mb, 0, none⟩ hm0
  have hslt := World.block_lt_of_cell? w2 ⟨sb, 0, none⟩ hs0
  simp only at hmlt hslt
  have H2 := Lib.hid (And.intro hD2 (And.intro hF2 (And.intro hkw2 (And.intro hm0 (And.intro hs0 hs1)))))
  clear hD2 hF2 hkw2 hD1 hF1 hkw1 hkA hsA hk2 hk12 H1 HC hm0 hs0 hs1
  go_upto_region 4 with fail
  obtain ⟨hD2, hF2, hkw2, hm0, hs0, hs1⟩ := H2.out
  obtain ⟨hP, hG, h7G, hB⟩ := HH.out
  have kW := (Keeps.refl (fun _ => False) w2).alloc (.cells #[.iface 133 (.pointer (some ⟨mb, 0, none⟩))] 99)
  have hkW := hkw2.same kW
  have hcW := heap_alloc_new w2 (.cells #[.iface 133 (.pointer (some ⟨mb, 0, none⟩))] 99)
  have hDW := hD2.keeps kW fun h => h
  have hFW := kW.heap hF2 fun h => h
  have a0 := kW.cell hm0 fun h => h
  have a1 := kW.cell hs0 fun h => h
  have a2 := kW.cell hs1 fun h => h
  have hsW : (w2.alloc (.cells #[.iface 133 (.pointer (some ⟨mb, 0, none⟩))] 99)).heap.size = w2.heap.size + 1 := by simp
  clear kW H2 HH hD2 hF2 hkw2 hm0 hs0 hs1
  generalize w2.alloc (.cells #[.iface 133 (.pointer (some ⟨mb, 0, none⟩))] 99) = W at *
  obtain ⟨cb, hcb⟩ : ∃ cb, cb = w2.heap.size := ⟨_, rfl⟩
  obtain ⟨fb, hfb⟩ : ∃ fb, fb = w.heap.size := ⟨_, rfl⟩
  rw [← hcb] at hcW hsW ⊢
  rw [← hfb] at hFW ⊢
  have hPW := hP.keeps hkW fun _ _ h => h
  have hGW := hG.keeps hkW fun _ _ h => h
  have hBW := hB.keeps hkW fun _ _ h => h
  have hlt := hP.all.lt
  have hEnv : DEnv W cb mb sb 2 bb db K := ⟨by rw [Lib.cell_of_heap hcW]; rfl, a0, a1, a2, by omega, by omega, by omega, by omega, by omega, by omega, by omega, by omega, by omega, by omega, hGW.1, by omega, by omega, by omega⟩
  have hDW0 : DW W W bb db R K [] := ⟨.slice none 0 0, hBW, by simp [Value.ownBlock], hDW, Keeps.refl _ _⟩
  have hbpG := hP.all.Gb
  have hbpl := hlt _ hbpG
  have hbpb : ¬ (bp = bb ∨ bp = db) := by
    rintro (rfl | rfl)
    · exact hbG hbpG
    · omega
  have cver : W.cell? ⟨bp, 0, none⟩ = some (.int .u32 ver) := by rw [Lib.cell_of_heap hPW.all.blk]; rfl
  have HN := Lib.hid (numC hEnv hDW0 ver (by omega) (by omega) (by simp))
  have HE := Lib.hid hEnv
  have HP := Lib.hid (And.intro hPW (And.intro hGW (And.intro hFW (And.intro hlt hkW))))
  have H7 := Lib.hid (And.intro hbpG (And.intro hbpb h7G))
  clear hEnv hPW hGW hFW hlt hkW hDW0 hbpG hP hG hB hBW hDW hcW a0 a1 a2 hbpb h7G
  have HCB := Lib.hid (And.intro hcb hfb)
  clear hcb hfb
  go_wp2_with (go_at_call 38; refine HN.out.mono ?_; rintro e w3 ⟨rfl, hd⟩; refine Hid.out ?_)
  refine Lib.hid ?_
  have HD3 := Lib.hid hd
  have hk3 : Keeps (fun k => k = bb ∨ k = db) W w3 := hd.choose_spec.2.2.2
  have hG3 := HP.out.2.1.keeps hk3 (fun g hg h => by have := hdb; omega)
  obtain ⟨-, g0, g1⟩ := hG3
  have cver3 : w3.cell? ⟨bp, 0, none⟩ = some (.int .u32 ver) := hk3.cell cver H7.out.2.1
  have csf3 : w3.cell? ⟨bp, 12, none⟩ = some (.int .i64 sf) := hk3.cell (show W.cell? ⟨bp, 12, none⟩ = _ by rw [Lib.cell_of_heap HP.out.1.all.blk]; rfl) H7.out.2.1
  have HF := Lib.hid (hasFlags ver w3 g0 g1)
  have HS := Lib.hid (syncMarkers bp sf w3 csf3)
  clear hd hk3 g0 g1 csf3 cver HN
  go_upto_if 40 with (go_at_call 41; refine HF.out.mono ?_; rintro e w4 ⟨rfl, hw⟩; have hw := hw.symm; subst hw)
  clear hw HF
  go_cut [] from 40 to 47 (fun wx => DW W wx bb db R K (flagCs ver sf))
  case first =>
    by_cases h1 : 1 ≤ ver
    · have hd1 : decide (1 ≤ ver) = true := decide_eq_true h1
      by_cases h2 : 0 ≤ sf
      · have hd2 : decide (0 ≤ sf) = true := decide_eq_true h2
        have hor : bits .or .u32 0 1 = 1 := by decide
        have HN := Lib.hid (numC HE.out HD3.out 1 (by omega) (by omega) (by simp [le4]))
        go_wp2_with (first
          | (go_at_call 42; refine HS.out.mono ?_; rintro e w4 ⟨rfl, hw⟩; subst hw)
          | (go_at_call 38; refine HN.out.mono ?_; rintro e w5 ⟨rfl, hd⟩; refine Hid.out ?_))
        refine Lib.hid ?_
        have HD5 : Hid (DW W w5 bb db R K (flagCs ver sf)) := Lib.hid (by rw [flagCs, if_pos h1, if_pos h2]; exact hd)
        clear hd
        go_wp2_with fail
        go_meet
        exact HD5.out
      · have hd2 : decide (0 ≤ sf) = false := decide_eq_false h2
        have HN := Lib.hid (numC HE.out HD3.out 0 (by omega) (by omega) (by simp [le4]))
        go_wp2_with (first
          | (go_at_call 42; refine HS.out.mono ?_; rintro e w4 ⟨rfl, hw⟩; subst hw)
          | (go_at_call 38; refine HN.out.mono ?_; rintro e w5 ⟨rfl, hd⟩; refine Hid.out ?_))
        refine Lib.hid ?_
        have HD5 : Hid (DW W w5 bb db R K (flagCs ver sf)) := Lib.hid (by rw [flagCs, if_pos h1, if_neg (by omega)]; exact hd)
        clear hd
        go_wp2_with fail
        go_meet
        exact HD5.out
    · have hd1 : decide (1 ≤ ver) = false := decide_eq_false h1
      have HD5 : Hid (DW W w3 bb db R K (flagCs ver sf)) := Lib.hid (by rw [flagCs, if_neg h1]; exact HD3.out)
      go_wp2_with fail
      go_meet
      exact HD5.out
  case rest =>
    have HDc := Lib.hid hcut
    clear cver3 HS HD3 hcut
    go_wp2
    go_loopw [9, 52] (fun u9 u52 wr => ∃ i : Nat, i ≤ 10 ∧ u52 = .int .i64 i ∧ u9 = .int .u32 (endsTo secs (0, flagCs ver sf) i).1 ∧ DW W wr bb db R K (endsTo secs (0, flagCs ver sf) i).2) (fun _ u52 _ => 10 - (intOf u52).toNat)
    case atStart => exact ⟨0, by omega, rfl, rfl, HDc.out⟩
    case round =>
      generalize hwo : wr = wo at *
      clear hwo
      obtain ⟨i, hi, rfl, rfl, hd⟩ := hrel
      by_cases hi10 : i < 10
      ·
        have hi' : (i : Int) < 10 := by omega
        obtain ⟨a0, a1, al⟩ := endsTo_ok secs (0, flagCs ver sf) (by simp) (by simp) i
        have hfl := flagCs_len ver sf
        have hk : Keeps (fun k => k = bb ∨ k = db) W wo := hd.choose_spec.2.2.2
        obtain ⟨ao, cap, hsl⟩ := slice_form (HP.out.1.all.row i hi10)
        have csl : wo.cell? ⟨bp, 1 + i, none⟩ = some (.slice ao (secs i).length cap) := by
          rw [← hsl]
          exact hk.cell (by rw [Lib.cell_of_heap HP.out.1.all.blk]; exact pkgCells_sec ver sl ms sf i hi10) H7.out.2.1
        have hct := HCT.out.1 i hi10
        have HN := Lib.hid (numC HE.out hd (numStep (endsTo secs (0, flagCs ver sf) i) (secs i).length).1 (numStep_rng _ _).1 (numStep_rng _ _).2 (by rw [al]; simp only; omega))
        have hst : (numStep (endsTo secs (0, flagCs ver sf) i) (secs i).length).1 = ((endsTo secs (0, flagCs ver sf) i).1 + (secs i).length) % 4294967296 := rfl
        rw [hst] at HN
        have hes : endsTo secs (0, flagCs ver sf) (i + 1) = (((endsTo secs (0, flagCs ver sf) i).1 + (secs i).length) % 4294967296, (endsTo secs (0, flagCs ver sf) i).2 ++ [le4 (((endsTo secs (0, flagCs ver sf) i).1 + (secs i).length) % 4294967296)]) := rfl
        generalize (endsTo secs (0, flagCs ver sf) i).1 = x at *
        generalize (secs i).length = n at *
        have HES := Lib.hid hes
        clear hes hst hd hk hsl al hfl
        go_wp2_with (go_at_call 38; refine HN.out.mono ?_; rintro e w4 ⟨rfl, hd⟩; refine Hid.out ?_)
        refine Lib.hid ?_
        have HD4 := Lib.hid hd
        clear hd
        go_wp2_with fail
        refine ⟨⟨i + 1, by omega, rfl, by rw [HES.out], by rw [HES.out]; exact HD4.out⟩, ?_⟩
        simp only [intOf]
        omega
      · have hi10' : i = 10 := by omega
        have hic : (i : Int) = 10 := by omega
        rw [hic]
        clear hic
        subst hi10'
        have HD1 := Lib.hid hd
        clear hd
        go_wp2
        have hE0 := endsTo_ok secs (0, flagCs ver sf) (by simp) (by simp) 10
        have hfl := flagCs_len ver sf
        obtain ⟨E, hE⟩ : ∃ E, E = (endsTo secs (0, flagCs ver sf) 10).2 := ⟨_, rfl⟩
        rw [← hE] at hE0 HD1
        have hEl : E.flatten.length ≤ 48 := by rw [hE0.2.2]; simp only; omega
        have HEQ := Lib.hid hE
        clear hE hE0 hfl
        go_loopw [9, 70] (fun u9 u70 wr => ∃ i : Nat, i ≤ 10 ∧ u70 = .int .i64 i ∧ u9 = .int .u32 (sizesTo secs (0, E) i).1 ∧ DW W wr bb db R K (sizesTo secs (0, E) i).2) (fun _ u70 _ => 10 - (intOf u70).toNat)
        case atStart => exact ⟨0, by omega, rfl, rfl, HD1.out⟩
        case round =>
          generalize hwo : wr = wp at *
          clear hwo
          obtain ⟨i, hi, rfl, rfl, hd⟩ := hrel
          obtain ⟨a0, a1, al⟩ := sizesTo_ok secs (0, E) (by simp) (by simp) HCT.out.1 i hi
          simp only at al
          by_cases hi10 : i < 10
          ·
            have hi' : (i : Int) < 10 := by omega
            have hk : Keeps (fun k => k = bb ∨ k = db) W wp := hd.choose_spec.2.2.2
            obtain ⟨ao, cap, hsl⟩ := slice_form (HP.out.1.all.row i hi10)
            have csl : wp.cell? ⟨bp, 1 + i, none⟩ = some (.slice ao (secs i).length cap) := by
              rw [← hsl]
              exact hk.cell (by rw [Lib.cell_of_heap HP.out.1.all.blk]; exact pkgCells_sec ver sl ms sf i hi10) H7.out.2.1
            have hct := HCT.out.1 i hi10
            have hrow := Lib.hid (HP.out.1.all.row i hi10)
            have hGr := Lib.hid (HP.out.1.all.Gr i hi10)
            have hsx : sizesTo secs (0, E) (i + 1) = szIn (secs i) (sizesTo secs (0, E) i) (secs i).length := by rw [szIn, List.take_length]; rfl
            have HSX := Lib.hid hsx
            have HD2 := Lib.hid hd
            clear hsx hd hk
            obtain ⟨p, hp⟩ : ∃ p, p = sizesTo secs (0, E) i := ⟨_, rfl⟩
            rw [← hp] at HSX HD2 a0 a1 al ⊢
            clear hp
            obtain ⟨n, hn⟩ : ∃ n, n = (secs i).length := ⟨_, rfl⟩
            rw [← hn] at csl hct HSX hsl
            have HNN := Lib.hid hn
            have HSL := Lib.hid hsl
            clear hn hsl
            go_wp2
            go_loopw [9, 77] (fun u9 u77 wr => ∃ j : Nat, j ≤ n ∧ u77 = .int .i64 j ∧ u9 = .int .u32 (szIn (secs i) p j).1 ∧ DW W wr bb db R K (szIn (secs i) p j).2) (fun _ u77 _ => n - (intOf u77).toNat)
            case atStart => exact ⟨0, Nat.zero_le _, rfl, rfl, HD2.out⟩
            case round =>
              generalize hwo : wr = wq at *
              clear hwo
              obtain ⟨j, hj, rfl, rfl, hd⟩ := hrel
              by_cases hjn : j < n
              · have hjn' : (j : Int) < (n : Int) := by omega
                have hge := List.getElem?_eq_getElem (show j < (secs i).length by rw [← HNN.out]; exact hjn)
                have hsuc := szIn_succ (p := p) hge
                have hszl := szIn_ok (secs i) p a0 a1 j (by rw [← HNN.out]; exact hj)
                generalize (secs i)[j]'(by rw [← HNN.out]; exact hjn) = s at *
                have hk : Keeps (fun k => k = bb ∨ k = db) W wq := hd.choose_spec.2.2.2
                obtain ⟨g, c, hv, hc, hown, hcell⟩ := rowStr hrow.out hge
                have hgG := hGr.out g hown
                rw [HSL.out] at hv
                injection hv with hv1 hv2 hv3
                subst hv1
                have hcs : wq.cell? ⟨g, j, none⟩ = some (.string s) := hk.cell hcell (by
                  intro e
                  have e : g = bb ∨ g = db := e
                  rcases e with e | e
                  · exact hbG (e ▸ hgG)
                  · have := HP.out.2.2.2.1 _ hgG; omega)
                have hst : (numStep (szIn (secs i) p j) s.size).1 = ((szIn (secs i) p j).1 + s.size) % 4294967296 := rfl
                have HN := Lib.hid (numC HE.out hd (numStep (szIn (secs i) p j) s.size).1 (numStep_rng _ _).1 (numStep_rng _ _).2 (by rw [hszl]; omega))
                have hes : szIn (secs i) p (j + 1) = (((szIn (secs i) p j).1 + s.size) % 4294967296, (szIn (secs i) p j).2 ++ [le4 (((szIn (secs i) p j).1 + s.size) % 4294967296)]) := hsuc
                rw [hst] at HN
                have HES := Lib.hid hes
                generalize (szIn (secs i) p j).1 = x at *
                clear hes hst hd hk hv2 hv3 hge hsuc hszl hcell hown hgG hc
                go_wp2_with (go_at_call 38; refine HN.out.mono ?_; rintro e w4 ⟨rfl, hd⟩; refine Hid.out ?_)
                refine Lib.hid ?_
                have HD4 := Lib.hid hd
                clear hd
                go_wp2_with fail
                go_roundw
                case rel => exact ⟨j + 1, by omega, rfl, by rw [HES.out], by rw [HES.out]; exact HD4.out⟩
                case measure => simp [intOf]; omega
              · have hjn' : j = n := by omega
                subst hjn'
                have HD3 := Lib.hid hd
                clear hd
                go_wp2_with fail
                refine ⟨⟨i + 1, by omega, rfl, by rw [HSX.out], by rw [HSX.out]; exact HD3.out⟩, ?_⟩
                simp only [intOf]
                omega
          · have hi10' : i = 10 := by omega
            have hic : (i : Int) = 10 := by omega
            rw [hic]
            clear hic
            subst hi10'
            have HD2 := Lib.hid hd
            obtain ⟨P, hP⟩ : ∃ P, P = (sizesTo secs (0, E) 10).2 := ⟨_, rfl⟩
            rw [← hP] at al HD2
            have HPQ := Lib.hid hP
            clear hd hP a0 a1
            go_wp2
            go_loopw [95] (fun u95 wr => ∃ i : Nat, i ≤ 10 ∧ u95 = .int .i64 i ∧ DW W wr bb db R K (datasTo secs P i)) (fun u95 _ => 10 - (intOf u95).toNat)
            case atStart => exact ⟨0, by omega, rfl, HD2.out⟩
            case round =>
              generalize hwo : wr = wt at *
              clear hwo
              obtain ⟨i, hi, rfl, hd⟩ := hrel
              have hdl := datasTo_len secs P HCT.out.1 HCT.out.2 i hi
              by_cases hi10 : i < 10
              ·
                have hi' : (i : Int) < 10 := by omega
                have hk : Keeps (fun k => k = bb ∨ k = db) W wt := hd.choose_spec.2.2.2
                obtain ⟨ao, cap, hsl⟩ := slice_form (HP.out.1.all.row i hi10)
                have csl : wt.cell? ⟨bp, 1 + i, none⟩ = some (.slice ao (secs i).length cap) := by
                  rw [← hsl]
                  exact hk.cell (by rw [Lib.cell_of_heap HP.out.1.all.blk]; exact pkgCells_sec ver sl ms sf i hi10) H7.out.2.1
                have hct := HCT.out.1 i hi10
                have hsx : datasTo secs P (i + 1) = dataIn (secs i) (datasTo secs P i) (secs i).length := by rw [dataIn, List.take_length]; rfl
                have HSX := Lib.hid hsx
                have HD2 := Lib.hid hd
                clear hsx hd hk
                obtain ⟨n, hn⟩ : ∃ n, n = (secs i).length := ⟨_, rfl⟩
                rw [← hn] at csl hct HSX hsl
                have HNN := Lib.hid hn
                have HSL := Lib.hid hsl
                clear hn hsl
                go_wp2
                go_loopw [102] (fun u102 wr => ∃ j : Nat, j ≤ n ∧ u102 = .int .i64 j ∧ DW W wr bb db R K (dataIn (secs i) (datasTo secs P i) j)) (fun u102 _ => n - (intOf u102).toNat)
                case atStart => exact ⟨0, Nat.zero_le _, rfl, by simpa [dataIn] using HD2.out⟩
                case round =>
                  generalize hwo : wr = wu at *
                  clear hwo
                  obtain ⟨j, hj, rfl, hd⟩ := hrel
                  by_cases hjn : j < n
                  · have hjn' : (j : Int) < (n : Int) := by omega
                    have hge := List.getElem?_eq_getElem (show j < (secs i).length by rw [← HNN.out]; exact hjn)
                    have hmem := List.getElem_mem (show j < (secs i).length by rw [← HNN.out]; exact hjn)
                    have hsuc := dataIn_succ (p := datasTo secs P i) hge
                    have hdil := dataIn_ok (secs i) (datasTo secs P i) (HCT.out.2 i hi10) j (by rw [← HNN.out]; exact hj)
                    generalize (secs i)[j]'(by rw [← HNN.out]; exact hjn) = s at *
                    have hs20 := HCT.out.2 i hi10 s hmem
                    have hk : Keeps (fun k => k = bb ∨ k = db) W wu := hd.choose_spec.2.2.2
                    obtain ⟨g, c, hv, hc, hown, hcell⟩ := rowStr (HP.out.1.all.row i hi10) hge
                    have hgG := HP.out.1.all.Gr i hi10 g hown
                    rw [HSL.out] at hv
                    injection hv with hv1 hv2 hv3
                    subst hv1
                    have hcs : wu.cell? ⟨g, j, none⟩ = some (.string s) := hk.cell hcell (by
                      intro e
                      have e : g = bb ∨ g = db := e
                      rcases e with e | e
                      · exact hbG (e ▸ hgG)
                      · have := HP.out.2.2.2.1 _ hgG; omega)
                    have hcc : wu.cell? ⟨cb, 0, none⟩ = some (.iface 133 (.pointer (some ⟨mb, 0, none⟩))) := hk.cell HE.out.cc (by simp [HE.out.cbb, HE.out.cbd])
                    have HN := Lib.hid (strC HE.out hd s (by omega))
                    have HES := Lib.hid hsuc
                    clear hsuc hd hk hv2 hv3 hge hdil hcell hown hgG hc hmem hs20 hdl
                    go_wp2_with (first
                      | (go_at_call 43; refine HN.out.mono ?_; rintro e w4 ⟨rfl, hd⟩)
                      | (go_at_call 39; refine (assert_true _).mono ?_; rintro e w5 ⟨rfl, rfl⟩; refine Hid.out ?_))
                    refine Lib.hid ?_
                    have HD4 := Lib.hid hd
                    clear hd
                    go_wp2_with fail
                    go_roundw
                    case rel => exact ⟨j + 1, by omega, rfl, by rw [HES.out]; exact HD4.out⟩
                    case measure => simp [intOf]; omega
                  · have hjn' : j = n := by omega
                    subst hjn'
                    have HD3 := Lib.hid hd
                    clear hd
                    go_wp2_with fail
                    refine ⟨⟨i + 1, by omega, rfl, by rw [HSX.out]; exact HD3.out⟩, ?_⟩
                    simp only [intOf]
                    omega
              · have hi10' : i = 10 := by omega
                have hic : (i : Int) = 10 := by omega
                rw [hic]
                clear hic
                subst hi10'
                have HD3 := Lib.hid hd
                clear hd
                go_upto_region 38 with fail
                obtain ⟨v, hB, hv, hD, hk⟩ := HD3.out
                have hfb := HCB.out.2
                obtain ⟨hPW, hGW, hFW, hlt, hkW⟩ := HP.out
                have hfbl := Lib.lt_of_heap hFW
                have hF0 := hk.heap hFW (by omega)
                have hcsl := datasTo_len secs P HCT.out.1 HCT.out.2 10 (by omega)
                have hKt : Kat wt K := hGW.1.keeps hk (by omega)
                have h7t : 7 < wt.heap.size := by have := hk.size; omega
                have hS := sumC db (dgs K (datasTo secs P 10)) K wt.drew (DgAt.mk' hD.ok hD.blk) (dgs_ok _ _) hKt h7t
                have HSU := Lib.hid hS
                have hdump : datasTo secs P 10 = dumpCs ver sf secs := by rw [HPQ.out, HEQ.out]; rfl
                rw [hdump] at HSU hB hD hcsl
                have hql := fpOf_length K (dumpCs ver sf secs)
                have hqd : ∀ k, k < 8 → byteAt (fpOf K (dumpCs ver sf secs)) k = byteAt ((dgs K (dumpCs ver sf secs)).sum K) k := fun k hk => byteAt_take _ _ _ hk
                have H5 := Lib.hid (And.intro hB (And.intro hv (And.intro hD (And.intro hk (And.intro hF0 (And.intro hkW hqd))))))
                have HLEN : Hid ((dumpCs ver sf secs).flatten.length + 8 ≤ 140737488355328) := Lib.hid (by omega)
                clear hB hv hD hk hPW hGW hFW hlt hkW hF0 hcsl hKt h7t hS hdump hqd hfb HD3
                generalize (dgs K (dumpCs ver sf secs)).sum K = z at *
                generalize hyq : fpOf K (dumpCs ver sf secs) = y at *
                have HYQ := Lib.hid hyq
                clear hyq
                have hm0 : ∀ W : World, (method 291 130 (.pointer (some ⟨db, 0, none⟩)) "Sum").run Tryd.prog W = .ok (101, .pointer (some ⟨db, 0, none⟩)) W := fun _ => by kernel_rfl
                have hu32 := Tryd.underlying57
                go_region_with (
                  go_at_call 101
                  refine HSU.out.mono ?_
                  rintro e w5 ⟨g, c, rfl, hc, hcell, hg, hk5⟩
                  have hF5 := hk5.heap (w := wt.drew) H5.out.2.2.2.2.1 (fun h => h)
                  have hcp := run_copy_row (P := Tryd.prog) w5 57 57 3 5 fb 0 8 8 ⟨g, 0, none⟩ 32 c #[.int .u8 0, .int .u8 0, .int .u8 0, .int .u8 0, .int .u8 0, .int .u8 0, .int .u8 0, .int .u8 0] 32 (Lib.byteCells y) Tryd.underlying57 byteSize hF5 (by rw [Lib.byteCells_length, hql]; rfl) (fun k u hk => by
                    have hlt : k < y.length := by
                      have := (List.getElem?_eq_some_iff.1 hk).1
                      rwa [Lib.byteCells_length] at this
                    rw [Lib.addr_add]
                    simp only [Nat.zero_add]
                    rw [hcell k (by omega), ← H5.out.2.2.2.2.2.2 k (by omega)]
                    simp only [Lib.byteCells, List.getElem?_map, List.getElem?_eq_getElem hlt, Option.map_some] at hk
                    rw [← hk]
                    simp [byteAt, List.getD_eq_getElem?_getD, List.getElem?_eq_getElem hlt]) (by rw [Lib.byteCells_length, hql]; decide) (Lib.byteCells_one y)
                  rw [Lib.byteCells_length, hql] at hcp
                  simp only [List.take_zero, List.nil_append, Nat.zero_add, List.drop_eq_nil_of_le (show (#[.int .u8 0, .int .u8 0, .int .u8 0, .int .u8 0, .int .u8 0, .int .u8 0, .int .u8 0, .int .u8 0] : Array Value).toList.length ≤ 8 by decide), List.append_nil] at hcp
                  have H6 := Lib.hid (And.intro hF5 hk5)
                  clear hF5 hk5 hcell hg)
                obtain ⟨hB, hv, hD, hk, hF0, hkW, -⟩ := H5.out
                obtain ⟨hF5, hk5⟩ := H6.out
                have hF6 := setRow_heap w5 fb _ (Lib.byteCells y).toArray 32 _ hF5
                have k6 : Keeps (fun k => k = fb) wt (w5.setRow fb (Lib.byteCells y).toArray) := (((Keeps.refl (fun k => k = fb) wt).drew).trans hk5 fun _ h => h.elim).setRow (by exact Or.inl rfl) _
                have hfv : ∀ k, BfS bb v k → ¬ k = fb := by
                  have hfb := HCB.out.2
                  rintro k (e | e) rfl
                  · omega
                  · have := (hv _ e).1; omega
                have hB6 := hB.keeps k6 hfv
                have hkw6 : Keeps (fun j => j = bb) w (w5.setRow fb (Lib.byteCells y).toArray) := by
                  have hfb := HCB.out.2
                  refine ((hkW.mono fun _ _ h => h.elim).trans hk fun j hj => ?_).trans k6 fun j hj => ?_
                  · rcases hj with hj | hj
                    · exact Or.inl hj
                    · exact Or.inr (by omega)
                  · exact Or.inr (by omega)
                have hWw := hkW.size
                clear hB hD hk hF0 hkW hF5 hk5 k6 hcp hu32
                generalize w5.setRow fb (Lib.byteCells y).toArray = w6 at *
                have h1y := Lib.byteCells_one y
                have h1d := Lib.byteCells_one (dumpCs ver sf secs).flatten
                have hyl := Lib.byteCells_length y
                have hsrc : ∀ j u, (Lib.byteCells y)[j]? = some u → w6.cell? ((⟨fb, 0, none⟩ : Addr).add j) = some u := fun j u hj => by
                  rw [Lib.addr_add]
                  simp only [Nat.zero_add]
                  rw [Lib.cell_of_heap hF6]
                  simpa using hj
                have hfbb : fb ≠ bb := fun e => hfv bb (Or.inl rfl) e.symm
                have hc := bufWrite bb 0 61 R v (Lib.byteCells (dumpCs ver sf secs).flatten) (Lib.byteCells y) ⟨fb, 0, none⟩ 8 8 w6.drew hB6 h1d (by rw [hyl, hql]) (by omega) hfbb hsrc h1y (by rw [Lib.byteCells_length]; exact HLEN.out)
                have hm1 : ∀ W : World, (method 291 56 (.pointer (some ⟨bb, 0, none⟩)) "Write").run Tryd.prog W = .ok (59, .pointer (some ⟨bb, 0, none⟩)) W := fun _ => by kernel_rfl
                have hna : ∀ W : World, (nilAhead 291 56 (.pointer (some ⟨bb, 0, none⟩)) "Write").run Tryd.prog W = .ok (some false) W := fun _ => by kernel_rfl
                have hmf : ∀ (fn : Fn) (first cap : Array Value) (w : World), (Instr.makeFunc fn first cap).run Tryd.prog w = .ok (.func fn first cap) w := fun _ _ _ _ => rfl
                have HC := Lib.hid hc
                have H7 := Lib.hid (And.intro hF6 (And.intro hkw6 (And.intro hfv (And.intro hv hWw))))
                clear hc hF6 hkw6 hB6 hsrc h1y h1d hyl hv hfv H5 H6 HSU hm0
                go_wp2
                go_region_with (
                  go_at_call 59
                  refine HC.out.mono ?_
                  rintro e w7 ⟨rfl, v7, hp1, hp2, hp3⟩
                  have HQ := Lib.hid (And.intro hp1 hp3)
                  clear hp1 hp2 hp3)
                obtain ⟨hF6, hkw6, hfv, hv, hWw⟩ := H7.out
                obtain ⟨hB7, hk7⟩ := HQ.out
                have hF7 := hk7.heap (w := w6.drew) hF6 (fun e => hfv fb e rfl)
                have hkf : Keeps (fun j => j = bb) w w7 := hkw6.drew.trans hk7 fun j hj => by
                  rcases hj with hj | hj
                  · exact Or.inl hj
                  · exact Or.inr (by have := (hv j hj).1; omega)
                have FIN := Lib.hid (And.intro hF7 (And.intro hB7 hkf))
                have hi32 : (Tryd.prog.info? 32).map (·.size) = some (Lib.byteCells y).toArray.size := by
                  have h : (Tryd.prog.info? 32).map (·.size) = some 8 := by kernel_rfl
                  rw [h, List.size_toArray, Lib.byteCells_length, hql]
                have HI := Lib.hid hi32
                clear hF6 hkw6 hfv hv hWw hB7 hk7 hF7 hkf H7 HQ HC hmf hna hm1 hi32
                go_wp2_with (go_at_call 39; refine (assert_true _).mono ?_; rintro e w8 ⟨rfl, rfl⟩)
                obtain ⟨hF7, hB7, hkf⟩ := FIN.out
                refine bodyPost_ret (results_cell_row rfl _ _ fb 32 _ (0, 0) _ rfl hF7 Tryd.underlying32 rfl HI.out) rfl ⟨?_, ⟨v7, ?_⟩, hkf⟩
                · rw [HYQ.out]
                · rw [HYQ.out, Lib.byteCells_append]
                  exact hB7

end Go.Proofs.YthhpmeaajgjdeaaDoor
