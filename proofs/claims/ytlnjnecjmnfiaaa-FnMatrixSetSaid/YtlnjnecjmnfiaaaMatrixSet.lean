/-
  Proved: the law FnMatrixSet: for every two slices of ints, string and bool that can be read the call returns true, and the arguments read as they did. No condition.
-/
import Derived.Test.YtlnjnecjmnfiaaaMatD
namespace Go.Proofs.Ytlnjnecjmnfiaaa.mat
open Go.ChangeShapes Go.WideShapes Go.ChangeAt Go.RowKit
open Go.Proofs.Ytlnjnecjmnfiaaa.mem
set_option linter.unusedVariables false
set_option linter.unusedSimpArgs false

theorem ix_set (l : List Int) (i j : Nat) (v : Int) (hi : i < l.length) : ix (l.set i v) j = if i = j then v else ix l j := by
  unfold ix
  rw [List.getD_eq_getElem?_getD, List.getD_eq_getElem?_getD, List.getElem?_set]
  by_cases h : i = j
  · subst h; simp [hi]
  · simp [h]

theorem tr_set (l : List Int) (hl : l.length = 9) (r c : Nat) (hr : r ≤ 2) (hc : c ≤ 2) (v : Int) : tr (l.set (3 * r + c) v) = (tr l).set (3 * c + r) v := by
  match l, hl with
  | [a0, a1, a2, a3, a4, a5, a6, a7, a8], _ =>
    rcases (by omega : r = 0 ∨ r = 1 ∨ r = 2) with rfl | rfl | rfl <;> rcases (by omega : c = 0 ∨ c = 1 ∨ c = 2) with rfl | rfl | rfl <;> rfl

theorem tr_mats (rs cs ss : List Int) (n : Nat) (hin : ∀ k, k < n → 0 ≤ ix rs k ∧ ix rs k ≤ 2 ∧ 0 ≤ ix cs k ∧ ix cs k ≤ 2) : tr (mats rs cs ss n) = mats cs rs ss n := by
  induction n with
  | zero => rfl
  | succ n ih =>
    obtain ⟨h1, h2, h3, h4⟩ := hin n (by omega)
    show tr ((mats rs cs ss n).set (3 * (ix rs n).toNat + (ix cs n).toNat) (ix ss n)) = (mats cs rs ss n).set (3 * (ix cs n).toNat + (ix rs n).toNat) (ix ss n)
    rw [tr_set _ (mats_len ..) _ _ (by omega) (by omega), ih (fun k hk => hin k (by omega))]

theorem res_eq (rs cs ss : List Int) (n : Nat) (turned : Bool) (hin : ∀ k, k < n → 0 ≤ ix rs k ∧ ix rs k ≤ 2 ∧ 0 ≤ ix cs k ∧ ix cs k ≤ 2) :
    res rs cs ss n turned = if turned then mats cs rs ss n else mats rs cs ss n := by
  unfold res
  cases turned
  · rfl
  · exact tr_mats rs cs ss n hin

/-- The law's own matrix. -/
def want (rs cs ss : List Int) (turned : Bool) (k : Nat) : List Int := if turned then mats cs rs ss k else mats rs cs ss k
theorem want_len (rs cs ss : List Int) (turned : Bool) (k : Nat) : (want rs cs ss turned k).length = 9 := by unfold want; split <;> exact mats_len ..

set_option maxHeartbeats 8000000 in
theorem walk_good (A C : Option Addr) (n cn cm : Nat) (rs cs : List Int) (s : ByteArray) (turned : Bool) (w : World) (hA : Ints .i64 w w.heap.size A n rs) (hC : Ints .i64 w w.heap.size C n cs) (hs : s.size ≤ maxLen)
    (hz : (n : Int) ≤ 2147483647) (hz3 : (s.size : Int) ≤ 2147483647) :
    Calls Try.prog 7 #[.slice A n cn, .slice C n cm, .string s, .bool turned] w fun e w' => e = .returned (.bool true) ∧ Below w.heap.size w w' := by
  have kc := fun (w : World) (C : Array Value) (n c : Nat) => Lib.run_convert_bytes_const (P := Try.prog) w 39 5 C n c Try.underlying39 Try.underlying5
  have HA := Lib.hid hA
  have HC := Lib.hid hC
  have HS := Lib.hid hs
  clear hA hC hs
  go_enter Try.func7, Try.ntmps7
  go_wp2_with fail
  refine (iSets_any A C n n cn cm rs cs s _ HA.out HC.out HS.out).mono ?_; rintro e w1 ⟨b, rfl, hset, rfl⟩
  cases b
  · clear kc
    go_wp2_with fail
    go_ret
    exact ⟨rfl, Below.refl _ _⟩
  · obtain ⟨_, hns, h50, hgood⟩ := hset rfl
    have HN := Lib.hid hns
    have HG := Lib.hid hgood
    clear hset hns hgood
    go_wp2_with fail
    clear kc
    obtain ⟨W, hW⟩ : ∃ W : World, W = w.alloc (Obj.cells #[Value.int IntKind.u8 70, Value.int IntKind.u8 70, Value.int IntKind.u8 70, Value.int IntKind.u8 70, Value.int IntKind.u8 70, Value.int IntKind.u8 70, Value.int IntKind.u8 70, Value.int IntKind.u8 70, Value.int IntKind.u8 70] 5 (9, 10)) := ⟨_, rfl⟩
    rw [← hW]
    have hB0 : Below w.heap.size w W := by rw [hW]; exact (Below.refl _ _).alloc (Nat.le_refl _) _
    have hN0 : Blk W w.heap.size 5 (bytesOf (want rs cs (nums s) turned 0)) := by
      have e1 : bytesOf (want rs cs (nums s) turned 0) = #[Value.int IntKind.u8 70, Value.int IntKind.u8 70, Value.int IntKind.u8 70, Value.int IntKind.u8 70, Value.int IntKind.u8 70, Value.int IntKind.u8 70, Value.int IntKind.u8 70, Value.int IntKind.u8 70, Value.int IntKind.u8 70] := by unfold want; cases turned <;> rfl
      rw [e1, hW]
      exact Blk.newMark _ _ _ _ _ (by simp)
    clear hW
    go_loopg [36] n (fun q c wr => ∃ k, k + q = n ∧ c = .int .i64 k ∧ Blk wr w.heap.size 5 (bytesOf (want rs cs (nums s) turned k)) ∧ Below w.heap.size w wr)
    case atStart => exact ⟨0, by omega, by go_num, hN0, hB0⟩
    case round =>
      obtain ⟨k, hk, rfl, hn, hb⟩ := hrel
      have HM := Lib.hid hn
      have HB := Lib.hid hb
      have HK := Lib.hid hk
      have hkn : k ≤ n := by omega
      clear hn hb hk hB0 hN0
      by_cases hlt : k < n
      · obtain ⟨b, off, rfl, hb, hc⟩ := HA.out.2.2.2 (by omega)
        obtain ⟨b', off', rfl, hb', hc'⟩ := HC.out.2.2.2 (by omega)
        have c1 := (HB.out.cell (p := ⟨b, off + k, none⟩) hb).trans (hc k hlt)
        have c2 := (HB.out.cell (p := ⟨b', off' + k, none⟩) hb').trans (hc' k (by omega))
        obtain ⟨i1, i2, i3, i4, _⟩ := HG.out k hlt
        obtain ⟨r, hr⟩ := Int.eq_ofNat_of_zero_le i1
        obtain ⟨t, ht⟩ := Int.eq_ofNat_of_zero_le i3
        rw [hr] at c1 i2
        rw [ht] at c2 i4
        have hks : k < s.size := by have := HN.out; omega
        have hbx : bx s k = ((s[k]'hks).toNat : Int) := bx_get s k hks
        have hbn : ix (nums s) k = bx s k := nums_ix s k hks
        have HR := Lib.hid hr
        have HT := Lib.hid ht
        have HX := Lib.hid hbx
        have HX2 := Lib.hid hbn
        clear hc hc' i1 i3 hr ht hbx hbn
        cases turned
        · have w1 : IntKind.i64.wrap (3 * (r : Int)) = 3 * (r : Int) := IntWalk.i64_in _ (by omega)
          have w2 : IntKind.i64.wrap (3 * (r : Int) + (t : Int)) = 3 * (r : Int) + (t : Int) := IntWalk.i64_in _ (by omega)
          have w3 : (3 * (r : Int) + (t : Int)).toNat = 3 * r + t := by omega
          have w4 : 0 ≤ 3 * (r : Int) + (t : Int) := by omega
          have w5 : 3 * (r : Int) + (t : Int) < 9 := by omega
          go_wp2_with fail
          go_still_tail 12, (by kernel_rfl)
          change wpList _ _ _ _ _ wr.drew
          clear w1 w2 w3 w4 w5 c1 c2
          have hcell : wr.drew.cell? ⟨w.heap.size, 3 * r + t, none⟩ = some (.int .u8 (ix (want rs cs (nums s) false k) (3 * r + t))) :=
            (HM.out.cell _).trans (bytesOf_get _ _ (by rw [want_len]; omega))
          have hfr : wr.drew.frozen? ⟨w.heap.size, 3 * r + t, none⟩ = false := HM.out.frozen _ (by rw [bytesOf_size, want_len]; omega)
          go_wp2_with fail
          go_roundg (n - (k + 1))
          case measure => have := HK.out; omega
          case rel =>
            refine ⟨k + 1, by omega, by go_num, ?_, HB.out.drew.setCell (p := ⟨w.heap.size, 3 * r + t, none⟩) (Nat.le_refl _) _⟩
            have e1 : want rs cs (nums s) false (k + 1) = (want rs cs (nums s) false k).set (3 * r + t) ((s[k]'hks).toNat : Int) := by
              show (mats rs cs (nums s) k).set (3 * (ix rs k).toNat + (ix cs k).toNat) (ix (nums s) k) = _
              rw [HR.out, HT.out, HX2.out, HX.out]; rfl
            rw [e1, ← bytesOf_set]
            exact Blk.set_ (w := wr.drew) HM.out _ _
        · have w1 : IntKind.i64.wrap (3 * (t : Int)) = 3 * (t : Int) := IntWalk.i64_in _ (by omega)
          have w2 : IntKind.i64.wrap (3 * (t : Int) + (r : Int)) = 3 * (t : Int) + (r : Int) := IntWalk.i64_in _ (by omega)
          have w3 : (3 * (t : Int) + (r : Int)).toNat = 3 * t + r := by omega
          have w4 : 0 ≤ 3 * (t : Int) + (r : Int) := by omega
          have w5 : 3 * (t : Int) + (r : Int) < 9 := by omega
          go_wp2_with fail
          go_still_tail 12, (by kernel_rfl)
          change wpList _ _ _ _ _ wr.drew
          clear w1 w2 w3 w4 w5 c1 c2
          have hcell : wr.drew.cell? ⟨w.heap.size, 3 * t + r, none⟩ = some (.int .u8 (ix (want rs cs (nums s) true k) (3 * t + r))) :=
            (HM.out.cell _).trans (bytesOf_get _ _ (by rw [want_len]; omega))
          have hfr : wr.drew.frozen? ⟨w.heap.size, 3 * t + r, none⟩ = false := HM.out.frozen _ (by rw [bytesOf_size, want_len]; omega)
          go_wp2_with fail
          go_roundg (n - (k + 1))
          case measure => have := HK.out; omega
          case rel =>
            refine ⟨k + 1, by omega, by go_num, ?_, HB.out.drew.setCell (p := ⟨w.heap.size, 3 * t + r, none⟩) (Nat.le_refl _) _⟩
            have e1 : want rs cs (nums s) true (k + 1) = (want rs cs (nums s) true k).set (3 * t + r) ((s[k]'hks).toNat : Int) := by
              show (mats cs rs (nums s) k).set (3 * (ix cs k).toNat + (ix rs k).toNat) (ix (nums s) k) = _
              rw [HR.out, HT.out, HX2.out, HX.out]; rfl
            rw [e1, ← bytesOf_set]
            exact Blk.set_ (w := wr.drew) HM.out _ _
      · obtain rfl : k = n := by omega
        have hle : k ≤ s.size := by have := HN.out; omega
        have hgd : ∀ j, j < k → 0 ≤ ix rs j ∧ ix rs j ≤ 2 ∧ 0 ≤ ix cs j ∧ ix cs j ≤ 2 := fun j hj => ⟨(HG.out j hj).1, (HG.out j hj).2.1, (HG.out j hj).2.2.1, (HG.out j hj).2.2.2.1⟩
        have HGD := Lib.hid hgd
        clear hgd
        go_wp2_with fail
        refine (matrixSet_any A C k cn k cm rs cs s turned _ (HA.out.up HB.out) (HC.out.up HB.out) HS.out (Nat.le_refl _) hle h50 HGD.out).mono ?_; rintro e w4 ⟨rfl, h4⟩
        have hres : res rs cs (nums s) k turned = want rs cs (nums s) turned k := res_eq rs cs (nums s) k turned HGD.out
        rw [hres]
        clear hres
        have hcv := loadBytes (HM.out.below h4 HM.out.lt) 9 Try.underlying9
        rw [want_len] at hcv
        go_wp2_with fail
        go_ret
        exact ⟨rfl, HB.out.trans (h4.mono HB.out.size)⟩

set_option maxHeartbeats 4000000 in
theorem walk (A C : Option Addr) (n cn m cm : Nat) (rs cs : List Int) (s : ByteArray) (turned : Bool) (w : World) (hA : Ints .i64 w w.heap.size A n rs) (hC : Ints .i64 w w.heap.size C m cs) (hs : s.size ≤ maxLen) :
    Calls Try.prog 7 #[.slice A n cn, .slice C m cm, .string s, .bool turned] w fun e w' => e = .returned (.bool true) ∧ Below w.heap.size w w' := by
  by_cases h1 : 2147483647 < (n : Int)
  · clear hA hC hs
    go_enter Try.func7, Try.ntmps7
    go_wp2_with fail
    go_ret
    exact ⟨rfl, Below.refl _ _⟩
  by_cases h2 : 2147483647 < (m : Int)
  · clear hA hC hs
    go_enter Try.func7, Try.ntmps7
    go_wp2_with fail
    go_ret
    exact ⟨rfl, Below.refl _ _⟩
  by_cases h3 : 2147483647 < (s.size : Int)
  · clear hA hC hs
    go_enter Try.func7, Try.ntmps7
    go_wp2_with fail
    go_ret
    exact ⟨rfl, Below.refl _ _⟩
  by_cases h4 : n = m
  · subst h4
    exact walk_good A C n cn cm rs cs s turned w hA hC hs (by omega) (by omega)
  · have HA := Lib.hid hA
    have HC := Lib.hid hC
    have HS := Lib.hid hs
    have HN := Lib.hid h4
    clear hA hC hs h4
    go_enter Try.func7, Try.ntmps7
    go_wp2_with fail
    refine (iSets_any A C n m cn cm rs cs s _ HA.out HC.out HS.out).mono ?_; rintro e w1 ⟨b, rfl, hset, rfl⟩
    cases b
    · go_wp2_with fail
      go_ret
      exact ⟨rfl, Below.refl _ _⟩
    · exact absurd (hset rfl).1 HN.out

theorem own : ownKnob Try.prog.godebug = none := by kernel_rfl
theorem laidOut : laidOutB Try.prog = true := by kernel_rfl

theorem proved : Rows.FnMatrixSetSaid :=
  OpenClaim.holds_of_wide 7 Try.f7 rfl rfl rfl rfl rfl rfl rfl ⟨rfl, rfl, rfl, rfl, rfl⟩ rfl rfl rfl rfl rfl (by kernel_rfl) Try.func7 (by kernel_rfl)
    (of_decide_eq_true (by kernel_rfl)) (by unfold Func.isWrapper; first | (rw [if_pos (by decide +kernel)]; kernel_rfl) | (rw [if_neg (by decide +kernel)]; exact ⟨rfl, rfl⟩))
    (fun os started H enc _ => lift.handed (C := Try.checked) (s := Rows.fnMatrixSetSpec) own started (by kernel_rfl) Try.func7 laidOut (tb := 4) rfl Try.underlying4 rfl
      (fun t ht => of_decide_eq_true (List.all_eq_true.1 (show (Try.f7.params.toList.all fun t => decide (Try.prog.readableRec t = true ∧ t < Try.prog.types.size)) = true by kernel_rfl) t ht))
      (fun ds h => by match ds, h with | [_, _, _, _], _ => rfl)
      (ChangeSpec.witness6 (enc := enc) (C := Try.checked) false ⟨#[], #[.slice none 0 0, .slice none 0 0, .string .empty, .bool false], []⟩ 8 (by kernel_rfl) (by kernel_rfl) (by kernel_rfl) (by kernel_rfl))
      (fun W args ds ⟨⟨base, hval0⟩, ⟨p, hA0⟩⟩ => by
        have hval : ∀ (j : Nat) t v, Try.f7.params[j]? = some t → args[j]? = some v → Value.okWide Try.prog W .any base t v := hval0
        have hA : DataW.TrodAll enc Try.prog W 0 (fun _ => true) true Try.f7.params.toList args.toList ds p := hA0
        rw [Try.params7] at hA hval
        obtain ⟨v0, v1, v2, v3, d0, d1, d2, d3, p0, p1, p2, p3, rfl, rfl, rfl, h0, h1, h2, h3⟩ := trodAll_four hA
        obtain ⟨A, n, cn, rs, rfl, hA'⟩ := open_nums Try.underlying37 Try.underlying3 (by kernel_rfl) (hval 0 _ v0 rfl rfl) h0
        obtain ⟨C, m, cm, cs, rfl, hC'⟩ := open_nums Try.underlying37 Try.underlying3 (by kernel_rfl) (hval 1 _ v1 rfl rfl) h1
        obtain ⟨s, rfl, rfl, rfl, hs⟩ := ChangeMaps.open_string Try.underlying9 (hval 2 _ v2 rfl rfl) h2
        obtain ⟨b, rfl, rfl, rfl⟩ := open_bool Try.underlying4 (hval 3 _ v3 rfl rfl) h3
        exact walk A C n cn m cm rs cs s b W hA' hC' hs))
#print axioms proved
end Go.Proofs.Ytlnjnecjmnfiaaa.mat
