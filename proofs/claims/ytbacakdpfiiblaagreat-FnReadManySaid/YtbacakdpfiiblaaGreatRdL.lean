/-
  Contracts of the package's reader: bytes as doubles.
-/
import Derived.Test.YtbacakdpfiiblaaGreatRdI
import Derived.Test.YtbacakdpfiiblaaGreatGeoF
import Derived.Deep.RegionLaw
import Derived.Deep.DeepCutAuto
namespace Go.Proofs.YtbacakdpfiiblaaGreat.geo
open Go.ChangeShapes Go.WideShapes Go.ChangeAt Go.RowKit
open Go.Proofs.YtbacakdpfiiblaaGreat.mem
set_option linter.unusedVariables false
set_option linter.unusedSimpArgs false

/-- Doubles come back, all new. -/
def BFPost (w : World) (fs : List Nat) (e : Ending) (w' : World) : Prop :=
  ∃ A, e = .returned (.slice A fs.length fs.length) ∧ SlS (fun a => w.heap.size ≤ a) w' A fs.length 1 (FL fs) ∧ Below w.heap.size w w'
set_option maxHeartbeats 8000000 in
set_option maxRecDepth 100000 in
theorem floats_calls {S : Nat → Prop} {w : World} {A : Option Addr} {m c : Nat} {l : List Nat} (hl : l.length = 8 * m) (hm : 8 * m ≤ 2000) (hc : 8 * m ≤ c) (hb : Byt l) (hA : SlS S w A (8 * m) 1 (BL l)) :
    Calls Tryz.prog 177 #[.slice A (8 * m) c] w (BFPost w (numsB false m l)) := by
  obtain ⟨N, hN⟩ : ∃ N, N = 8 * m := ⟨_, rfl⟩
  rw [← hN] at hA hc ⊢
  obtain ⟨fs, hfs⟩ : ∃ fs, fs = numsB false m l := ⟨_, rfl⟩
  rw [← hfs]
  have hfl : fs.length = m := by rw [hfs, numsB_len]
  by_cases h0 : m = 0
  · have hN0 : N = 0 := by omega
    have hf0 : fs = [] := List.eq_nil_of_length_eq_zero (by omega)
    subst hN0 hf0
    clear hA hb hN hl hm hc hfl hfs h0
    go_enter Tryz.func177, Tryz.ntmps177
    go_wp2_with fail
    refine bodyPost_ret (v := .slice none 0 0) (by simp [results, go_sem]) rfl ?_
    exact ⟨none, rfl, ⟨Sl.nil _ _ _, fun h => absurd h (Nat.lt_irrefl 0)⟩, Below.refl _ _⟩
  · have hN0 : ((N : Int) == 0) = false := beq_eq_false_iff_ne.2 (by omega)
    have hq : IntKind.i64.wrap (Int.tdiv (N : Int) 8) = (m : Int) := by rw [Int.tdiv_eq_ediv_of_nonneg (by omega), IntKind.wrap_i64]; omega
    have hq2 : wrap64 ((N : Int) / 8) = (m : Int) := by rw [wrap64]; omega
    have hq3 : (N : Int) / 8 = (m : Int) := by omega
    obtain ⟨i0, hi, hz0, hz1, hz2⟩ := info_parts infoF
    obtain ⟨i1, hi1, hz1'⟩ := info_byte
    have hm2 : m ≤ 250 := by omega
    have hb48 : i0.bytes * m ≤ 281474976710656 := by rw [hz2]; omega
    have HA := Lib.hid hA
    have HB := Lib.hid hb
    have HL := Lib.hid hl
    have HN := Lib.hid hN
    have HFS := Lib.hid hfs
    have HFL := Lib.hid hfl
    have HC := Lib.hid hc
    have hN2 : N ≤ 2000 := by omega
    clear hA hb hl hN hfs hfl hm hc
    go_enter Tryz.func177, Tryz.ntmps177
    go_wp2_with (at_make; refine wpList_make_full _ rfl (.tmp 10) (.tmp 10) 22 rfl w.heap.size 31 i0 _ 1 Tryz.underlying22 hi hz0 hz1 .i64 .i64 _ _ m rfl rfl rfl rfl hb48 (by unfold maxLen; omega) (Nat.le_refl _) ?_; intro w2 hown hgrow
                 obtain ⟨hrow2, hxl⟩ := make_row hown
                 have HROW := Lib.hid hrow2
                 have HXL := Lib.hid hxl
                 have HB2 := Lib.hid ((Below.refl w.heap.size w).grown hgrow (Nat.le_refl _) (fun q hq => by cases hq))
                 clear hown hgrow hrow2 hxl)
    go_loopg [14] m (fun q ci wr => ∃ (j : Nat) (R : List Value), j + q = m ∧ ci = .int .i64 (j : Nat) ∧ Row wr w.heap.size 31 (FL (fs.take j) ++ R) ∧ R.length = m - j ∧ Below w.heap.size w wr)
    case atStart => exact ⟨0, _, by omega, by go_num, by simpa [FL] using HROW.out, (by have h1 := HXL.out; rw [Nat.mul_one] at h1; rw [h1]; omega), HB2.out⟩
    case round =>
      obtain ⟨j, R, hj, rfl, hrow, hrl, hbl⟩ := hrel
      have HJ := Lib.hid hj
      have HRW := Lib.hid hrow
      have HRL := Lib.hid hrl
      have HBL := Lib.hid hbl
      clear hj hrow hrl hbl
      by_cases hlt : j < m
      · have hltI : (j : Int) < (m : Int) := by omega
        have hll := HL.out
        have hnn := HN.out
        have hjj := HJ.out
        have hcc := HC.out
        obtain ⟨I, hI⟩ : ∃ I, I = 8 * j := ⟨_, rfl⟩
        have hmul : IntKind.i64.wrap (8 * (j : Int)) = (I : Int) := by rw [IntKind.wrap_i64]; omega
        have hmul2 : wrap64 (8 * (j : Int)) = (I : Int) := by rw [wrap64]; omega
        have hmul3 : 8 * (j : Int) = (I : Int) := by omega
        have hw1 : IntKind.i64.wrap (I : Int) = (I : Int) := by rw [IntKind.wrap_i64]; omega
        have hw2 : wrap64 (I : Int) = (I : Int) := by rw [wrap64]; omega
        obtain ⟨A2, hA2e⟩ : ∃ A2, A2 = if c = I then A else A.map (·.add (I * 1)) := ⟨_, rfl⟩
        have hsl : ∀ w, (Instr.slice 34 (.slice A N c) (some (.int .i64 (I : Nat))) none none).run Tryz.prog w = .ok (.slice A2 (N - I) (c - I)) w := fun w => by
          rw [hA2e]
          exact run_from (P := Tryz.prog) Tryz.underlying34 hi1 hz1' A N c I (by omega) hcc w
        have hA2 := (HA.out.keep (Keeps.of_below HBL.out)).from1 (show I ≤ N by omega) hcc
        rw [← hA2e, ← BL_drop] at hA2
        obtain ⟨bb, off, hAe, hbb, hcell⟩ := bytes_at hA2 (by rw [List.length_drop]; omega) (show 8 ≤ N - I by omega) (by omega)
        subst hAe
        have HBIN := Lib.hid (fun w' (hb : Below wr.heap.size wr w') => bin64 false (c := c - I) (HB.out.drop I) (show 8 ≤ N - I by omega) (show 8 ≤ (l.drop I).length by rw [List.length_drop]; omega) w' (fun i hi => (hb.cell (p := ⟨bb, off + i, none⟩) hbb).trans (hcell i hi)))
        obtain ⟨x, hx⟩ : ∃ x, x = bV false ((l.drop I).take 8) := ⟨_, rfl⟩
        rw [← hx] at HBIN
        have hfx : fs.take (j + 1) = fs.take j ++ [x] := by
          have h1 : fs.length = m := HFL.out
          have h2 : numsB false (j + 1) l = numsB false j l ++ [x] := by rw [numsB_snoc, hx, hI]
          have h3 : ∀ k, k ≤ m → fs.take k = numsB false k l := fun k hk => by
            rw [HFS.out]
            clear hsl hmul hmul2 hmul3 hw1 hw2
            have : ∀ (a k : Nat) (l : List Nat), k ≤ a → (numsB false a l).take k = numsB false k l := by
              intro a
              induction a with
              | zero => intro k l hk; obtain rfl : k = 0 := by omega
                        rfl
              | succ a ih =>
                intro k l hk
                cases k with
                | zero => rfl
                | succ k => rw [numsB, numsB, List.take_succ_cons, ih k _ (by omega)]
            exact this m k l hk
          rw [h3 _ (by omega), h3 _ (by omega), h2]
        have HFX := Lib.hid hfx
        obtain ⟨r0, R', hRe, hr'⟩ : ∃ r0 R', R = r0 :: R' ∧ R'.length = m - (j + 1) := by
          have h1 := HRL.out
          match R, h1 with
          | r0 :: R', h1 => exact ⟨r0, R', rfl, by simp at h1; omega⟩
          | [], h1 => simp at h1; omega
        subst hRe
        have hdl : (FL (fs.take j)).length = j := by rw [FL_len, List.length_take, HFL.out]; omega
        have HDL := Lib.hid hdl
        have HR' := Lib.hid hr'
        have HW2 := Lib.hid (fun w' (hb : Below wr.heap.size wr w') => HRW.out.below hb)
        have g0 : wr.cell? ⟨w.heap.size, j, none⟩ = some r0 := HRW.out.cell (by rw [List.getElem?_append_right (by omega), hdl, Nat.sub_self]; rfl)
        have g0f : wr.frozen? ⟨w.heap.size, j, none⟩ = false := HRW.out.frozen (by simp [hdl])
        have hgl := HRW.out.lt
        have hfb := run_frombits
        clear hll hnn hjj hcc hI hA2e hA2 hcell hbb hx hfx hdl hr'
        go_upto_region 7 with fail
        go_region_law (first
          | (go_simp; go_at_call 180; refine (HBIN.out _ (by first | exact (Below.refl _ _).drew | exact Below.refl _ _)).mono ?_
             rintro e w5 ⟨rfl, hb5⟩
             have hb5r : Below wr.heap.size wr w5 := by first | exact hb5 | exact ((Below.refl wr.heap.size wr).drew).trans hb5
             have h5 : w5.cell? ⟨w.heap.size, j, none⟩ = some r0 := (hb5r.cell (p := ⟨w.heap.size, j, none⟩) hgl).trans g0
             have h5f : w5.frozen? ⟨w.heap.size, j, none⟩ = false := (HW2.out w5 hb5r).frozen (by simp [HDL.out])))
        have HB5 := Lib.hid hb5r
        clear hb5 hb5r h5 h5f hmul hmul2 hmul3 hw1 hw2
        go_wp2_with fail
        go_roundg (m - (j + 1))
        case measure => have := HJ.out; omega
        case rel =>
          have h2 := HJ.out
          refine ⟨j + 1, R', by omega, by go_num, ?_, HR'.out, (HBL.out.trans (HB5.out.mono HBL.out.size)).setCell (Nat.le_refl _) _⟩
          have hr := (HW2.out w5 HB5.out).set_ j (.float .f64 x)
          rw [HFX.out, FL_app]
          have h3 : (FL (fs.take j) ++ r0 :: R').set j (.float .f64 x) = FL (fs.take j) ++ FL [x] ++ R' := by
            rw [List.set_append, if_neg (by rw [HDL.out]; omega), HDL.out, Nat.sub_self, List.set_cons_zero, List.append_assoc]
            rfl
          rw [h3] at hr
          exact hr
      · have hjj := HJ.out
        obtain rfl : j = m := by omega
        have hltI : (j : Int) ≤ (j : Int) := Int.le_refl _
        have hR0 : R = [] := List.eq_nil_of_length_eq_zero (by rw [HRL.out]; omega)
        have hrow := HRW.out
        rw [hR0, List.append_nil, List.take_of_length_le (by rw [HFL.out]; exact Nat.le_refl _)] at hrow
        have HRW2 := Lib.hid hrow
        clear hrow hjj hR0
        go_wp2_with fail
        refine bodyPost_ret (v := .slice (some ⟨w.heap.size, 0, none⟩) j j) (by simp [results, go_sem]) rfl ?_
        refine ⟨some ⟨w.heap.size, 0, none⟩, by rw [HFL.out], ⟨?_, fun _ a ha => by have := Option.some.inj ha; subst this; exact Nat.le_refl _⟩, HBL.out⟩
        exact HRW2.out.sl (by rw [FL_len, Nat.mul_one]) (by rw [HFL.out]; unfold maxLen; omega)
end Go.Proofs.YtbacakdpfiiblaaGreat.geo
