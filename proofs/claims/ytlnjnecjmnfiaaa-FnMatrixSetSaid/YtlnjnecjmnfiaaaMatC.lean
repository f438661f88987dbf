/-
  Contracts: a matrix as a string; DoorMatrix; impl.MatrixSet.
-/
import Derived.Test.YtlnjnecjmnfiaaaMatB
import Derived.Lib.SlBytesConst
import Derived.Laws.BytesArg
import Derived.StillTailTactics
namespace Go.Proofs.Ytlnjnecjmnfiaaa.mat
open Go.ChangeShapes Go.WideShapes Go.ChangeAt Go.RowKit
open Go.Proofs.Ytlnjnecjmnfiaaa.mem
set_option linter.unusedVariables false
set_option linter.unusedSimpArgs false

theorem loadBytes {w : World} {g t : Nat} {l : List Int} (h : Blk w g t (bytesOf l)) : ∀ dst, Try.prog.underlying dst = some .string →
    (convert 39 dst (.slice (some ⟨g, 0, none⟩) l.length l.length)).run Try.prog w = .ok (.string (strOfNums l)) w :=
  run_convert_bytes_arg w 39 5 Try.underlying39 Try.underlying5 g 0 l.length l.length l rfl (fun i hi => by
    rw [Nat.zero_add, h.cell, bytesOf_get l i hi]; rfl)

set_option maxHeartbeats 4000000 in
theorem code_any (g : Nat) (l : List Int) (w : World) (hg : Nine w g l) :
    Calls Try.prog 38 #[.pointer (some ⟨g, 0, none⟩)] w fun e w' => e = .returned (.string (strOfNums l)) ∧ w = w' := by
  have hcv := loadBytes hg.blk 9 Try.underlying9
  rw [hg.len] at hcv
  clear hg
  go_enter Try.func38, Try.ntmps38
  go_wp2_with fail
  go_ret
  exact ⟨rfl, rfl⟩

/-- The matrix behind the first k signs. -/
def mats (rs cs ss : List Int) : Nat → List Int
  | 0 => List.replicate 9 70
  | k + 1 => (mats rs cs ss k).set (3 * (ix rs k).toNat + (ix cs k).toNat) (ix ss k)
theorem mats_len (rs cs ss : List Int) (k : Nat) : (mats rs cs ss k).length = 9 := by
  induction k with
  | zero => rfl
  | succ k ih => unfold mats; rw [List.length_set]; exact ih

/-- What DoorMatrix ends in. -/
def res (rs cs ss : List Int) (n : Nat) (turned : Bool) : List Int := if turned then tr (mats rs cs ss n) else mats rs cs ss n

set_option maxHeartbeats 4000000 in
theorem doorMatrix_any (A C D : Option Addr) (n cn m cm d cd : Nat) (rs cs ss : List Int) (turned : Bool) (w : World) (hA : Ints .i64 w w.heap.size A n rs) (hC : Ints .i64 w w.heap.size C m cs) (hD : Ints .u8 w w.heap.size D d ss)
    (hm : n ≤ m) (hd : n ≤ d) (h50 : n ≤ 50) (hin : ∀ k, k < n → 0 ≤ ix rs k ∧ ix rs k ≤ 2 ∧ 0 ≤ ix cs k ∧ ix cs k ≤ 2) :
    Calls Try.prog 27 #[.slice A n cn, .slice C m cm, .slice D d cd, .bool turned] w fun e w' =>
      e = .returned (.string (strOfNums (res rs cs ss n turned))) ∧ Below w.heap.size w w' := by
  have HA := Lib.hid hA
  have HC := Lib.hid hC
  have HD := Lib.hid hD
  have HI := Lib.hid hin
  clear hA hC hD hin
  go_enter Try.func27, Try.ntmps27
  go_wp2_with fail
  refine (newMatrix_any _).mono ?_; rintro e w1 ⟨rfl, h1⟩
  rw [bytesOf_list _ (by simp)]
  go_wp2_with fail
  have hN0 : Nine (w1.alloc (Obj.cells #[Value.int IntKind.u8 70, Value.int IntKind.u8 70, Value.int IntKind.u8 70, Value.int IntKind.u8 70, Value.int IntKind.u8 70, Value.int IntKind.u8 70, Value.int IntKind.u8 70, Value.int IntKind.u8 70, Value.int IntKind.u8 70] 75)) w1.heap.size (mats rs cs ss 0) := ⟨Blk.new _ _ _, rfl⟩
  have hB0 := h1.alloc h1.size (Obj.cells #[Value.int IntKind.u8 70, Value.int IntKind.u8 70, Value.int IntKind.u8 70, Value.int IntKind.u8 70, Value.int IntKind.u8 70, Value.int IntKind.u8 70, Value.int IntKind.u8 70, Value.int IntKind.u8 70, Value.int IntKind.u8 70] 75)
  have hsz := h1.size
  go_loopg [14] n (fun q c wr => ∃ k, k + q = n ∧ c = .int .i64 k ∧ Nine wr w1.heap.size (mats rs cs ss k) ∧ Below w.heap.size w wr)
  case atStart => exact ⟨0, by omega, by go_num, hN0, hB0⟩
  case round =>
    obtain ⟨k, hk, rfl, hn, hb⟩ := hrel
    have HN := Lib.hid hn
    have HB := Lib.hid hb
    have HK := Lib.hid hk
    have H1 := Lib.hid h1
    have HB0 := Lib.hid hB0
    have HN0 := Lib.hid hN0
    have hkn : k ≤ n := by omega
    clear hn hb hk h1 hB0 hN0
    by_cases hlt : k < n
    · obtain ⟨b, off, rfl, hb, hc⟩ := HA.out.2.2.2 (by omega)
      obtain ⟨b', off', rfl, hb', hc'⟩ := HC.out.2.2.2 (by omega)
      obtain ⟨b'', off'', rfl, hb'', hc''⟩ := HD.out.2.2.2 (by omega)
      have c1 := (HB.out.cell (p := ⟨b, off + k, none⟩) hb).trans (hc k hlt)
      have c2 := (HB.out.cell (p := ⟨b', off' + k, none⟩) hb').trans (hc' k (by omega))
      have c3 := (HB.out.cell (p := ⟨b'', off'' + k, none⟩) hb'').trans (hc'' k (by omega))
      obtain ⟨i1, i2, i3, i4⟩ := HI.out k hlt
      obtain ⟨r, hr⟩ := Int.eq_ofNat_of_zero_le i1
      obtain ⟨s, hs⟩ := Int.eq_ofNat_of_zero_le i3
      rw [hr] at c1 i2
      rw [hs] at c2 i4
      obtain ⟨z, hz⟩ : ∃ z, z = ix ss k := ⟨_, rfl⟩
      rw [← hz] at c3
      have HR := Lib.hid hr
      have HS := Lib.hid hs
      have HZ := Lib.hid hz
      clear hc hc' hc'' i1 i3 hr hs hz
      have hlm : k < m := by omega
      have hld : k < d := by omega
      have wr1 : IntKind.u32.wrap (r : Int) = (r : Int) := IntWalk.u32_in _ (by omega)
      have ws1 : IntKind.u32.wrap (s : Int) = (s : Int) := IntWalk.u32_in _ (by omega)
      go_wp2_with fail
      go_still_tail 14, (by kernel_rfl)
      clear wr1 ws1
      change wpList _ _ _ _ _ wr.drew
      have hN1 : Nine wr.drew w1.heap.size (mats rs cs ss k) := ⟨HN.out.blk, HN.out.len⟩
      have HN1 := Lib.hid hN1
      clear hN1
      go_wp2_with fail
      refine (set_any w1.heap.size (mats rs cs ss k) r s z (by omega) (by omega) _ HN1.out).mono ?_; rintro e w4 ⟨rfl, hn4, hg4⟩
      have HN4 := Lib.hid hn4
      have HG4 := Lib.hid hg4
      clear hn4 hg4 c1 c2 c3
      go_wp2_with fail
      go_roundg (n - (k + 1))
      case measure => have := HK.out; omega
      case rel =>
        refine ⟨k + 1, by omega, by go_num, ?_, ?_⟩
        · have e1 : mats rs cs ss (k + 1) = (mats rs cs ss k).set (3 * r + s) z := by
            show (mats rs cs ss k).set (3 * (ix rs k).toNat + (ix cs k).toNat) (ix ss k) = _
            rw [HR.out, HS.out, HZ.out]; rfl
          rw [e1]
          exact HN4.out
        · exact HB.out.drew.grown HG4.out HB.out.drew.size (fun q hq => by cases hq; exact hsz)
    · obtain rfl : k = n := by omega
      cases turned
      · go_wp2_with fail
        refine (code_any w1.heap.size (mats rs cs ss k) _ HN.out).mono ?_; rintro e w4 ⟨rfl, rfl⟩
        go_wp2_with fail
        go_ret
        exact ⟨rfl, HB.out⟩
      · go_wp2_with fail
        refine (transpose_any w1.heap.size (mats rs cs ss k) _ HN.out).mono ?_; rintro e w4 ⟨rfl, hn4, hg4⟩
        have HN4 := Lib.hid hn4
        have HG4 := Lib.hid hg4
        clear hn4 hg4
        go_wp2_with fail
        refine (code_any w1.heap.size (tr (mats rs cs ss k)) _ HN4.out).mono ?_; rintro e w4 ⟨rfl, rfl⟩
        go_wp2_with fail
        go_ret
        exact ⟨rfl, HB.out.grown HG4.out HB.out.size (fun q hq => by cases hq; exact hsz)⟩
end Go.Proofs.Ytlnjnecjmnfiaaa.mat
