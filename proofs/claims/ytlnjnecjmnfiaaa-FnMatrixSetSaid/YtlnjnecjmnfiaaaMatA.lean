/-
  Contracts: laws.iSets: it tells whether signs are to be set. No condition but that the slices can be read.
-/
import Derived.Test.YtlnjnecjmnfiaaaMem
namespace Go.Proofs.Ytlnjnecjmnfiaaa.mat
open Go.ChangeShapes Go.WideShapes Go.ChangeAt Go.RowKit
open Go.Proofs.Ytlnjnecjmnfiaaa.mem
set_option linter.unusedVariables false
set_option linter.unusedSimpArgs false

/-- The k-th byte of a string. -/
def bx (s : ByteArray) (k : Nat) : Int := ((s.data.toList.getD k 0).toNat : Int)

theorem bx_get (s : ByteArray) (k : Nat) (h : k < s.size) : bx s k = ((s[k]'h).toNat : Int) := by
  unfold bx
  have h' : k < s.data.toList.length := by simpa using h
  rw [List.getD_eq_getElem?_getD, List.getElem?_eq_getElem h']
  rfl

def good (r c z : Int) : Prop := 0 ≤ r ∧ r ≤ 2 ∧ 0 ≤ c ∧ c ≤ 2 ∧ (z = 70 ∨ z = 48 ∨ z = 49 ∨ z = 50)

def Sets (n m : Nat) (rs cs : List Int) (s : ByteArray) : Prop := n = m ∧ n = s.size ∧ n ≤ 50 ∧ ∀ k, k < n → good (ix rs k) (ix cs k) (bx s k)

def SetsPost (n m : Nat) (rs cs : List Int) (s : ByteArray) (w : World) (e : Ending) (w' : World) : Prop := ∃ b : Bool, e = .returned (.bool b) ∧ (b = true → Sets n m rs cs s) ∧ w = w'

set_option maxHeartbeats 4000000 in
theorem iSets_any (A C : Option Addr) (n m cn cm : Nat) (rs cs : List Int) (s : ByteArray) (w : World) (hA : Ints .i64 w w.heap.size A n rs) (hC : Ints .i64 w w.heap.size C m cs) (hs : s.size ≤ maxLen) :
    Calls Try.prog 16 #[.slice A n cn, .slice C m cm, .string s] w (SetsPost n m rs cs s w) := by
  have hn := hA.2.1
  have hm := hC.2.1
  unfold maxLen at hn hm hs
  by_cases h1 : n = m
  · by_cases h2 : n = s.size
    · by_cases h3 : 50 < n
      · have b1 : ((n : Int) != (m : Int)) = false := by simp [h1]
        have b2 : ((n : Int) != (s.size : Int)) = false := by simp [h2]
        have b3 : (50 : Int) < (n : Int) := by omega
        clear h1 h2 hn hm hs
        go_enter Try.func16, Try.ntmps16
        go_wp2_with fail
        go_ret
        exact ⟨false, rfl, (by simp), rfl⟩
      · have b1 : ((n : Int) != (m : Int)) = false := by simp [h1]
        have b2 : ((n : Int) != (s.size : Int)) = false := by simp [h2]
        have b3 : (n : Int) ≤ 50 := by omega
        have hb1 : n ≤ m := by omega
        have hb2 : n ≤ s.size := by omega
        have H1 := Lib.hid h1
        have H2 := Lib.hid h2
        have HA := Lib.hid hA
        have HC := Lib.hid hC
        clear h1 h2 h3 hn hm hs hA hC
        go_enter Try.func16, Try.ntmps16
        go_wp2_with fail
        go_loop [29] (fun i => ∃ k : Nat, k ≤ n ∧ i = .int .i64 k ∧ ∀ j, j < k → good (ix rs j) (ix cs j) (bx s j)) (fun i => n - (intOf i).toNat)
        case atStart => exact ⟨0, Nat.zero_le _, rfl, fun j hj => absurd hj (by omega)⟩
        case round =>
          obtain ⟨k, hk, rfl, hgood⟩ := hrel
          have HG := Lib.hid hgood
          clear hgood
          by_cases hlt : k < n
          · obtain ⟨b, off, rfl, hb, hc⟩ := HA.out.2.2.2 (by omega)
            obtain ⟨b', off', rfl, hb', hc'⟩ := HC.out.2.2.2 (by omega)
            have c1 := hc k hlt
            have c2 := hc' k (by omega)
            clear hc hc'
            have hks : k < s.size := by omega
            have HB : Hid (bx s k = ((s[k]'hks).toNat : Int)) := bx_get s k hks
            go_wp2_with fail
            all_goals first
              | (go_ret; exact ⟨false, rfl, (by simp), rfl⟩)
              | (have hB := HB.out
                 refine ⟨⟨k + 1, by omega, by go_num, fun j hj => ?_⟩, by simp [intOf]; omega⟩
                 by_cases e : j = k
                 · subst e; unfold good; rw [hB]; first | omega | (simp only [bne_eq_false_iff_eq] at *; omega)
                 · exact HG.out j (by omega))
          · go_wp2_with fail
            go_ret
            refine ⟨true, rfl, fun _ => ⟨H1.out, H2.out, by omega, fun j hj => HG.out j (by omega)⟩, rfl⟩
    · have b1 : ((n : Int) != (m : Int)) = false := by simp [h1]
      have b2 : ((n : Int) != (s.size : Int)) = true := by simp; omega
      clear h1 h2 hn hm hs
      go_enter Try.func16, Try.ntmps16
      go_wp2_with fail
      go_ret
      exact ⟨false, rfl, (by simp), rfl⟩
  · have b1 : ((n : Int) != (m : Int)) = true := by simp; omega
    clear h1 hn hm hs
    go_enter Try.func16, Try.ntmps16
    go_wp2_with fail
    go_ret
    exact ⟨false, rfl, (by simp), rfl⟩
end Go.Proofs.Ytlnjnecjmnfiaaa.mat
