/-
  Contracts: places out of numbers, numbers out of places (the reference's).
-/
import Derived.Test.YtbacakdpfiiblaaGreatGeoJ
namespace Go.Proofs.YtbacakdpfiiblaaGreat.geo
open Go.ChangeShapes Go.WideShapes Go.ChangeAt Go.RowKit
open Go.Proofs.YtbacakdpfiiblaaGreat.mem
set_option linter.unusedVariables false
set_option linter.unusedSimpArgs false

def encP (p : Pl) : List Value := [.float .f64 p.x, .float .f64 p.y, .float .f64 p.z, .float .f64 p.m]
theorem encP_len (p : Pl) : (encP p).length = 4 := rfl
theorem encP_one (p : Pl) : ∀ v ∈ encP p, v.oneCell' = true := by
  intro v hv
  simp [encP] at hv
  rcases hv with rfl | rfl | rfl | rfl <;> rfl
theorem infoPl : (Tryz.prog.info? 182).map (fun i => (i.zero, i.size, i.bytes)) = some (some (.agg #[.float .f64 0, .float .f64 0, .float .f64 0, .float .f64 0]), 4, 32) := by kernel_rfl
theorem keepN {wA w' : World} {b p q : Nat} {x y : Nat} (hb : Below wA.heap.size wA w')
    (hlt : b < wA.heap.size) (hx : wA.cell? ⟨b, p, none⟩ = some (.float .f64 x)) (hy : wA.cell? ⟨b, q, none⟩ = some (.float .f64 y)) :
    Below wA.heap.size wA w' ∧ w'.cell? ⟨b, p, none⟩ = some (.float .f64 x) ∧ w'.cell? ⟨b, q, none⟩ = some (.float .f64 y) :=
  ⟨hb, (hb.cell (p := ⟨b, p, none⟩) hlt).trans hx, (hb.cell (p := ⟨b, q, none⟩) hlt).trans hy⟩
theorem pl_take {d : Nat} {ns : List Nat} {j : Nat} (h : j < ns.length / wd d) : ((plc d ns).take (j + 1)).flatMap encP = ((plc d ns).take j).flatMap encP ++ encP (plAt d ns j) := by
  have he : (plc d ns)[j]? = some (plAt d ns j) := by
    unfold plc
    rw [List.getElem?_map, List.getElem?_range h]; rfl
  rw [List.take_add_one, he, List.flatMap_append]
  simp
/-- Places come back. -/
def PlPost (w : World) (l : List Pl) (e : Ending) (w' : World) : Prop :=
  ∃ A c, e = .returned (.slice A l.length c) ∧ SlS (fun a => w.heap.size ≤ a) w' A l.length 4 (l.flatMap encP) ∧ Below w.heap.size w w'
/-- Numbers come back. -/
def NumPost (w : World) (ns : List Nat) (e : Ending) (w' : World) : Prop :=
  ∃ A c, e = .returned (.slice A ns.length c) ∧ ns.length ≤ c ∧ SlS (fun a => w.heap.size ≤ a) w' A ns.length 1 (FL ns) ∧ Below w.heap.size w w'

set_option maxHeartbeats 8000000 in
set_option maxRecDepth 100000 in
theorem places0 (A : Option Addr) (n c : Nat) (ns : List Nat) (hn : n ≤ 1073741824) {w : World} (hA : Sl w w.heap.size A n 1 (FL ns)) :
    Calls Tryz.prog 69 #[.slice A n c, .int .i64 0] w (PlPost w (plc 0 ns)) := by
  have hl : ns.length = n := by have := hA.1; rw [FL_len] at this; omega
  obtain ⟨i0, hi, hz0, hz1, hz2⟩ := info_parts infoPl
  have hwc := Lib.hid (show ∀ w, Calls Tryz.prog 28 #[.int .i64 0] w fun e w' => e = .returned (.int .i64 2) ∧ w' = w from fun w => width_calls (d := 0) (by decide) w)
  have HA := Lib.hid hA
  have HL := Lib.hid hl
  have hb1 : bits .and .i64 0 1 = 0 := by decide
  have hb2 : bits .and .i64 0 2 = 0 := by decide
  clear hA hl
  go_enter Tryz.func69, Tryz.ntmps69
  go_wp2_with fail
  refine (hwc.out _).mono ?_
  rintro e w9 ⟨rfl, hw9⟩
  replace hw9 := hw9.symm
  subst hw9
  go_wp2_with fail
  go_loopg [5, 7] (n / 2) (fun q pv ci wr => ∃ (j : Nat) (A1 : Option Addr) (k1 : Nat), j + q = n / 2 ∧ ci = .int .i64 ((j * 2 : Nat) : Int) ∧ pv = .slice A1 j k1 ∧ wr.ownsRow w.heap.size 182 4 (.slice A1 j k1) j (((plc 0 ns).take j).flatMap encP) ∧ Below w.heap.size w wr)
  case atStart => exact ⟨0, none, 0, by omega, by go_num, rfl, World.ownsRow_nil _ _ _ _, Below.refl _ _⟩
  case round =>
    obtain ⟨j, A1, k1, hj', rfl, rfl, hown, hbl⟩ := hrel
    have HJL := Lib.hid hj'
    have HOWN := Lib.hid hown
    have HBL2 := Lib.hid hbl
    have sr := hbl.size
    have hjn : j ≤ n / 2 := by omega
    rw [Int.natCast_mul]
    simp only [Int.cast_ofNat_Int]
    clear hj' hown hbl
    by_cases hlt : j < n / 2
    · have hjw : j * 2 + 2 ≤ n := by omega
      obtain ⟨b, off, hAe, hblk, hcell⟩ := HA.out.2.2 (by omega)
      subst hAe
      have hblr : b < wr.heap.size := Nat.lt_of_lt_of_le hblk sr
      have cell : ∀ k, k < n → wr.cell? ⟨b, off + k, none⟩ = some (.float .f64 (ns.getD k 0)) := fun k hk => (HBL2.out.cell (p := ⟨b, off + k, none⟩) hblk).trans (hcell k _ (FL_get (by rw [HL.out]; exact hk)))
      obtain ⟨p, hp⟩ : ∃ p, p = plAt 0 ns j := ⟨_, rfl⟩
      have HP := Lib.hid hp
      have HPT := pl_take (d := 0) (ns := ns) (j := j) (by rw [HL.out]; exact hlt)
      rw [← hp] at HPT
      have HPT := Lib.hid HPT
      have hx : wr.cell? ⟨b, off + j * 2, none⟩ = some (.float .f64 p.x) := by rw [hp]; exact cell (j * 2) (by omega)
      have hy : wr.cell? ⟨b, off + (j * 2 + 1), none⟩ = some (.float .f64 p.y) := by rw [hp]; exact cell (j * 2 + 1) (by omega)
      have HX := Lib.hid hx
      have HY := Lib.hid hy
      have hpz : p.z = 0 ∧ p.m = 0 := by first | (rw [hp]; exact ⟨rfl, trivial⟩) | (rw [hp]; exact ⟨trivial, rfl⟩) | (rw [hp]; exact ⟨rfl, rfl⟩) | exact ⟨trivial, trivial⟩
      have HPZ := Lib.hid hpz
      have b0 : (0 : Int) ≤ (j : Int) * 2 := by omega
      have d0 : (j : Int) * 2 < (n : Int) := by omega
      have t0 : ((j : Int) * 2).toNat = j * 2 := by omega
      have u1 : IntKind.i64.wrap ((j : Int) * 2 + 1) = (j : Int) * 2 + 1 := IntWalk.i64_in _ (by omega)
      have b1 : (0 : Int) ≤ (j : Int) * 2 + 1 := by omega
      have d1 : (j : Int) * 2 + 1 < (n : Int) := by omega
      have t1 : ((j : Int) * 2 + 1).toNat = j * 2 + 1 := by omega
      have e0 : (j : Int) * 2 + 2 ≤ (n : Int) := by omega
      have hA0 := (Below.refl wr.heap.size wr).drew
      clear hp hcell cell hpz hx hy
      go_wp2_with fail
      go_region_held3 (fun w' => Below wr.heap.size wr w' ∧ w'.cell? ⟨b, off + j * 2, none⟩ = some (.float .f64 p.x) ∧ w'.cell? ⟨b, off + (j * 2 + 1), none⟩ = some (.float .f64 p.y))
        (first
          | exact keepN (Below.refl _ _).drew hblr HX.out HY.out
          | exact keepN (hA0.alloc hA0.size _) hblr HX.out HY.out
          | exact keepN (Below.refl _ _) hblr HX.out HY.out)
        (first | fail | fail)
      clear u1
      have hs3 : b ≠ wr.heap.size := by omega
      obtain ⟨wX, hwX⟩ : ∃ wX, wX = (wr.alloc (.cells #[.float .f64 p.x, .float .f64 p.y, .float .f64 0, .float .f64 0] 182)).drew := ⟨_, rfl⟩
      have hbX : Below wr.heap.size wr wX := by rw [hwX]; exact ((Below.refl _ _).alloc (Nat.le_refl _) _).drew
      have hN : Blk wX wr.heap.size 182 #[.float .f64 p.x, .float .f64 p.y, .float .f64 0, .float .f64 0] := by rw [hwX]; exact (Blk.new _ _ _).of_heap rfl
      have hsX : wX.heap.size = wr.heap.size + 1 := by rw [hwX]; simp [World.drew]
      rw [← hwX]
      obtain ⟨n0, n1, n2, n3, m0, m1, m2, m3, nl⟩ := cells4 hN
      have HOX := Lib.hid (HOWN.out.kept (grown_below (row := none) hbX) (own_row _))
      have HBX := Lib.hid (HBL2.out.trans (hbX.mono HBL2.out.size))
      have HSX := Lib.hid hsX
      have hblX : b < wX.heap.size := by omega
      have hnb : (Value.slice A1 j k1).ownBlock = none ∨ (Value.slice A1 j k1).ownBlock ≠ some wr.heap.size := .inr (fun e => by have := (HOWN.out.lt _ e).2; omega)
      have HNB := Lib.hid hnb
      clear hbX hN hwX hsX hnb 
      go_wp2_with (at_builtin; have hnb := HNB.out; refine wpList_append_sl _ rfl (.tmp 50) (.tmp 52) 106 rfl w.heap.size 182 i0 _ 4 32 Tryz.underlying106 hi hz0 hz1 hz2 rfl (by decide) (.slice A1 j k1) j (((plc 0 ns).take j).flatMap encP) rfl ((HOX.out).alloc _)
                     _ (some ⟨wX.heap.size, 0, none⟩) 1 1 [.float .f64 p.x, .float .f64 p.y, .float .f64 0, .float .f64 0] rfl (by have h := slBlk (n := 1) (c := 4) (heap_alloc_new wX (.cells #[.float .f64 p.x, .float .f64 p.y, .float .f64 0, .float .f64 0] 182)) rfl (by unfold maxLen; omega); simpa using h) (encP_one ⟨p.x, p.y, 0, 0⟩) (by unfold maxLen; omega) (by omega) (by simp; omega) ?_; intro A5 c5 w5 ho5 hg5 hat5
                   have HO5 := Lib.hid ho5
                   have HG5 := Lib.hid hg5
                   clear ho5 hg5 hat5)
      go_roundg (n / 2 - (j + 1))
      case measure => have := HJL.out; omega
      case rel =>
        refine ⟨j + 1, A5, c5, by omega, by rw [show (j + 1) * 2 = j * 2 + 2 by omega]; go_num, rfl, ?_, ?_⟩
        · rw [HPT.out]
          have hz := HPZ.out
          rw [show encP p = [.float .f64 p.x, .float .f64 p.y, .float .f64 0, .float .f64 0] by unfold encP; simp only [hz]]
          exact HO5.out
        · have hb6 := HBX.out
          have hb7 := hb6.alloc hb6.size (.cells #[.float .f64 p.x, .float .f64 p.y, .float .f64 0, .float .f64 0] 182)
          exact hb7.grown HG5.out hb7.size (fun r hr => (HOWN.out.lt r hr).1)
    · obtain rfl : j = n / 2 := by omega
      have htk : (plc 0 ns).take (n / 2) = plc 0 ns := List.take_of_length_le (by rw [plc_len, HL.out]; exact Nat.le_refl _)
      have e0 : (n : Int) < ((n / 2 : Nat) : Int) * 2 + 2 := by omega
      have e1 : (0 : Int) ≤ ((n / 2 : Nat) : Int) * 2 := by omega
      have e2 : ((n / 2 : Nat) : Int) * 2 ≤ 1073741824 := by omega
      have hown := HOWN.out
      rw [htk] at hown
      have HOW := Lib.hid hown
      obtain ⟨r, hr⟩ : ∃ r, r = n / 2 := ⟨_, rfl⟩
      rw [← hr] at HOW e0 e1 e2 ⊢
      have HR := Lib.hid hr
      clear htk hown hr HOWN HJL HA
      go_wp2_with fail
      refine bodyPost_ret (v := .slice A1 r k1) (by simp [results, go_sem]) rfl ⟨A1, k1, by rw [plc_len, HL.out, HR.out]; rfl, ⟨?_, fun _ a ha => (HOW.out.lt a.block (by rw [ha]; rfl)).1⟩, HBL2.out⟩
      have := Sl.of_own HOW.out
      rw [plc_len, HL.out]
      rw [HR.out] at this
      exact this

set_option maxHeartbeats 8000000 in
set_option maxRecDepth 100000 in
theorem places1 (A : Option Addr) (n c : Nat) (ns : List Nat) (hn : n ≤ 1073741824) {w : World} (hA : Sl w w.heap.size A n 1 (FL ns)) :
    Calls Tryz.prog 69 #[.slice A n c, .int .i64 1] w (PlPost w (plc 1 ns)) := by
  have hl : ns.length = n := by have := hA.1; rw [FL_len] at this; omega
  obtain ⟨i0, hi, hz0, hz1, hz2⟩ := info_parts infoPl
  have hwc := Lib.hid (show ∀ w, Calls Tryz.prog 28 #[.int .i64 1] w fun e w' => e = .returned (.int .i64 3) ∧ w' = w from fun w => width_calls (d := 1) (by decide) w)
  have HA := Lib.hid hA
  have HL := Lib.hid hl
  have hb1 : bits .and .i64 1 1 = 1 := by decide
  have hb2 : bits .and .i64 1 2 = 0 := by decide
  clear hA hl
  go_enter Tryz.func69, Tryz.ntmps69
  go_wp2_with fail
  refine (hwc.out _).mono ?_
  rintro e w9 ⟨rfl, hw9⟩
  replace hw9 := hw9.symm
  subst hw9
  go_wp2_with fail
  go_loopg [5, 7] (n / 3) (fun q pv ci wr => ∃ (j : Nat) (A1 : Option Addr) (k1 : Nat), j + q = n / 3 ∧ ci = .int .i64 ((j * 3 : Nat) : Int) ∧ pv = .slice A1 j k1 ∧ wr.ownsRow w.heap.size 182 4 (.slice A1 j k1) j (((plc 1 ns).take j).flatMap encP) ∧ Below w.heap.size w wr)
  case atStart => exact ⟨0, none, 0, by omega, by go_num, rfl, World.ownsRow_nil _ _ _ _, Below.refl _ _⟩
  case round =>
    obtain ⟨j, A1, k1, hj', rfl, rfl, hown, hbl⟩ := hrel
    have HJL := Lib.hid hj'
    have HOWN := Lib.hid hown
    have HBL2 := Lib.hid hbl
    have sr := hbl.size
    have hjn : j ≤ n / 3 := by omega
    rw [Int.natCast_mul]
    simp only [Int.cast_ofNat_Int]
    clear hj' hown hbl
    by_cases hlt : j < n / 3
    · have hjw : j * 3 + 3 ≤ n := by omega
      obtain ⟨b, off, hAe, hblk, hcell⟩ := HA.out.2.2 (by omega)
      subst hAe
      have hblr : b < wr.heap.size := Nat.lt_of_lt_of_le hblk sr
      have cell : ∀ k, k < n → wr.cell? ⟨b, off + k, none⟩ = some (.float .f64 (ns.getD k 0)) := fun k hk => (HBL2.out.cell (p := ⟨b, off + k, none⟩) hblk).trans (hcell k _ (FL_get (by rw [HL.out]; exact hk)))
      obtain ⟨p, hp⟩ : ∃ p, p = plAt 1 ns j := ⟨_, rfl⟩
      have HP := Lib.hid hp
      have HPT := pl_take (d := 1) (ns := ns) (j := j) (by rw [HL.out]; exact hlt)
      rw [← hp] at HPT
      have HPT := Lib.hid HPT
      have hx : wr.cell? ⟨b, off + j * 3, none⟩ = some (.float .f64 p.x) := by rw [hp]; exact cell (j * 3) (by omega)
      have hy : wr.cell? ⟨b, off + (j * 3 + 1), none⟩ = some (.float .f64 p.y) := by rw [hp]; exact cell (j * 3 + 1) (by omega)
      have hz : wr.cell? ⟨b, off + (j * 3 + 2), none⟩ = some (.float .f64 p.z) := by rw [hp]; exact cell (j * 3 + 2) (by omega)
      have HX := Lib.hid hx
      have HY := Lib.hid hy
      have HZ := Lib.hid hz
      have hpz : True ∧ p.m = 0 := by first | (rw [hp]; exact ⟨rfl, trivial⟩) | (rw [hp]; exact ⟨trivial, rfl⟩) | (rw [hp]; exact ⟨rfl, rfl⟩) | exact ⟨trivial, trivial⟩
      have HPZ := Lib.hid hpz
      have b0 : (0 : Int) ≤ (j : Int) * 3 := by omega
      have d0 : (j : Int) * 3 < (n : Int) := by omega
      have t0 : ((j : Int) * 3).toNat = j * 3 := by omega
      have u1 : IntKind.i64.wrap ((j : Int) * 3 + 1) = (j : Int) * 3 + 1 := IntWalk.i64_in _ (by omega)
      have b1 : (0 : Int) ≤ (j : Int) * 3 + 1 := by omega
      have d1 : (j : Int) * 3 + 1 < (n : Int) := by omega
      have t1 : ((j : Int) * 3 + 1).toNat = j * 3 + 1 := by omega
      have b2 : (0 : Int) ≤ (j : Int) * 3 + 2 := by omega
      have d2 : (j : Int) * 3 + 2 < (n : Int) := by omega
      have t2 : ((j : Int) * 3 + 2).toNat = j * 3 + 2 := by omega
      have e0 : (j : Int) * 3 + 3 ≤ (n : Int) := by omega
      have hA0 := (Below.refl wr.heap.size wr).drew
      clear hp hcell cell hpz hx hy hz
      go_wp2_with fail
      go_region_held3 (fun w' => Below wr.heap.size wr w' ∧ w'.cell? ⟨b, off + j * 3, none⟩ = some (.float .f64 p.x) ∧ w'.cell? ⟨b, off + (j * 3 + 1), none⟩ = some (.float .f64 p.y))
        (first
          | exact keepN (Below.refl _ _).drew hblr HX.out HY.out
          | exact keepN (hA0.alloc hA0.size _) hblr HX.out HY.out
          | exact keepN (Below.refl _ _) hblr HX.out HY.out)
        (first | fail | fail)
      clear u1
      have hs3 : b ≠ wr.heap.size := by omega
      obtain ⟨wX, hwX⟩ : ∃ wX, wX = (wr.alloc (.cells #[.float .f64 p.x, .float .f64 p.y, .float .f64 0, .float .f64 0] 182)).drew := ⟨_, rfl⟩
      have hbX : Below wr.heap.size wr wX := by rw [hwX]; exact ((Below.refl _ _).alloc (Nat.le_refl _) _).drew
      have hN : Blk wX wr.heap.size 182 #[.float .f64 p.x, .float .f64 p.y, .float .f64 0, .float .f64 0] := by rw [hwX]; exact (Blk.new _ _ _).of_heap rfl
      have hsX : wX.heap.size = wr.heap.size + 1 := by rw [hwX]; simp [World.drew]
      rw [← hwX]
      obtain ⟨n0, n1, n2, n3, m0, m1, m2, m3, nl⟩ := cells4 hN
      have HOX := Lib.hid (HOWN.out.kept (grown_below (row := none) hbX) (own_row _))
      have HBX := Lib.hid (HBL2.out.trans (hbX.mono HBL2.out.size))
      have HSX := Lib.hid hsX
      have hblX : b < wX.heap.size := by omega
      have fz := (hbX.cell (p := ⟨b, off + (j * 3 + 2), none⟩) hblr).trans HZ.out
      have hnb : (Value.slice A1 j k1).ownBlock = none ∨ (Value.slice A1 j k1).ownBlock ≠ some wr.heap.size := .inr (fun e => by have := (HOWN.out.lt _ e).2; omega)
      have HNB := Lib.hid hnb
      clear hbX hN hwX hsX hnb 
      go_wp2_with (at_builtin; have hnb := HNB.out; refine wpList_append_sl _ rfl (.tmp 50) (.tmp 52) 106 rfl w.heap.size 182 i0 _ 4 32 Tryz.underlying106 hi hz0 hz1 hz2 rfl (by decide) (.slice A1 j k1) j (((plc 1 ns).take j).flatMap encP) rfl ((((HOX.out).kept (grown_set _ ⟨wr.heap.size, 2, none⟩ _) hnb)).alloc _)
                     _ (some ⟨wX.heap.size, 0, none⟩) 1 1 [.float .f64 p.x, .float .f64 p.y, .float .f64 p.z, .float .f64 0] rfl (by have h := slBlk (n := 1) (c := 4) (heap_alloc_new (wX.setCell ⟨wr.heap.size, 2, none⟩ (.float .f64 p.z)) (.cells #[.float .f64 p.x, .float .f64 p.y, .float .f64 p.z, .float .f64 0] 182)) rfl (by unfold maxLen; omega); simpa using h) (encP_one ⟨p.x, p.y, p.z, 0⟩) (by unfold maxLen; omega) (by omega) (by simp; omega) ?_; intro A5 c5 w5 ho5 hg5 hat5
                   have HO5 := Lib.hid ho5
                   have HG5 := Lib.hid hg5
                   clear ho5 hg5 hat5)
      go_roundg (n / 3 - (j + 1))
      case measure => have := HJL.out; omega
      case rel =>
        refine ⟨j + 1, A5, c5, by omega, by rw [show (j + 1) * 3 = j * 3 + 3 by omega]; go_num, rfl, ?_, ?_⟩
        · rw [HPT.out]
          have hz := HPZ.out
          rw [show encP p = [.float .f64 p.x, .float .f64 p.y, .float .f64 p.z, .float .f64 0] by unfold encP; simp only [hz]]
          exact HO5.out
        · have hb6 := ((HBX.out).setCell (p := ⟨wr.heap.size, 2, none⟩) sr (.float .f64 p.z))
          have hb7 := hb6.alloc hb6.size (.cells #[.float .f64 p.x, .float .f64 p.y, .float .f64 p.z, .float .f64 0] 182)
          exact hb7.grown HG5.out hb7.size (fun r hr => (HOWN.out.lt r hr).1)
    · obtain rfl : j = n / 3 := by omega
      have htk : (plc 1 ns).take (n / 3) = plc 1 ns := List.take_of_length_le (by rw [plc_len, HL.out]; exact Nat.le_refl _)
      have e0 : (n : Int) < ((n / 3 : Nat) : Int) * 3 + 3 := by omega
      have e1 : (0 : Int) ≤ ((n / 3 : Nat) : Int) * 3 := by omega
      have e2 : ((n / 3 : Nat) : Int) * 3 ≤ 1073741824 := by omega
      have hown := HOWN.out
      rw [htk] at hown
      have HOW := Lib.hid hown
      obtain ⟨r, hr⟩ : ∃ r, r = n / 3 := ⟨_, rfl⟩
      rw [← hr] at HOW e0 e1 e2 ⊢
      have HR := Lib.hid hr
      clear htk hown hr HOWN HJL HA
      go_wp2_with fail
      refine bodyPost_ret (v := .slice A1 r k1) (by simp [results, go_sem]) rfl ⟨A1, k1, by rw [plc_len, HL.out, HR.out]; rfl, ⟨?_, fun _ a ha => (HOW.out.lt a.block (by rw [ha]; rfl)).1⟩, HBL2.out⟩
      have := Sl.of_own HOW.out
      rw [plc_len, HL.out]
      rw [HR.out] at this
      exact this

set_option maxHeartbeats 8000000 in
set_option maxRecDepth 100000 in
theorem places2 (A : Option Addr) (n c : Nat) (ns : List Nat) (hn : n ≤ 1073741824) {w : World} (hA : Sl w w.heap.size A n 1 (FL ns)) :
    Calls Tryz.prog 69 #[.slice A n c, .int .i64 2] w (PlPost w (plc 2 ns)) := by
  have hl : ns.length = n := by have := hA.1; rw [FL_len] at this; omega
  obtain ⟨i0, hi, hz0, hz1, hz2⟩ := info_parts infoPl
  have hwc := Lib.hid (show ∀ w, Calls Tryz.prog 28 #[.int .i64 2] w fun e w' => e = .returned (.int .i64 3) ∧ w' = w from fun w => width_calls (d := 2) (by decide) w)
  have HA := Lib.hid hA
  have HL := Lib.hid hl
  have hb1 : bits .and .i64 2 1 = 0 := by decide
  have hb2 : bits .and .i64 2 2 = 2 := by decide
  clear hA hl
  go_enter Tryz.func69, Tryz.ntmps69
  go_wp2_with fail
  refine (hwc.out _).mono ?_
  rintro e w9 ⟨rfl, hw9⟩
  replace hw9 := hw9.symm
  subst hw9
  go_wp2_with fail
  go_loopg [5, 7] (n / 3) (fun q pv ci wr => ∃ (j : Nat) (A1 : Option Addr) (k1 : Nat), j + q = n / 3 ∧ ci = .int .i64 ((j * 3 : Nat) : Int) ∧ pv = .slice A1 j k1 ∧ wr.ownsRow w.heap.size 182 4 (.slice A1 j k1) j (((plc 2 ns).take j).flatMap encP) ∧ Below w.heap.size w wr)
  case atStart => exact ⟨0, none, 0, by omega, by go_num, rfl, World.ownsRow_nil _ _ _ _, Below.refl _ _⟩
  case round =>
    obtain ⟨j, A1, k1, hj', rfl, rfl, hown, hbl⟩ := hrel
    have HJL := Lib.hid hj'
    have HOWN := Lib.hid hown
    have HBL2 := Lib.hid hbl
    have sr := hbl.size
    have hjn : j ≤ n / 3 := by omega
    rw [Int.natCast_mul]
    simp only [Int.cast_ofNat_Int]
    clear hj' hown hbl
    by_cases hlt : j < n / 3
    · have hjw : j * 3 + 3 ≤ n := by omega
      obtain ⟨b, off, hAe, hblk, hcell⟩ := HA.out.2.2 (by omega)
      subst hAe
      have hblr : b < wr.heap.size := Nat.lt_of_lt_of_le hblk sr
      have cell : ∀ k, k < n → wr.cell? ⟨b, off + k, none⟩ = some (.float .f64 (ns.getD k 0)) := fun k hk => (HBL2.out.cell (p := ⟨b, off + k, none⟩) hblk).trans (hcell k _ (FL_get (by rw [HL.out]; exact hk)))
      obtain ⟨p, hp⟩ : ∃ p, p = plAt 2 ns j := ⟨_, rfl⟩
      have HP := Lib.hid hp
      have HPT := pl_take (d := 2) (ns := ns) (j := j) (by rw [HL.out]; exact hlt)
      rw [← hp] at HPT
      have HPT := Lib.hid HPT
      have hx : wr.cell? ⟨b, off + j * 3, none⟩ = some (.float .f64 p.x) := by rw [hp]; exact cell (j * 3) (by omega)
      have hy : wr.cell? ⟨b, off + (j * 3 + 1), none⟩ = some (.float .f64 p.y) := by rw [hp]; exact cell (j * 3 + 1) (by omega)
      have hm : wr.cell? ⟨b, off + (j * 3 + 2), none⟩ = some (.float .f64 p.m) := by rw [hp]; exact cell (j * 3 + 2) (by omega)
      have HX := Lib.hid hx
      have HY := Lib.hid hy
      have HM := Lib.hid hm
      have hpz : p.z = 0 ∧ True := by first | (rw [hp]; exact ⟨rfl, trivial⟩) | (rw [hp]; exact ⟨trivial, rfl⟩) | (rw [hp]; exact ⟨rfl, rfl⟩) | exact ⟨trivial, trivial⟩
      have HPZ := Lib.hid hpz
      have b0 : (0 : Int) ≤ (j : Int) * 3 := by omega
      have d0 : (j : Int) * 3 < (n : Int) := by omega
      have t0 : ((j : Int) * 3).toNat = j * 3 := by omega
      have u1 : IntKind.i64.wrap ((j : Int) * 3 + 1) = (j : Int) * 3 + 1 := IntWalk.i64_in _ (by omega)
      have b1 : (0 : Int) ≤ (j : Int) * 3 + 1 := by omega
      have d1 : (j : Int) * 3 + 1 < (n : Int) := by omega
      have t1 : ((j : Int) * 3 + 1).toNat = j * 3 + 1 := by omega
      have b2 : (0 : Int) ≤ (j : Int) * 3 + 2 := by omega
      have d2 : (j : Int) * 3 + 2 < (n : Int) := by omega
      have t2 : ((j : Int) * 3 + 2).toNat = j * 3 + 2 := by omega
      have e0 : (j : Int) * 3 + 3 ≤ (n : Int) := by omega
      have hA0 := (Below.refl wr.heap.size wr).drew
      clear hp hcell cell hpz hx hy hm
      go_wp2_with fail
      go_region_held3 (fun w' => Below wr.heap.size wr w' ∧ w'.cell? ⟨b, off + j * 3, none⟩ = some (.float .f64 p.x) ∧ w'.cell? ⟨b, off + (j * 3 + 1), none⟩ = some (.float .f64 p.y))
        (first
          | exact keepN (Below.refl _ _).drew hblr HX.out HY.out
          | exact keepN (hA0.alloc hA0.size _) hblr HX.out HY.out
          | exact keepN (Below.refl _ _) hblr HX.out HY.out)
        (first | fail | fail)
      clear u1
      have hs3 : b ≠ wr.heap.size := by omega
      obtain ⟨wX, hwX⟩ : ∃ wX, wX = (wr.alloc (.cells #[.float .f64 p.x, .float .f64 p.y, .float .f64 0, .float .f64 0] 182)).drew := ⟨_, rfl⟩
      have hbX : Below wr.heap.size wr wX := by rw [hwX]; exact ((Below.refl _ _).alloc (Nat.le_refl _) _).drew
      have hN : Blk wX wr.heap.size 182 #[.float .f64 p.x, .float .f64 p.y, .float .f64 0, .float .f64 0] := by rw [hwX]; exact (Blk.new _ _ _).of_heap rfl
      have hsX : wX.heap.size = wr.heap.size + 1 := by rw [hwX]; simp [World.drew]
      rw [← hwX]
      obtain ⟨n0, n1, n2, n3, m0, m1, m2, m3, nl⟩ := cells4 hN
      have HOX := Lib.hid (HOWN.out.kept (grown_below (row := none) hbX) (own_row _))
      have HBX := Lib.hid (HBL2.out.trans (hbX.mono HBL2.out.size))
      have HSX := Lib.hid hsX
      have hblX : b < wX.heap.size := by omega
      have fm := (hbX.cell (p := ⟨b, off + (j * 3 + 2), none⟩) hblr).trans HM.out
      have hnb : (Value.slice A1 j k1).ownBlock = none ∨ (Value.slice A1 j k1).ownBlock ≠ some wr.heap.size := .inr (fun e => by have := (HOWN.out.lt _ e).2; omega)
      have HNB := Lib.hid hnb
      clear hbX hN hwX hsX hnb 
      go_wp2_with (at_builtin; have hnb := HNB.out; refine wpList_append_sl _ rfl (.tmp 50) (.tmp 52) 106 rfl w.heap.size 182 i0 _ 4 32 Tryz.underlying106 hi hz0 hz1 hz2 rfl (by decide) (.slice A1 j k1) j (((plc 2 ns).take j).flatMap encP) rfl ((((HOX.out).kept (grown_set _ ⟨wr.heap.size, 3, none⟩ _) hnb)).alloc _)
                     _ (some ⟨wX.heap.size, 0, none⟩) 1 1 [.float .f64 p.x, .float .f64 p.y, .float .f64 0, .float .f64 p.m] rfl (by have h := slBlk (n := 1) (c := 4) (heap_alloc_new (wX.setCell ⟨wr.heap.size, 3, none⟩ (.float .f64 p.m)) (.cells #[.float .f64 p.x, .float .f64 p.y, .float .f64 0, .float .f64 p.m] 182)) rfl (by unfold maxLen; omega); simpa using h) (encP_one ⟨p.x, p.y, 0, p.m⟩) (by unfold maxLen; omega) (by omega) (by simp; omega) ?_; intro A5 c5 w5 ho5 hg5 hat5
                   have HO5 := Lib.hid ho5
                   have HG5 := Lib.hid hg5
                   clear ho5 hg5 hat5)
      go_roundg (n / 3 - (j + 1))
      case measure => have := HJL.out; omega
      case rel =>
        refine ⟨j + 1, A5, c5, by omega, by rw [show (j + 1) * 3 = j * 3 + 3 by omega]; go_num, rfl, ?_, ?_⟩
        · rw [HPT.out]
          have hz := HPZ.out
          rw [show encP p = [.float .f64 p.x, .float .f64 p.y, .float .f64 0, .float .f64 p.m] by unfold encP; simp only [hz]]
          exact HO5.out
        · have hb6 := ((HBX.out).setCell (p := ⟨wr.heap.size, 3, none⟩) sr (.float .f64 p.m))
          have hb7 := hb6.alloc hb6.size (.cells #[.float .f64 p.x, .float .f64 p.y, .float .f64 0, .float .f64 p.m] 182)
          exact hb7.grown HG5.out hb7.size (fun r hr => (HOWN.out.lt r hr).1)
    · obtain rfl : j = n / 3 := by omega
      have htk : (plc 2 ns).take (n / 3) = plc 2 ns := List.take_of_length_le (by rw [plc_len, HL.out]; exact Nat.le_refl _)
      have e0 : (n : Int) < ((n / 3 : Nat) : Int) * 3 + 3 := by omega
      have e1 : (0 : Int) ≤ ((n / 3 : Nat) : Int) * 3 := by omega
      have e2 : ((n / 3 : Nat) : Int) * 3 ≤ 1073741824 := by omega
      have hown := HOWN.out
      rw [htk] at hown
      have HOW := Lib.hid hown
      obtain ⟨r, hr⟩ : ∃ r, r = n / 3 := ⟨_, rfl⟩
      rw [← hr] at HOW e0 e1 e2 ⊢
      have HR := Lib.hid hr
      clear htk hown hr HOWN HJL HA
      go_wp2_with fail
      refine bodyPost_ret (v := .slice A1 r k1) (by simp [results, go_sem]) rfl ⟨A1, k1, by rw [plc_len, HL.out, HR.out]; rfl, ⟨?_, fun _ a ha => (HOW.out.lt a.block (by rw [ha]; rfl)).1⟩, HBL2.out⟩
      have := Sl.of_own HOW.out
      rw [plc_len, HL.out]
      rw [HR.out] at this
      exact this

set_option maxHeartbeats 8000000 in
set_option maxRecDepth 100000 in
theorem places3 (A : Option Addr) (n c : Nat) (ns : List Nat) (hn : n ≤ 1073741824) {w : World} (hA : Sl w w.heap.size A n 1 (FL ns)) :
    Calls Tryz.prog 69 #[.slice A n c, .int .i64 3] w (PlPost w (plc 3 ns)) := by
  have hl : ns.length = n := by have := hA.1; rw [FL_len] at this; omega
  obtain ⟨i0, hi, hz0, hz1, hz2⟩ := info_parts infoPl
  have hwc := Lib.hid (show ∀ w, Calls Tryz.prog 28 #[.int .i64 3] w fun e w' => e = .returned (.int .i64 4) ∧ w' = w from fun w => width_calls (d := 3) (by decide) w)
  have HA := Lib.hid hA
  have HL := Lib.hid hl
  have hb1 : bits .and .i64 3 1 = 1 := by decide
  have hb2 : bits .and .i64 3 2 = 2 := by decide
  clear hA hl
  go_enter Tryz.func69, Tryz.ntmps69
  go_wp2_with fail
  refine (hwc.out _).mono ?_
  rintro e w9 ⟨rfl, hw9⟩
  replace hw9 := hw9.symm
  subst hw9
  go_wp2_with fail
  go_loopg [5, 7] (n / 4) (fun q pv ci wr => ∃ (j : Nat) (A1 : Option Addr) (k1 : Nat), j + q = n / 4 ∧ ci = .int .i64 ((j * 4 : Nat) : Int) ∧ pv = .slice A1 j k1 ∧ wr.ownsRow w.heap.size 182 4 (.slice A1 j k1) j (((plc 3 ns).take j).flatMap encP) ∧ Below w.heap.size w wr)
  case atStart => exact ⟨0, none, 0, by omega, by go_num, rfl, World.ownsRow_nil _ _ _ _, Below.refl _ _⟩
  case round =>
    obtain ⟨j, A1, k1, hj', rfl, rfl, hown, hbl⟩ := hrel
    have HJL := Lib.hid hj'
    have HOWN := Lib.hid hown
    have HBL2 := Lib.hid hbl
    have sr := hbl.size
    have hjn : j ≤ n / 4 := by omega
    rw [Int.natCast_mul]
    simp only [Int.cast_ofNat_Int]
    clear hj' hown hbl
    by_cases hlt : j < n / 4
    · have hjw : j * 4 + 4 ≤ n := by omega
      obtain ⟨b, off, hAe, hblk, hcell⟩ := HA.out.2.2 (by omega)
      subst hAe
      have hblr : b < wr.heap.size := Nat.lt_of_lt_of_le hblk sr
      have cell : ∀ k, k < n → wr.cell? ⟨b, off + k, none⟩ = some (.float .f64 (ns.getD k 0)) := fun k hk => (HBL2.out.cell (p := ⟨b, off + k, none⟩) hblk).trans (hcell k _ (FL_get (by rw [HL.out]; exact hk)))
      obtain ⟨p, hp⟩ : ∃ p, p = plAt 3 ns j := ⟨_, rfl⟩
      have HP := Lib.hid hp
      have HPT := pl_take (d := 3) (ns := ns) (j := j) (by rw [HL.out]; exact hlt)
      rw [← hp] at HPT
      have HPT := Lib.hid HPT
      have hx : wr.cell? ⟨b, off + j * 4, none⟩ = some (.float .f64 p.x) := by rw [hp]; exact cell (j * 4) (by omega)
      have hy : wr.cell? ⟨b, off + (j * 4 + 1), none⟩ = some (.float .f64 p.y) := by rw [hp]; exact cell (j * 4 + 1) (by omega)
      have hz : wr.cell? ⟨b, off + (j * 4 + 2), none⟩ = some (.float .f64 p.z) := by rw [hp]; exact cell (j * 4 + 2) (by omega)
      have hm : wr.cell? ⟨b, off + (j * 4 + 3), none⟩ = some (.float .f64 p.m) := by rw [hp]; exact cell (j * 4 + 3) (by omega)
      have HX := Lib.hid hx
      have HY := Lib.hid hy
      have HZ := Lib.hid hz
      have HM := Lib.hid hm
      have hpz : True ∧ True := by first | (rw [hp]; exact ⟨rfl, trivial⟩) | (rw [hp]; exact ⟨trivial, rfl⟩) | (rw [hp]; exact ⟨rfl, rfl⟩) | exact ⟨trivial, trivial⟩
      have HPZ := Lib.hid hpz
      have b0 : (0 : Int) ≤ (j : Int) * 4 := by omega
      have d0 : (j : Int) * 4 < (n : Int) := by omega
      have t0 : ((j : Int) * 4).toNat = j * 4 := by omega
      have u1 : IntKind.i64.wrap ((j : Int) * 4 + 1) = (j : Int) * 4 + 1 := IntWalk.i64_in _ (by omega)
      have b1 : (0 : Int) ≤ (j : Int) * 4 + 1 := by omega
      have d1 : (j : Int) * 4 + 1 < (n : Int) := by omega
      have t1 : ((j : Int) * 4 + 1).toNat = j * 4 + 1 := by omega
      have b2 : (0 : Int) ≤ (j : Int) * 4 + 2 := by omega
      have d2 : (j : Int) * 4 + 2 < (n : Int) := by omega
      have t2 : ((j : Int) * 4 + 2).toNat = j * 4 + 2 := by omega
      have b3 : (0 : Int) ≤ (j : Int) * 4 + 3 := by omega
      have d3 : (j : Int) * 4 + 3 < (n : Int) := by omega
      have t3 : ((j : Int) * 4 + 3).toNat = j * 4 + 3 := by omega
      have e0 : (j : Int) * 4 + 4 ≤ (n : Int) := by omega
      have hA0 := (Below.refl wr.heap.size wr).drew
      clear hp hcell cell hpz hx hy hz hm
      go_wp2_with fail
      go_region_held3 (fun w' => Below wr.heap.size wr w' ∧ w'.cell? ⟨b, off + j * 4, none⟩ = some (.float .f64 p.x) ∧ w'.cell? ⟨b, off + (j * 4 + 1), none⟩ = some (.float .f64 p.y))
        (first
          | exact keepN (Below.refl _ _).drew hblr HX.out HY.out
          | exact keepN (hA0.alloc hA0.size _) hblr HX.out HY.out
          | exact keepN (Below.refl _ _) hblr HX.out HY.out)
        (first | fail | fail)
      clear u1
      have hs3 : b ≠ wr.heap.size := by omega
      obtain ⟨wX, hwX⟩ : ∃ wX, wX = (wr.alloc (.cells #[.float .f64 p.x, .float .f64 p.y, .float .f64 0, .float .f64 0] 182)).drew := ⟨_, rfl⟩
      have hbX : Below wr.heap.size wr wX := by rw [hwX]; exact ((Below.refl _ _).alloc (Nat.le_refl _) _).drew
      have hN : Blk wX wr.heap.size 182 #[.float .f64 p.x, .float .f64 p.y, .float .f64 0, .float .f64 0] := by rw [hwX]; exact (Blk.new _ _ _).of_heap rfl
      have hsX : wX.heap.size = wr.heap.size + 1 := by rw [hwX]; simp [World.drew]
      rw [← hwX]
      obtain ⟨n0, n1, n2, n3, m0, m1, m2, m3, nl⟩ := cells4 hN
      have HOX := Lib.hid (HOWN.out.kept (grown_below (row := none) hbX) (own_row _))
      have HBX := Lib.hid (HBL2.out.trans (hbX.mono HBL2.out.size))
      have HSX := Lib.hid hsX
      have hblX : b < wX.heap.size := by omega
      have fz := (hbX.cell (p := ⟨b, off + (j * 4 + 2), none⟩) hblr).trans HZ.out
      have fm := (hbX.cell (p := ⟨b, off + (j * 4 + 3), none⟩) hblr).trans HM.out
      have hnb : (Value.slice A1 j k1).ownBlock = none ∨ (Value.slice A1 j k1).ownBlock ≠ some wr.heap.size := .inr (fun e => by have := (HOWN.out.lt _ e).2; omega)
      have HNB := Lib.hid hnb
      clear hbX hN hwX hsX hnb 
      go_wp2_with (at_builtin; have hnb := HNB.out; refine wpList_append_sl _ rfl (.tmp 50) (.tmp 52) 106 rfl w.heap.size 182 i0 _ 4 32 Tryz.underlying106 hi hz0 hz1 hz2 rfl (by decide) (.slice A1 j k1) j (((plc 3 ns).take j).flatMap encP) rfl ((((((HOX.out).kept (grown_set _ ⟨wr.heap.size, 2, none⟩ _) hnb)).kept (grown_set _ ⟨wr.heap.size, 3, none⟩ _) hnb)).alloc _)
                     _ (some ⟨wX.heap.size, 0, none⟩) 1 1 [.float .f64 p.x, .float .f64 p.y, .float .f64 p.z, .float .f64 p.m] rfl (by have h := slBlk (n := 1) (c := 4) (heap_alloc_new ((wX.setCell ⟨wr.heap.size, 2, none⟩ (.float .f64 p.z)).setCell ⟨wr.heap.size, 3, none⟩ (.float .f64 p.m)) (.cells #[.float .f64 p.x, .float .f64 p.y, .float .f64 p.z, .float .f64 p.m] 182)) rfl (by unfold maxLen; omega); simpa using h) (encP_one ⟨p.x, p.y, p.z, p.m⟩) (by unfold maxLen; omega) (by omega) (by simp; omega) ?_; intro A5 c5 w5 ho5 hg5 hat5
                   have HO5 := Lib.hid ho5
                   have HG5 := Lib.hid hg5
                   clear ho5 hg5 hat5)
      go_roundg (n / 4 - (j + 1))
      case measure => have := HJL.out; omega
      case rel =>
        refine ⟨j + 1, A5, c5, by omega, by rw [show (j + 1) * 4 = j * 4 + 4 by omega]; go_num, rfl, ?_, ?_⟩
        · rw [HPT.out]
          have hz := HPZ.out
          rw [show encP p = [.float .f64 p.x, .float .f64 p.y, .float .f64 p.z, .float .f64 p.m] by unfold encP; simp only [hz]]
          exact HO5.out
        · have hb6 := ((((HBX.out).setCell (p := ⟨wr.heap.size, 2, none⟩) sr (.float .f64 p.z))).setCell (p := ⟨wr.heap.size, 3, none⟩) sr (.float .f64 p.m))
          have hb7 := hb6.alloc hb6.size (.cells #[.float .f64 p.x, .float .f64 p.y, .float .f64 p.z, .float .f64 p.m] 182)
          exact hb7.grown HG5.out hb7.size (fun r hr => (HOWN.out.lt r hr).1)
    · obtain rfl : j = n / 4 := by omega
      have htk : (plc 3 ns).take (n / 4) = plc 3 ns := List.take_of_length_le (by rw [plc_len, HL.out]; exact Nat.le_refl _)
      have e0 : (n : Int) < ((n / 4 : Nat) : Int) * 4 + 4 := by omega
      have e1 : (0 : Int) ≤ ((n / 4 : Nat) : Int) * 4 := by omega
      have e2 : ((n / 4 : Nat) : Int) * 4 ≤ 1073741824 := by omega
      have hown := HOWN.out
      rw [htk] at hown
      have HOW := Lib.hid hown
      obtain ⟨r, hr⟩ : ∃ r, r = n / 4 := ⟨_, rfl⟩
      rw [← hr] at HOW e0 e1 e2 ⊢
      have HR := Lib.hid hr
      clear htk hown hr HOWN HJL HA
      go_wp2_with fail
      refine bodyPost_ret (v := .slice A1 r k1) (by simp [results, go_sem]) rfl ⟨A1, k1, by rw [plc_len, HL.out, HR.out]; rfl, ⟨?_, fun _ a ha => (HOW.out.lt a.block (by rw [ha]; rfl)).1⟩, HBL2.out⟩
      have := Sl.of_own HOW.out
      rw [plc_len, HL.out]
      rw [HR.out] at this
      exact this

set_option maxHeartbeats 8000000 in
set_option maxRecDepth 100000 in
theorem nums0 (A : Option Addr) (c : Nat) (l : List Pl) (hn : l.length ≤ 1073741824) {w : World} (hA : Sl w w.heap.size A l.length 4 (l.flatMap encP)) :
    Calls Tryz.prog 68 #[.slice A l.length c, .int .i64 0] w (NumPost w (l.flatMap (emit 0))) := by
  obtain ⟨i0, hi, hz0, hz1, hz2⟩ := info_parts infoF
  obtain ⟨n, hnn⟩ : ∃ n, n = l.length := ⟨_, rfl⟩
  have HA := Lib.hid hA
  have HN := Lib.hid hnn
  have hb1 : bits .and .i64 0 1 = 0 := by decide
  have hb2 : bits .and .i64 0 2 = 0 := by decide
  rw [← hnn] at hn ⊢
  clear hA hnn
  go_enter Tryz.func68, Tryz.ntmps68
  go_wp2_with fail
  go_loopg [5, 10] n (fun q pv ci wr => ∃ (j : Nat) (A1 : Option Addr) (k1 : Nat), j + q = n ∧ ci = .int .i64 (j : Nat) ∧ pv = .slice A1 (j * 2) k1 ∧ j * 2 ≤ k1 ∧ wr.ownsRow w.heap.size 31 1 (.slice A1 (j * 2) k1) (j * 2) (FL ((l.take j).flatMap (emit 0))) ∧ Below w.heap.size w wr)
  case atStart => exact ⟨0, none, 0, by omega, by go_num, by simp, by omega, by simpa [FL] using World.ownsRow_nil _ _ _ _, Below.refl _ _⟩
  case round =>
    obtain ⟨j, A1, k1, hj', rfl, rfl, hjk, hown, hbl⟩ := hrel
    have HJL := Lib.hid hj'
    have HOWN := Lib.hid hown
    have HBL2 := Lib.hid hbl
    have sr := hbl.size
    have hjn : j ≤ n := by omega
    clear hj' hown hbl
    by_cases hlt : j < n
    · have hik : j < l.length := by rw [← HN.out]; exact hlt
      obtain ⟨p, hp⟩ : ∃ p, l[j]? = some p := ⟨l[j], List.getElem?_eq_getElem hik⟩
      obtain ⟨b, off, hAe, hblk, hcell⟩ := sl_part HA.out (fun g _ => encP_len g) (by omega)
      subst hAe
      have HPT := Lib.hid (show (l.take (j + 1)).flatMap (emit 0) = (l.take j).flatMap (emit 0) ++ emit 0 p from by
        rw [List.take_add_one, hp, List.flatMap_append]; simp)
      have d0 := (HBL2.out.cell (p := ⟨b, off + (j * 4 + 0), none⟩) hblk).trans (hcell j _ hp 0 _ rfl)
      have d1 := (HBL2.out.cell (p := ⟨b, off + (j * 4 + 1), none⟩) hblk).trans (hcell j _ hp 1 _ rfl)
      have d2 := (HBL2.out.cell (p := ⟨b, off + (j * 4 + 2), none⟩) hblk).trans (hcell j _ hp 2 _ rfl)
      have d3 := (HBL2.out.cell (p := ⟨b, off + (j * 4 + 3), none⟩) hblk).trans (hcell j _ hp 3 _ rfl)
      rw [Nat.add_zero] at d0
      rw [← Nat.add_assoc] at d1 d2 d3
      have hltI : (j : Int) < (n : Int) := by omega
      have hbX : Below wr.heap.size wr (wr.alloc (.cells #[.float .f64 p.x, .float .f64 p.y, .float .f64 p.z, .float .f64 p.m] 182)) := (Below.refl _ _).alloc (Nat.le_refl _) _
      have HW0 := Lib.hid (HBL2.out.trans (hbX.mono HBL2.out.size))
      have HO0 := Lib.hid (HOWN.out.kept (grown_below (row := none) hbX) (own_row _))
      obtain ⟨wX, hwX⟩ : ∃ wX, wX = wr.alloc (.cells #[.float .f64 p.x, .float .f64 p.y, .float .f64 p.z, .float .f64 p.m] 182) := ⟨_, rfl⟩
      have hN0 : Blk wX wr.heap.size 182 #[.float .f64 p.x, .float .f64 p.y, .float .f64 p.z, .float .f64 p.m] := by rw [hwX]; exact Blk.new _ _ _
      rw [← hwX] at HW0 HO0
      have HN0 := Lib.hid hN0
      have HWX := Lib.hid hwX
      have HSX := Lib.hid (show wX.heap.size = wr.heap.size + 1 from by rw [hwX]; simp)
      have HNE0 := Lib.hid (show (Value.slice A1 (j * 2) k1).ownBlock ≠ some wr.heap.size from fun e => by have := (HOWN.out.lt _ e).2; omega)
      clear hp hcell hik hbX hwX hN0
      go_wp2_with (first
                    | (at_builtin; rw [← HWX.out]; refine wpList_append_sl _ rfl (.tmp 14) (.tmp 19) 22 rfl w.heap.size 31 i0 _ 1 8 Tryz.underlying22 hi hz0 hz1 hz2 rfl (by decide) (.slice A1 (j * 2) k1) (j * 2) (FL ((l.take j).flatMap (emit 0))) rfl (HO0.out.alloc _)
                         _ (some ⟨wr.heap.size + 1, 0, none⟩) 2 2 [.float .f64 p.x, .float .f64 p.y] rfl (by have h := slBlk (n := 2) (c := 1) (heap_alloc_new wX (.cells #[.float .f64 p.x, .float .f64 p.y] 31)) rfl (by unfold maxLen; omega); rw [HSX.out] at h; exact h) (FL_one [p.x, p.y]) (by unfold maxLen; omega) (by omega) (by have := HW0.out.size; simp; omega) ?_; intro B1 e1 w1 ho1 hg1 ha1
                       have HO1 := Lib.hid ho1
                       have hbb1 := HW0.out.alloc HW0.out.size (.cells #[.float .f64 p.x, .float .f64 p.y] 31)
                       have HW1 := Lib.hid (hbb1.grown hg1 hbb1.size (fun r hr => (HO0.out.lt r hr).1))
                       have HN1 := Lib.hid ((HN0.out.alloc (.cells #[.float .f64 p.x, .float .f64 p.y] 31)).grown hg1 (fun e => HNE0.out e.symm))
                       have HNE1 := Lib.hid (show (Value.slice B1 (j * 2 + 2) e1).ownBlock ≠ some wr.heap.size from fun e => by
                         rcases ha1 with h | h
                         · exact HNE0.out (h.symm.trans e)
                         · rw [h] at e
                           have h1 := Option.some.inj e
                           have h2 := HN0.out.lt
                           have h3 : (wX.alloc (.cells #[.float .f64 p.x, .float .f64 p.y] 31)).heap.size = wX.heap.size + 1 := by simp
                           omega)
                       obtain ⟨q0, q1, q2, q3, -, -, -, -, ql⟩ := cells4 HN1.out
                       clear ho1 hg1 ha1 hbb1))
      go_roundg (n - (j + 1))
      case measure => have := HJL.out; omega
      case rel =>
        have hcap : j * 2 + 2 ≤ e1 := by
          rcases HO1.out.2 with ⟨hbad, h0⟩ | ⟨g, cap, cur, hv, _, _, h1, _⟩
          · omega
          · simp only [Value.slice.injEq] at hv
            omega
        refine ⟨j + 1, B1, e1, by omega, by go_num, by rw [show (j + 1) * 2 = j * 2 + 2 by omega], by omega, ?_, HW1.out⟩
        rw [HPT.out, FL_app, show (j + 1) * 2 = j * 2 + 2 by omega]
        have := HO1.out
        simpa [emit, hz, hm, FL, List.append_assoc] using this
    · obtain rfl : j = n := by omega
      have hltI : (j : Int) ≤ (j : Int) := Int.le_refl _
      have htk : l.take j = l := List.take_of_length_le (by rw [← HN.out]; exact Nat.le_refl _)
      have hown := HOWN.out
      rw [htk] at hown
      have HOW := Lib.hid hown
      have hlen : (l.flatMap (emit 0)).length = j * 2 := by rw [flat_len (by decide), ← HN.out]; rfl
      have HLN := Lib.hid hlen
      clear htk hown HOWN HA hlen
      go_wp2_with fail
      refine bodyPost_ret (v := .slice A1 (j * 2) k1) (by simp [results, go_sem]) rfl ⟨A1, k1, by rw [HLN.out], by rw [HLN.out]; exact hjk, ⟨?_, fun _ a ha => (HOW.out.lt a.block (by rw [ha]; rfl)).1⟩, HBL2.out⟩
      rw [HLN.out]
      exact Sl.of_own HOW.out

set_option maxHeartbeats 8000000 in
set_option maxRecDepth 100000 in
theorem nums1 (A : Option Addr) (c : Nat) (l : List Pl) (hn : l.length ≤ 1073741824) {w : World} (hA : Sl w w.heap.size A l.length 4 (l.flatMap encP)) :
    Calls Tryz.prog 68 #[.slice A l.length c, .int .i64 1] w (NumPost w (l.flatMap (emit 1))) := by
  obtain ⟨i0, hi, hz0, hz1, hz2⟩ := info_parts infoF
  obtain ⟨n, hnn⟩ : ∃ n, n = l.length := ⟨_, rfl⟩
  have HA := Lib.hid hA
  have HN := Lib.hid hnn
  have hb1 : bits .and .i64 1 1 = 1 := by decide
  have hb2 : bits .and .i64 1 2 = 0 := by decide
  rw [← hnn] at hn ⊢
  clear hA hnn
  go_enter Tryz.func68, Tryz.ntmps68
  go_wp2_with fail
  go_loopg [5, 10] n (fun q pv ci wr => ∃ (j : Nat) (A1 : Option Addr) (k1 : Nat), j + q = n ∧ ci = .int .i64 (j : Nat) ∧ pv = .slice A1 (j * 3) k1 ∧ j * 3 ≤ k1 ∧ wr.ownsRow w.heap.size 31 1 (.slice A1 (j * 3) k1) (j * 3) (FL ((l.take j).flatMap (emit 1))) ∧ Below w.heap.size w wr)
  case atStart => exact ⟨0, none, 0, by omega, by go_num, by simp, by omega, by simpa [FL] using World.ownsRow_nil _ _ _ _, Below.refl _ _⟩
  case round =>
    obtain ⟨j, A1, k1, hj', rfl, rfl, hjk, hown, hbl⟩ := hrel
    have HJL := Lib.hid hj'
    have HOWN := Lib.hid hown
    have HBL2 := Lib.hid hbl
    have sr := hbl.size
    have hjn : j ≤ n := by omega
    clear hj' hown hbl
    by_cases hlt : j < n
    · have hik : j < l.length := by rw [← HN.out]; exact hlt
      obtain ⟨p, hp⟩ : ∃ p, l[j]? = some p := ⟨l[j], List.getElem?_eq_getElem hik⟩
      obtain ⟨b, off, hAe, hblk, hcell⟩ := sl_part HA.out (fun g _ => encP_len g) (by omega)
      subst hAe
      have HPT := Lib.hid (show (l.take (j + 1)).flatMap (emit 1) = (l.take j).flatMap (emit 1) ++ emit 1 p from by
        rw [List.take_add_one, hp, List.flatMap_append]; simp)
      have d0 := (HBL2.out.cell (p := ⟨b, off + (j * 4 + 0), none⟩) hblk).trans (hcell j _ hp 0 _ rfl)
      have d1 := (HBL2.out.cell (p := ⟨b, off + (j * 4 + 1), none⟩) hblk).trans (hcell j _ hp 1 _ rfl)
      have d2 := (HBL2.out.cell (p := ⟨b, off + (j * 4 + 2), none⟩) hblk).trans (hcell j _ hp 2 _ rfl)
      have d3 := (HBL2.out.cell (p := ⟨b, off + (j * 4 + 3), none⟩) hblk).trans (hcell j _ hp 3 _ rfl)
      rw [Nat.add_zero] at d0
      rw [← Nat.add_assoc] at d1 d2 d3
      have hltI : (j : Int) < (n : Int) := by omega
      have hbX : Below wr.heap.size wr (wr.alloc (.cells #[.float .f64 p.x, .float .f64 p.y, .float .f64 p.z, .float .f64 p.m] 182)) := (Below.refl _ _).alloc (Nat.le_refl _) _
      have HW0 := Lib.hid (HBL2.out.trans (hbX.mono HBL2.out.size))
      have HO0 := Lib.hid (HOWN.out.kept (grown_below (row := none) hbX) (own_row _))
      obtain ⟨wX, hwX⟩ : ∃ wX, wX = wr.alloc (.cells #[.float .f64 p.x, .float .f64 p.y, .float .f64 p.z, .float .f64 p.m] 182) := ⟨_, rfl⟩
      have hN0 : Blk wX wr.heap.size 182 #[.float .f64 p.x, .float .f64 p.y, .float .f64 p.z, .float .f64 p.m] := by rw [hwX]; exact Blk.new _ _ _
      rw [← hwX] at HW0 HO0
      have HN0 := Lib.hid hN0
      have HWX := Lib.hid hwX
      have HSX := Lib.hid (show wX.heap.size = wr.heap.size + 1 from by rw [hwX]; simp)
      have HNE0 := Lib.hid (show (Value.slice A1 (j * 3) k1).ownBlock ≠ some wr.heap.size from fun e => by have := (HOWN.out.lt _ e).2; omega)
      clear hp hcell hik hbX hwX hN0
      go_wp2_with (first
                    | (at_builtin; rw [← HWX.out]; refine wpList_append_sl _ rfl (.tmp 14) (.tmp 19) 22 rfl w.heap.size 31 i0 _ 1 8 Tryz.underlying22 hi hz0 hz1 hz2 rfl (by decide) (.slice A1 (j * 3) k1) (j * 3) (FL ((l.take j).flatMap (emit 1))) rfl (HO0.out.alloc _)
                         _ (some ⟨wr.heap.size + 1, 0, none⟩) 2 2 [.float .f64 p.x, .float .f64 p.y] rfl (by have h := slBlk (n := 2) (c := 1) (heap_alloc_new wX (.cells #[.float .f64 p.x, .float .f64 p.y] 31)) rfl (by unfold maxLen; omega); rw [HSX.out] at h; exact h) (FL_one [p.x, p.y]) (by unfold maxLen; omega) (by omega) (by have := HW0.out.size; simp; omega) ?_; intro B1 e1 w1 ho1 hg1 ha1
                       have HO1 := Lib.hid ho1
                       have hbb1 := HW0.out.alloc HW0.out.size (.cells #[.float .f64 p.x, .float .f64 p.y] 31)
                       have HW1 := Lib.hid (hbb1.grown hg1 hbb1.size (fun r hr => (HO0.out.lt r hr).1))
                       have HN1 := Lib.hid ((HN0.out.alloc (.cells #[.float .f64 p.x, .float .f64 p.y] 31)).grown hg1 (fun e => HNE0.out e.symm))
                       have HNE1 := Lib.hid (show (Value.slice B1 (j * 3 + 2) e1).ownBlock ≠ some wr.heap.size from fun e => by
                         rcases ha1 with h | h
                         · exact HNE0.out (h.symm.trans e)
                         · rw [h] at e
                           have h1 := Option.some.inj e
                           have h2 := HN0.out.lt
                           have h3 : (wX.alloc (.cells #[.float .f64 p.x, .float .f64 p.y] 31)).heap.size = wX.heap.size + 1 := by simp
                           omega)
                       obtain ⟨q0, q1, q2, q3, -, -, -, -, ql⟩ := cells4 HN1.out
                       clear ho1 hg1 ha1 hbb1)
                    | (at_builtin; refine wpList_append_sl _ rfl (.tmp 24) (.tmp 27) 22 rfl w.heap.size 31 i0 _ 1 8 Tryz.underlying22 hi hz0 hz1 hz2 rfl (by decide) (.slice B1 (j * 3 + 2) e1) (j * 3 + 2) ((FL ((l.take j).flatMap (emit 1))) ++ [.float .f64 p.x, .float .f64 p.y]) rfl (HO1.out.alloc _)
                         _ (some ⟨w1.heap.size, 0, none⟩) 1 1 [.float .f64 p.z] rfl (by have h := slBlk (n := 1) (c := 1) (heap_alloc_new w1 (.cells #[.float .f64 p.z] 31)) rfl (by unfold maxLen; omega); exact h) (FL_one [p.z]) (by unfold maxLen; omega) (by omega) (by have := HW1.out.size; simp; omega) ?_; intro B2 e2 w2 ho2 hg2 ha2
                       have HO2 := Lib.hid ho2
                       have hbb2 := HW1.out.alloc HW1.out.size (.cells #[.float .f64 p.z] 31)
                       have HW2 := Lib.hid (hbb2.grown hg2 hbb2.size (fun r hr => (HO1.out.lt r hr).1))
                       have HN2 := Lib.hid ((HN1.out.alloc (.cells #[.float .f64 p.z] 31)).grown hg2 (fun e => HNE1.out e.symm))
                       have HNE2 := Lib.hid (show (Value.slice B2 (j * 3 + 2 + 1) e2).ownBlock ≠ some wr.heap.size from fun e => by
                         rcases ha2 with h | h
                         · exact HNE1.out (h.symm.trans e)
                         · rw [h] at e
                           have h1 := Option.some.inj e
                           have h2 := HN1.out.lt
                           have h3 : (w1.alloc (.cells #[.float .f64 p.z] 31)).heap.size = w1.heap.size + 1 := by simp
                           omega)
                       obtain ⟨q0, q1, q2, q3, -, -, -, -, ql⟩ := cells4 HN2.out
                       clear ho2 hg2 ha2 hbb2))
      go_roundg (n - (j + 1))
      case measure => have := HJL.out; omega
      case rel =>
        have hcap : j * 3 + 2 + 1 ≤ e2 := by
          rcases HO2.out.2 with ⟨hbad, h0⟩ | ⟨g, cap, cur, hv, _, _, h1, _⟩
          · omega
          · simp only [Value.slice.injEq] at hv
            omega
        refine ⟨j + 1, B2, e2, by omega, by go_num, by rw [show (j + 1) * 3 = j * 3 + 2 + 1 by omega], by omega, ?_, HW2.out⟩
        rw [HPT.out, FL_app, show (j + 1) * 3 = j * 3 + 2 + 1 by omega]
        have := HO2.out
        simpa [emit, hz, hm, FL, List.append_assoc] using this
    · obtain rfl : j = n := by omega
      have hltI : (j : Int) ≤ (j : Int) := Int.le_refl _
      have htk : l.take j = l := List.take_of_length_le (by rw [← HN.out]; exact Nat.le_refl _)
      have hown := HOWN.out
      rw [htk] at hown
      have HOW := Lib.hid hown
      have hlen : (l.flatMap (emit 1)).length = j * 3 := by rw [flat_len (by decide), ← HN.out]; rfl
      have HLN := Lib.hid hlen
      clear htk hown HOWN HA hlen
      go_wp2_with fail
      refine bodyPost_ret (v := .slice A1 (j * 3) k1) (by simp [results, go_sem]) rfl ⟨A1, k1, by rw [HLN.out], by rw [HLN.out]; exact hjk, ⟨?_, fun _ a ha => (HOW.out.lt a.block (by rw [ha]; rfl)).1⟩, HBL2.out⟩
      rw [HLN.out]
      exact Sl.of_own HOW.out

set_option maxHeartbeats 8000000 in
set_option maxRecDepth 100000 in
theorem nums2 (A : Option Addr) (c : Nat) (l : List Pl) (hn : l.length ≤ 1073741824) {w : World} (hA : Sl w w.heap.size A l.length 4 (l.flatMap encP)) :
    Calls Tryz.prog 68 #[.slice A l.length c, .int .i64 2] w (NumPost w (l.flatMap (emit 2))) := by
  obtain ⟨i0, hi, hz0, hz1, hz2⟩ := info_parts infoF
  obtain ⟨n, hnn⟩ : ∃ n, n = l.length := ⟨_, rfl⟩
  have HA := Lib.hid hA
  have HN := Lib.hid hnn
  have hb1 : bits .and .i64 2 1 = 0 := by decide
  have hb2 : bits .and .i64 2 2 = 2 := by decide
  rw [← hnn] at hn ⊢
  clear hA hnn
  go_enter Tryz.func68, Tryz.ntmps68
  go_wp2_with fail
  go_loopg [5, 10] n (fun q pv ci wr => ∃ (j : Nat) (A1 : Option Addr) (k1 : Nat), j + q = n ∧ ci = .int .i64 (j : Nat) ∧ pv = .slice A1 (j * 3) k1 ∧ j * 3 ≤ k1 ∧ wr.ownsRow w.heap.size 31 1 (.slice A1 (j * 3) k1) (j * 3) (FL ((l.take j).flatMap (emit 2))) ∧ Below w.heap.size w wr)
  case atStart => exact ⟨0, none, 0, by omega, by go_num, by simp, by omega, by simpa [FL] using World.ownsRow_nil _ _ _ _, Below.refl _ _⟩
  case round =>
    obtain ⟨j, A1, k1, hj', rfl, rfl, hjk, hown, hbl⟩ := hrel
    have HJL := Lib.hid hj'
    have HOWN := Lib.hid hown
    have HBL2 := Lib.hid hbl
    have sr := hbl.size
    have hjn : j ≤ n := by omega
    clear hj' hown hbl
    by_cases hlt : j < n
    · have hik : j < l.length := by rw [← HN.out]; exact hlt
      obtain ⟨p, hp⟩ : ∃ p, l[j]? = some p := ⟨l[j], List.getElem?_eq_getElem hik⟩
      obtain ⟨b, off, hAe, hblk, hcell⟩ := sl_part HA.out (fun g _ => encP_len g) (by omega)
      subst hAe
      have HPT := Lib.hid (show (l.take (j + 1)).flatMap (emit 2) = (l.take j).flatMap (emit 2) ++ emit 2 p from by
        rw [List.take_add_one, hp, List.flatMap_append]; simp)
      have d0 := (HBL2.out.cell (p := ⟨b, off + (j * 4 + 0), none⟩) hblk).trans (hcell j _ hp 0 _ rfl)
      have d1 := (HBL2.out.cell (p := ⟨b, off + (j * 4 + 1), none⟩) hblk).trans (hcell j _ hp 1 _ rfl)
      have d2 := (HBL2.out.cell (p := ⟨b, off + (j * 4 + 2), none⟩) hblk).trans (hcell j _ hp 2 _ rfl)
      have d3 := (HBL2.out.cell (p := ⟨b, off + (j * 4 + 3), none⟩) hblk).trans (hcell j _ hp 3 _ rfl)
      rw [Nat.add_zero] at d0
      rw [← Nat.add_assoc] at d1 d2 d3
      have hltI : (j : Int) < (n : Int) := by omega
      have hbX : Below wr.heap.size wr (wr.alloc (.cells #[.float .f64 p.x, .float .f64 p.y, .float .f64 p.z, .float .f64 p.m] 182)) := (Below.refl _ _).alloc (Nat.le_refl _) _
      have HW0 := Lib.hid (HBL2.out.trans (hbX.mono HBL2.out.size))
      have HO0 := Lib.hid (HOWN.out.kept (grown_below (row := none) hbX) (own_row _))
      obtain ⟨wX, hwX⟩ : ∃ wX, wX = wr.alloc (.cells #[.float .f64 p.x, .float .f64 p.y, .float .f64 p.z, .float .f64 p.m] 182) := ⟨_, rfl⟩
      have hN0 : Blk wX wr.heap.size 182 #[.float .f64 p.x, .float .f64 p.y, .float .f64 p.z, .float .f64 p.m] := by rw [hwX]; exact Blk.new _ _ _
      rw [← hwX] at HW0 HO0
      have HN0 := Lib.hid hN0
      have HWX := Lib.hid hwX
      have HSX := Lib.hid (show wX.heap.size = wr.heap.size + 1 from by rw [hwX]; simp)
      have HNE0 := Lib.hid (show (Value.slice A1 (j * 3) k1).ownBlock ≠ some wr.heap.size from fun e => by have := (HOWN.out.lt _ e).2; omega)
      clear hp hcell hik hbX hwX hN0
      go_wp2_with (first
                    | (at_builtin; rw [← HWX.out]; refine wpList_append_sl _ rfl (.tmp 14) (.tmp 19) 22 rfl w.heap.size 31 i0 _ 1 8 Tryz.underlying22 hi hz0 hz1 hz2 rfl (by decide) (.slice A1 (j * 3) k1) (j * 3) (FL ((l.take j).flatMap (emit 2))) rfl (HO0.out.alloc _)
                         _ (some ⟨wr.heap.size + 1, 0, none⟩) 2 2 [.float .f64 p.x, .float .f64 p.y] rfl (by have h := slBlk (n := 2) (c := 1) (heap_alloc_new wX (.cells #[.float .f64 p.x, .float .f64 p.y] 31)) rfl (by unfold maxLen; omega); rw [HSX.out] at h; exact h) (FL_one [p.x, p.y]) (by unfold maxLen; omega) (by omega) (by have := HW0.out.size; simp; omega) ?_; intro B1 e1 w1 ho1 hg1 ha1
                       have HO1 := Lib.hid ho1
                       have hbb1 := HW0.out.alloc HW0.out.size (.cells #[.float .f64 p.x, .float .f64 p.y] 31)
                       have HW1 := Lib.hid (hbb1.grown hg1 hbb1.size (fun r hr => (HO0.out.lt r hr).1))
                       have HN1 := Lib.hid ((HN0.out.alloc (.cells #[.float .f64 p.x, .float .f64 p.y] 31)).grown hg1 (fun e => HNE0.out e.symm))
                       have HNE1 := Lib.hid (show (Value.slice B1 (j * 3 + 2) e1).ownBlock ≠ some wr.heap.size from fun e => by
                         rcases ha1 with h | h
                         · exact HNE0.out (h.symm.trans e)
                         · rw [h] at e
                           have h1 := Option.some.inj e
                           have h2 := HN0.out.lt
                           have h3 : (wX.alloc (.cells #[.float .f64 p.x, .float .f64 p.y] 31)).heap.size = wX.heap.size + 1 := by simp
                           omega)
                       obtain ⟨q0, q1, q2, q3, -, -, -, -, ql⟩ := cells4 HN1.out
                       clear ho1 hg1 ha1 hbb1)
                    | (at_builtin; refine wpList_append_sl _ rfl (.tmp 32) (.tmp 35) 22 rfl w.heap.size 31 i0 _ 1 8 Tryz.underlying22 hi hz0 hz1 hz2 rfl (by decide) (.slice B1 (j * 3 + 2) e1) (j * 3 + 2) ((FL ((l.take j).flatMap (emit 2))) ++ [.float .f64 p.x, .float .f64 p.y]) rfl (HO1.out.alloc _)
                         _ (some ⟨w1.heap.size, 0, none⟩) 1 1 [.float .f64 p.m] rfl (by have h := slBlk (n := 1) (c := 1) (heap_alloc_new w1 (.cells #[.float .f64 p.m] 31)) rfl (by unfold maxLen; omega); exact h) (FL_one [p.m]) (by unfold maxLen; omega) (by omega) (by have := HW1.out.size; simp; omega) ?_; intro B2 e2 w2 ho2 hg2 ha2
                       have HO2 := Lib.hid ho2
                       have hbb2 := HW1.out.alloc HW1.out.size (.cells #[.float .f64 p.m] 31)
                       have HW2 := Lib.hid (hbb2.grown hg2 hbb2.size (fun r hr => (HO1.out.lt r hr).1))
                       have HN2 := Lib.hid ((HN1.out.alloc (.cells #[.float .f64 p.m] 31)).grown hg2 (fun e => HNE1.out e.symm))
                       have HNE2 := Lib.hid (show (Value.slice B2 (j * 3 + 2 + 1) e2).ownBlock ≠ some wr.heap.size from fun e => by
                         rcases ha2 with h | h
                         · exact HNE1.out (h.symm.trans e)
                         · rw [h] at e
                           have h1 := Option.some.inj e
                           have h2 := HN1.out.lt
                           have h3 : (w1.alloc (.cells #[.float .f64 p.m] 31)).heap.size = w1.heap.size + 1 := by simp
                           omega)
                       obtain ⟨q0, q1, q2, q3, -, -, -, -, ql⟩ := cells4 HN2.out
                       clear ho2 hg2 ha2 hbb2))
      go_roundg (n - (j + 1))
      case measure => have := HJL.out; omega
      case rel =>
        have hcap : j * 3 + 2 + 1 ≤ e2 := by
          rcases HO2.out.2 with ⟨hbad, h0⟩ | ⟨g, cap, cur, hv, _, _, h1, _⟩
          · omega
          · simp only [Value.slice.injEq] at hv
            omega
        refine ⟨j + 1, B2, e2, by omega, by go_num, by rw [show (j + 1) * 3 = j * 3 + 2 + 1 by omega], by omega, ?_, HW2.out⟩
        rw [HPT.out, FL_app, show (j + 1) * 3 = j * 3 + 2 + 1 by omega]
        have := HO2.out
        simpa [emit, hz, hm, FL, List.append_assoc] using this
    · obtain rfl : j = n := by omega
      have hltI : (j : Int) ≤ (j : Int) := Int.le_refl _
      have htk : l.take j = l := List.take_of_length_le (by rw [← HN.out]; exact Nat.le_refl _)
      have hown := HOWN.out
      rw [htk] at hown
      have HOW := Lib.hid hown
      have hlen : (l.flatMap (emit 2)).length = j * 3 := by rw [flat_len (by decide), ← HN.out]; rfl
      have HLN := Lib.hid hlen
      clear htk hown HOWN HA hlen
      go_wp2_with fail
      refine bodyPost_ret (v := .slice A1 (j * 3) k1) (by simp [results, go_sem]) rfl ⟨A1, k1, by rw [HLN.out], by rw [HLN.out]; exact hjk, ⟨?_, fun _ a ha => (HOW.out.lt a.block (by rw [ha]; rfl)).1⟩, HBL2.out⟩
      rw [HLN.out]
      exact Sl.of_own HOW.out

set_option maxHeartbeats 8000000 in
set_option maxRecDepth 100000 in
theorem nums3 (A : Option Addr) (c : Nat) (l : List Pl) (hn : l.length ≤ 1073741824) {w : World} (hA : Sl w w.heap.size A l.length 4 (l.flatMap encP)) :
    Calls Tryz.prog 68 #[.slice A l.length c, .int .i64 3] w (NumPost w (l.flatMap (emit 3))) := by
  obtain ⟨i0, hi, hz0, hz1, hz2⟩ := info_parts infoF
  obtain ⟨n, hnn⟩ : ∃ n, n = l.length := ⟨_, rfl⟩
  have HA := Lib.hid hA
  have HN := Lib.hid hnn
  have hb1 : bits .and .i64 3 1 = 1 := by decide
  have hb2 : bits .and .i64 3 2 = 2 := by decide
  rw [← hnn] at hn ⊢
  clear hA hnn
  go_enter Tryz.func68, Tryz.ntmps68
  go_wp2_with fail
  go_loopg [5, 10] n (fun q pv ci wr => ∃ (j : Nat) (A1 : Option Addr) (k1 : Nat), j + q = n ∧ ci = .int .i64 (j : Nat) ∧ pv = .slice A1 (j * 4) k1 ∧ j * 4 ≤ k1 ∧ wr.ownsRow w.heap.size 31 1 (.slice A1 (j * 4) k1) (j * 4) (FL ((l.take j).flatMap (emit 3))) ∧ Below w.heap.size w wr)
  case atStart => exact ⟨0, none, 0, by omega, by go_num, by simp, by omega, by simpa [FL] using World.ownsRow_nil _ _ _ _, Below.refl _ _⟩
  case round =>
    obtain ⟨j, A1, k1, hj', rfl, rfl, hjk, hown, hbl⟩ := hrel
    have HJL := Lib.hid hj'
    have HOWN := Lib.hid hown
    have HBL2 := Lib.hid hbl
    have sr := hbl.size
    have hjn : j ≤ n := by omega
    clear hj' hown hbl
    by_cases hlt : j < n
    · have hik : j < l.length := by rw [← HN.out]; exact hlt
      obtain ⟨p, hp⟩ : ∃ p, l[j]? = some p := ⟨l[j], List.getElem?_eq_getElem hik⟩
      obtain ⟨b, off, hAe, hblk, hcell⟩ := sl_part HA.out (fun g _ => encP_len g) (by omega)
      subst hAe
      have HPT := Lib.hid (show (l.take (j + 1)).flatMap (emit 3) = (l.take j).flatMap (emit 3) ++ emit 3 p from by
        rw [List.take_add_one, hp, List.flatMap_append]; simp)
      have d0 := (HBL2.out.cell (p := ⟨b, off + (j * 4 + 0), none⟩) hblk).trans (hcell j _ hp 0 _ rfl)
      have d1 := (HBL2.out.cell (p := ⟨b, off + (j * 4 + 1), none⟩) hblk).trans (hcell j _ hp 1 _ rfl)
      have d2 := (HBL2.out.cell (p := ⟨b, off + (j * 4 + 2), none⟩) hblk).trans (hcell j _ hp 2 _ rfl)
      have d3 := (HBL2.out.cell (p := ⟨b, off + (j * 4 + 3), none⟩) hblk).trans (hcell j _ hp 3 _ rfl)
      rw [Nat.add_zero] at d0
      rw [← Nat.add_assoc] at d1 d2 d3
      have hltI : (j : Int) < (n : Int) := by omega
      have hbX : Below wr.heap.size wr (wr.alloc (.cells #[.float .f64 p.x, .float .f64 p.y, .float .f64 p.z, .float .f64 p.m] 182)) := (Below.refl _ _).alloc (Nat.le_refl _) _
      have HW0 := Lib.hid (HBL2.out.trans (hbX.mono HBL2.out.size))
      have HO0 := Lib.hid (HOWN.out.kept (grown_below (row := none) hbX) (own_row _))
      obtain ⟨wX, hwX⟩ : ∃ wX, wX = wr.alloc (.cells #[.float .f64 p.x, .float .f64 p.y, .float .f64 p.z, .float .f64 p.m] 182) := ⟨_, rfl⟩
      have hN0 : Blk wX wr.heap.size 182 #[.float .f64 p.x, .float .f64 p.y, .float .f64 p.z, .float .f64 p.m] := by rw [hwX]; exact Blk.new _ _ _
      rw [← hwX] at HW0 HO0
      have HN0 := Lib.hid hN0
      have HWX := Lib.hid hwX
      have HSX := Lib.hid (show wX.heap.size = wr.heap.size + 1 from by rw [hwX]; simp)
      have HNE0 := Lib.hid (show (Value.slice A1 (j * 4) k1).ownBlock ≠ some wr.heap.size from fun e => by have := (HOWN.out.lt _ e).2; omega)
      clear hp hcell hik hbX hwX hN0
      go_wp2_with (first
                    | (at_builtin; rw [← HWX.out]; refine wpList_append_sl _ rfl (.tmp 14) (.tmp 19) 22 rfl w.heap.size 31 i0 _ 1 8 Tryz.underlying22 hi hz0 hz1 hz2 rfl (by decide) (.slice A1 (j * 4) k1) (j * 4) (FL ((l.take j).flatMap (emit 3))) rfl (HO0.out.alloc _)
                         _ (some ⟨wr.heap.size + 1, 0, none⟩) 2 2 [.float .f64 p.x, .float .f64 p.y] rfl (by have h := slBlk (n := 2) (c := 1) (heap_alloc_new wX (.cells #[.float .f64 p.x, .float .f64 p.y] 31)) rfl (by unfold maxLen; omega); rw [HSX.out] at h; exact h) (FL_one [p.x, p.y]) (by unfold maxLen; omega) (by omega) (by have := HW0.out.size; simp; omega) ?_; intro B1 e1 w1 ho1 hg1 ha1
                       have HO1 := Lib.hid ho1
                       have hbb1 := HW0.out.alloc HW0.out.size (.cells #[.float .f64 p.x, .float .f64 p.y] 31)
                       have HW1 := Lib.hid (hbb1.grown hg1 hbb1.size (fun r hr => (HO0.out.lt r hr).1))
                       have HN1 := Lib.hid ((HN0.out.alloc (.cells #[.float .f64 p.x, .float .f64 p.y] 31)).grown hg1 (fun e => HNE0.out e.symm))
                       have HNE1 := Lib.hid (show (Value.slice B1 (j * 4 + 2) e1).ownBlock ≠ some wr.heap.size from fun e => by
                         rcases ha1 with h | h
                         · exact HNE0.out (h.symm.trans e)
                         · rw [h] at e
                           have h1 := Option.some.inj e
                           have h2 := HN0.out.lt
                           have h3 : (wX.alloc (.cells #[.float .f64 p.x, .float .f64 p.y] 31)).heap.size = wX.heap.size + 1 := by simp
                           omega)
                       obtain ⟨q0, q1, q2, q3, -, -, -, -, ql⟩ := cells4 HN1.out
                       clear ho1 hg1 ha1 hbb1)
                    | (at_builtin; refine wpList_append_sl _ rfl (.tmp 24) (.tmp 27) 22 rfl w.heap.size 31 i0 _ 1 8 Tryz.underlying22 hi hz0 hz1 hz2 rfl (by decide) (.slice B1 (j * 4 + 2) e1) (j * 4 + 2) ((FL ((l.take j).flatMap (emit 3))) ++ [.float .f64 p.x, .float .f64 p.y]) rfl (HO1.out.alloc _)
                         _ (some ⟨w1.heap.size, 0, none⟩) 1 1 [.float .f64 p.z] rfl (by have h := slBlk (n := 1) (c := 1) (heap_alloc_new w1 (.cells #[.float .f64 p.z] 31)) rfl (by unfold maxLen; omega); exact h) (FL_one [p.z]) (by unfold maxLen; omega) (by omega) (by have := HW1.out.size; simp; omega) ?_; intro B2 e2 w2 ho2 hg2 ha2
                       have HO2 := Lib.hid ho2
                       have hbb2 := HW1.out.alloc HW1.out.size (.cells #[.float .f64 p.z] 31)
                       have HW2 := Lib.hid (hbb2.grown hg2 hbb2.size (fun r hr => (HO1.out.lt r hr).1))
                       have HN2 := Lib.hid ((HN1.out.alloc (.cells #[.float .f64 p.z] 31)).grown hg2 (fun e => HNE1.out e.symm))
                       have HNE2 := Lib.hid (show (Value.slice B2 (j * 4 + 2 + 1) e2).ownBlock ≠ some wr.heap.size from fun e => by
                         rcases ha2 with h | h
                         · exact HNE1.out (h.symm.trans e)
                         · rw [h] at e
                           have h1 := Option.some.inj e
                           have h2 := HN1.out.lt
                           have h3 : (w1.alloc (.cells #[.float .f64 p.z] 31)).heap.size = w1.heap.size + 1 := by simp
                           omega)
                       obtain ⟨q0, q1, q2, q3, -, -, -, -, ql⟩ := cells4 HN2.out
                       clear ho2 hg2 ha2 hbb2)
                    | (at_builtin; refine wpList_append_sl _ rfl (.tmp 32) (.tmp 35) 22 rfl w.heap.size 31 i0 _ 1 8 Tryz.underlying22 hi hz0 hz1 hz2 rfl (by decide) (.slice B2 (j * 4 + 2 + 1) e2) (j * 4 + 2 + 1) (((FL ((l.take j).flatMap (emit 3))) ++ [.float .f64 p.x, .float .f64 p.y]) ++ [.float .f64 p.z]) rfl (HO2.out.alloc _)
                         _ (some ⟨w2.heap.size, 0, none⟩) 1 1 [.float .f64 p.m] rfl (by have h := slBlk (n := 1) (c := 1) (heap_alloc_new w2 (.cells #[.float .f64 p.m] 31)) rfl (by unfold maxLen; omega); exact h) (FL_one [p.m]) (by unfold maxLen; omega) (by omega) (by have := HW2.out.size; simp; omega) ?_; intro B3 e3 w3 ho3 hg3 ha3
                       have HO3 := Lib.hid ho3
                       have hbb3 := HW2.out.alloc HW2.out.size (.cells #[.float .f64 p.m] 31)
                       have HW3 := Lib.hid (hbb3.grown hg3 hbb3.size (fun r hr => (HO2.out.lt r hr).1))
                       have HN3 := Lib.hid ((HN2.out.alloc (.cells #[.float .f64 p.m] 31)).grown hg3 (fun e => HNE2.out e.symm))
                       have HNE3 := Lib.hid (show (Value.slice B3 (j * 4 + 2 + 1 + 1) e3).ownBlock ≠ some wr.heap.size from fun e => by
                         rcases ha3 with h | h
                         · exact HNE2.out (h.symm.trans e)
                         · rw [h] at e
                           have h1 := Option.some.inj e
                           have h2 := HN2.out.lt
                           have h3 : (w2.alloc (.cells #[.float .f64 p.m] 31)).heap.size = w2.heap.size + 1 := by simp
                           omega)
                       obtain ⟨q0, q1, q2, q3, -, -, -, -, ql⟩ := cells4 HN3.out
                       clear ho3 hg3 ha3 hbb3))
      go_roundg (n - (j + 1))
      case measure => have := HJL.out; omega
      case rel =>
        have hcap : j * 4 + 2 + 1 + 1 ≤ e3 := by
          rcases HO3.out.2 with ⟨hbad, h0⟩ | ⟨g, cap, cur, hv, _, _, h1, _⟩
          · omega
          · simp only [Value.slice.injEq] at hv
            omega
        refine ⟨j + 1, B3, e3, by omega, by go_num, by rw [show (j + 1) * 4 = j * 4 + 2 + 1 + 1 by omega], by omega, ?_, HW3.out⟩
        rw [HPT.out, FL_app, show (j + 1) * 4 = j * 4 + 2 + 1 + 1 by omega]
        have := HO3.out
        simpa [emit, hz, hm, FL, List.append_assoc] using this
    · obtain rfl : j = n := by omega
      have hltI : (j : Int) ≤ (j : Int) := Int.le_refl _
      have htk : l.take j = l := List.take_of_length_le (by rw [← HN.out]; exact Nat.le_refl _)
      have hown := HOWN.out
      rw [htk] at hown
      have HOW := Lib.hid hown
      have hlen : (l.flatMap (emit 3)).length = j * 4 := by rw [flat_len (by decide), ← HN.out]; rfl
      have HLN := Lib.hid hlen
      clear htk hown HOWN HA hlen
      go_wp2_with fail
      refine bodyPost_ret (v := .slice A1 (j * 4) k1) (by simp [results, go_sem]) rfl ⟨A1, k1, by rw [HLN.out], by rw [HLN.out]; exact hjk, ⟨?_, fun _ a ha => (HOW.out.lt a.block (by rw [ha]; rfl)).1⟩, HBL2.out⟩
      rw [HLN.out]
      exact Sl.of_own HOW.out

end Go.Proofs.YtbacakdpfiiblaaGreat.geo
