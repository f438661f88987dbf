/-
  Contracts: a row of numbers becomes a sequence, a line, and its sequence again.
-/
import Derived.Test.YtmmlhbhnnhopdaaMem
import Derived.Laws.CopyOwn
namespace Go.Proofs.Ytmmlhbhnnhopdaa.ring
open Go.ChangeShapes Go.WideShapes Go.ChangeAt Go.RowKit
open Go.Proofs.Ytmmlhbhnnhopdaa.mem
set_option linter.unusedVariables false
set_option linter.unusedSimpArgs false

/-- Doubles as cells. -/
def FL (fs : List Nat) : List Value := fs.map (fun b => .float .f64 b)
theorem FL_len (fs : List Nat) : (FL fs).length = fs.length := by simp [FL]
theorem FL_one (fs : List Nat) : ∀ v ∈ FL fs, v.oneCell' = true := by
  intro v hv
  simp only [FL, List.mem_map] at hv
  obtain ⟨b, _, rfl⟩ := hv
  rfl

theorem run_dim (w : World) : (Instr.index 70 (.agg #[.int .i64 2, .int .i64 3, .int .i64 3, .int .i64 4]) (.int .u8 0)).run Try.prog w = .ok (.int .i64 2) w := by kernel_rfl

set_option maxHeartbeats 4000000 in
theorem dim_calls (w : World) : Calls Try.prog 32 #[.int .u8 0] w fun e w' => e = .returned (.int .i64 2) ∧ w' = w := by
  have hi := run_dim
  go_enter Try.func32, Try.ntmps32
  go_wp2_with fail
  exact bodyPost_ret (by simp [results, go_sem]) rfl ⟨rfl, rfl⟩

set_option maxHeartbeats 4000000 in
theorem dimOf_calls (w : World) : Calls Try.prog 31 #[.int .i64 0] w fun e w' => e = .returned (.int .u8 0) ∧ w' = w := by
  go_enter Try.func31, Try.ntmps31
  go_wp2_with fail
  exact bodyPost_ret (by simp [results, go_sem]; try rfl) rfl ⟨rfl, rfl⟩

set_option maxHeartbeats 4000000 in
theorem newSeq_calls (A : Option Addr) (n c : Nat) (hn : n ≤ 1000000) (hev : n % 2 = 0) (w : World) :
    Calls Try.prog 33 #[.slice A n c, .int .u8 0] w fun e w' => e = .returned (.agg #[.int .u8 0, .slice A n c]) ∧ Below w.heap.size w w' := by
  have hd := dim_calls
  have hr : IntKind.i64.wrap ((n : Int).tmod 2) = 0 := by
    have : (n : Int).tmod 2 = 0 := by
      rw [Int.tmod_eq_emod_of_nonneg (by omega)]; omega
    rw [this]; rfl
  go_enter Try.func33, Try.ntmps33
  go_wp2_with fail
  refine (hd _).mono ?_
  rintro e w1 ⟨rfl, rfl⟩
  go_wp2_with fail
  exact bodyPost_ret (by simp [results, Try.results33, go_sem]) rfl ⟨rfl, (Below.refl _ _).alloc (Nat.le_refl _) _⟩

set_option maxHeartbeats 4000000 in
theorem newLine_calls (A : Option Addr) (n c : Nat) (w : World) :
    Calls Try.prog 21 #[.agg #[.int .u8 0, .slice A n c]] w fun e w' => e = .returned (.agg #[.int .u8 0, .slice A n c]) ∧ Below w.heap.size w w' := by
  go_enter Try.func21, Try.ntmps21
  go_wp2_with fail
  exact bodyPost_ret (by simp [results, Try.results21, go_sem]) rfl ⟨rfl, ((Below.refl _ _).alloc (Nat.le_refl _) _).alloc (by simp) _⟩

set_option maxHeartbeats 4000000 in
theorem coords_calls (A : Option Addr) (n c : Nat) (w : World) :
    Calls Try.prog 15 #[.agg #[.int .u8 0, .slice A n c]] w fun e w' => e = .returned (.agg #[.int .u8 0, .slice A n c]) ∧ Below w.heap.size w w' := by
  go_enter Try.func15, Try.ntmps15
  go_wp2_with fail
  exact bodyPost_ret (by simp [results, Try.results15, go_sem]) rfl ⟨rfl, ((Below.refl _ _).alloc (Nat.le_refl _) _).alloc (by simp) _⟩

theorem copyPrep {wB w1 : World} {A : Option Addr} {n : Nat} {fs : List Nat} {e : TypeId} {xs : List Value} (hA : Sl wB wB.heap.size A n 1 (FL fs)) (hpos : 0 < n)
    (hown : w1.ownsRow wB.heap.size e 1 (.slice (some ⟨wB.heap.size, 0, none⟩) n n) n xs) (hgrow : wB.grownBy w1 none) :
    ∃ cur : List Value, w1.heap[wB.heap.size]? = some (.cells cur.toArray e (0, 0)) ∧ cur.length = n ∧ (FL fs).length = Nat.min n n ∧ 0 + (FL fs).length ≤ cur.length ∧
      Below wB.heap.size wB w1 := by
  have hB1 : Below wB.heap.size wB w1 := (Below.refl _ _).grown hgrow (Nat.le_refl _) (fun q hq => by cases hq)
  obtain ⟨hl, hm, hc⟩ := hA
  obtain ⟨b, off, rfl, hlt, hcell⟩ := hc hpos
  have hlen : (FL fs).length = n := by omega
  rcases hown.2 with ⟨hbad, _⟩ | ⟨g, cap, cur, hv, _, hg, h1, h2, h3, h4⟩
  · cases hbad
  · simp only [Value.slice.injEq, Option.some.injEq, Addr.mk.injEq, and_true, true_and] at hv
    obtain ⟨rfl, rfl⟩ := hv
    have hcl : cur.toList.length = n := by rw [Array.length_toList]; omega
    refine ⟨cur.toList, by simpa using hg, hcl, by rw [hlen]; exact (Nat.min_self n).symm, by omega, hB1⟩

theorem srcOf {wB w1 : World} {A : Option Addr} {n c : Nat} {xs : List Value} (hA : Sl wB wB.heap.size A n c xs) (hpos : 0 < n) (hb : Below wB.heap.size wB w1) :
    ∃ ad, A = some ad ∧ ∀ j v, xs[j]? = some v → w1.cell? (ad.add j) = some v := by
  obtain ⟨hl, hm, hc⟩ := hA
  obtain ⟨b, off, rfl, hlt, hcell⟩ := hc hpos
  refine ⟨_, rfl, fun j v hj => ?_⟩
  rw [mem.add_plain]
  exact (hb.cell (p := ⟨b, off + j, none⟩) hlt).trans (hcell j v hj)

theorem splice_all {cur cs : List Value} (h : cs.length = cur.length) : splice cur 0 cs = cs := by
  unfold splice
  rw [List.take_zero, List.nil_append, Nat.zero_add, h, List.drop_length, List.append_nil]

theorem sl_block {w : World} {g n c : Nat} {e : TypeId} {xs : List Value} (h : w.heap[g]? = some (.cells xs.toArray e (0, 0))) (hl : xs.length = n * c) (hm : n ≤ maxLen) : Sl w w.heap.size (some ⟨g, 0, none⟩) n c xs := by
  refine ⟨hl, hm, fun _ => ⟨g, 0, rfl, (Array.getElem?_eq_some_iff.1 h).1, fun j u hu => ?_⟩⟩
  rw [Nat.zero_add, cell_of_row w g j xs.toArray e (0, 0) h]
  simpa using hu

theorem cells2 {w : World} {g : Nat} {t : TypeId} {a b : Value} (h : Blk w g t #[a, b]) :
    w.cell? ⟨g, 0, none⟩ = some a ∧ w.cell? ⟨g, 1, none⟩ = some b ∧ w.frozen? ⟨g, 0, none⟩ = false ∧ w.frozen? ⟨g, 1, none⟩ = false ∧ g < w.heap.size :=
  ⟨h.cell 0, h.cell 1, h.frozen 0 (show 0 < 2 by omega), h.frozen 1 (show 1 < 2 by omega), h.lt⟩

theorem sl_far {w : World} {B g off n c : Nat} {xs : List Value} (h : Sl w B (some ⟨g, off, none⟩) n c xs) {p : Addr} (hp : g ≠ p.block) (u : Value) : Sl (w.setCell p u) B (some ⟨g, off, none⟩) n c xs := by
  refine ⟨h.1, h.2.1, fun hn => ?_⟩
  obtain ⟨b, off', e, hlt, hc⟩ := h.2.2 hn
  simp only [Option.some.injEq, Addr.mk.injEq, and_true] at e
  obtain ⟨rfl, rfl⟩ := e
  refine ⟨_, _, rfl, hlt, fun j v hj => ?_⟩
  have hh : (w.setCell p u).heap[g]? = w.heap[g]? := Below.heap_setCell w p u g hp
  have := hc j v hj
  unfold World.cell? at this ⊢
  simp only at this ⊢
  rw [hh]; exact this

theorem infoF : (Try.prog.info? 34).map (fun i => (i.zero, i.size, i.bytes)) = some (some (.float .f64 0), 1, 8) := by kernel_rfl

theorem infoF1 : (Try.prog.info? 34).map (·.size) = some 1 := by kernel_rfl

def SeqPost (w : World) (n : Nat) (fs : List Nat) (e : Ending) (w' : World) : Prop :=
  ∃ g, e = .returned (.agg #[.int .u8 0, .slice (some ⟨g, 0, none⟩) n n]) ∧ w.heap.size ≤ g ∧ Sl w' w'.heap.size (some ⟨g, 0, none⟩) n 1 (FL fs) ∧ Below w.heap.size w w'

set_option maxHeartbeats 4000000 in
theorem sequence_calls (A : Option Addr) (n c : Nat) (fs : List Nat) (hn : n ≤ 1000000) (hpos : 0 < n) (hev : n % 2 = 0) (w : World) (hA : Sl w w.heap.size A n 1 (FL fs)) :
    Calls Try.prog 22 #[.slice A n c, .int .i64 0] w (SeqPost w n fs) := by
  have hd := dim_calls
  have hdo := dimOf_calls
  have hns := fun g w => newSeq_calls (some ⟨g, 0, none⟩) n n hn hev w
  have h2 : ((n : Int) % 2) = 0 := by omega
  have hw0 : IntKind.i64.wrap (n : Int) = (n : Int) := IntWalk.i64_in _ (by omega)
  obtain ⟨wB, hwB⟩ : ∃ wB, wB = w.alloc (.cells #[.int .u8 0, .slice none 0 0] 45) := ⟨_, rfl⟩
  have hbB : Below w.heap.size w wB := by rw [hwB]; exact (Below.refl _ _).alloc (Nat.le_refl _) _
  have hblk : Blk wB w.heap.size 45 #[.int .u8 0, .slice none 0 0] := by rw [hwB]; exact Blk.new _ _ _
  have hszB : wB.heap.size = w.heap.size + 1 := by rw [hwB]; simp
  have hAB := hA.up hbB
  have HA := Lib.hid hAB
  have HWB := Lib.hid hwB
  have HBB := Lib.hid hbB
  have HBLK := Lib.hid hblk
  have HSZ := Lib.hid hszB
  obtain ⟨i0, hi, hz0, hz1, hz2⟩ := info_parts infoF
  have hb48 : i0.bytes * n ≤ 281474976710656 := by rw [hz2]; omega
  clear hA hAB hbB hblk hszB hwB
  go_enter Try.func22, Try.ntmps22
  go_wp2_with fail
  refine (hdo _).mono ?_
  rintro e w1 ⟨rfl, rfl⟩
  go_wp2_with fail
  refine (hd _).mono ?_
  rintro e w1 ⟨rfl, rfl⟩
  rw [← HWB.out]
  go_wp2_with (first
    | (at_make; refine wpList_make_full _ rfl (.tmp 18) (.tmp 18) 22 rfl wB.heap.size 34 i0 _ 1 Try.underlying22 hi hz0 hz1 .i64 .i64 _ _ n rfl rfl rfl rfl hb48 (by unfold maxLen; omega) (Nat.le_refl _) ?_; intro w1 hown hgrow
       obtain ⟨cur, hcur, hcl, hfl, hfit, hb1⟩ := copyPrep HA.out hpos hown hgrow
       have HCL := Lib.hid hcl
       have HCUR := Lib.hid hcur
       have HFL := Lib.hid hfl
       have HFIT := Lib.hid hfit
       clear hown hcl hcur hfl hfit)
    | (with_reducible refine wpList_copy_splice (o := ⟨some 22, _, _, _, _, _⟩) rfl (.tmp 20) (.tmp 21) 22 22 rfl 34 Try.underlying22 infoF1 (some ⟨wB.heap.size, 0, none⟩) A n n n c rfl rfl wB.heap.size 0 cur 34 HCUR.out (FL fs) HFL.out (fun _ => ⟨rfl, srcOf HA.out hpos hb1⟩) HFIT.out (FL_one fs) wB.heap.size wB hb1 (Nat.le_refl _) ?_; intro w2 HG2 hB2))
  have hg2 := HG2.out
  rw [splice_all (by rw [HCL.out, HFL.out]; exact Nat.min_self n)] at hg2
  have hfn : (FL fs).length = n * 1 := by rw [HFL.out, Nat.mul_one]; exact Nat.min_self n
  have HS2 := Lib.hid (sl_block hg2 hfn (by unfold maxLen; omega))
  have HB2 := Lib.hid hB2
  clear hg2 HG2 HCUR HFIT hb1 hB2
  refine (hns _ _).mono ?_
  rintro e w3 ⟨rfl, hb3⟩
  have hb03 : Below w.heap.size w w3 := (HBB.out.trans (HB2.out.mono HBB.out.size)).trans (hb3.mono (Nat.le_trans HBB.out.size HB2.out.size))
  have hblk3 := (HBLK.out.below HB2.out HBLK.out.lt).below hb3 (Nat.lt_of_lt_of_le HBLK.out.lt HB2.out.size)
  obtain ⟨c0, c1, f0, f1, hl⟩ := cells2 hblk3
  have HB03 := Lib.hid hb03
  have HS3 := Lib.hid (HS2.out.up hb3)
  clear hb03 hblk3 hb3
  go_wp2_with fail
  refine bodyPost_ret (v := .agg #[.int .u8 0, .slice (some ⟨wB.heap.size, 0, none⟩) n n]) ?_ rfl ⟨_, rfl, HBB.out.size, ?_, (HB03.out.setCell (Nat.le_refl _) _).setCell (Nat.le_refl _) _⟩
  · simp [results, Try.results22, go_sem, c0, c1, hl]
  · have hne : wB.heap.size ≠ w.heap.size := by rw [HSZ.out]; omega
    have := sl_far (sl_far HS3.out (p := ⟨w.heap.size, 0, none⟩) hne (.int .u8 0)) (p := ⟨w.heap.size, 1, none⟩) hne (.slice (some ⟨wB.heap.size, 0, none⟩) n n)
    simpa using this
end Go.Proofs.Ytmmlhbhnnhopdaa.ring
