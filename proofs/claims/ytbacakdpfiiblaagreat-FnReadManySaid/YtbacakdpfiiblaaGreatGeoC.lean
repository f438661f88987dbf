/-
  Contracts: a sequence of numbers that come in; its length; its type.
-/
import Derived.Test.YtbacakdpfiiblaaGreatGeoB
namespace Go.Proofs.YtbacakdpfiiblaaGreat.geo
open Go.ChangeShapes Go.WideShapes Go.ChangeAt Go.RowKit
open Go.Proofs.YtbacakdpfiiblaaGreat.mem
set_option linter.unusedVariables false
set_option linter.unusedSimpArgs false

theorem infoF : (Tryz.prog.info? 31).map (fun i => (i.zero, i.size, i.bytes)) = some (some (.float .f64 0), 1, 8) := by kernel_rfl
theorem infoF1 : (Tryz.prog.info? 31).map (·.size) = some 1 := by kernel_rfl
/-- A line or a sequence comes back. -/
def LnPost (S : Nat → Prop) (w : World) (d : Nat) (ns : List Nat) (e : Ending) (w' : World) : Prop :=
  ∃ A c, e = .returned (.agg #[.int .u8 d, .slice A ns.length c]) ∧ (MG.ln d A c ns).In (Fresh S w) w' ∧ Below w.heap.size w w'

theorem copyPrep {wB w1 : World} {A : Option Addr} {n m : Nat} {ns : List Nat} {e : TypeId} {xs : List Value} (hA : Sl wB wB.heap.size A n 1 (FL ns)) (hm : m ≤ n)
    (hown : w1.ownsRow wB.heap.size e 1 (.slice (some ⟨wB.heap.size, 0, none⟩) m m) m xs) (hgrow : wB.grownBy w1 none) :
    ∃ cur : List Value, w1.heap[wB.heap.size]? = some (.cells cur.toArray e (0, 0)) ∧ cur.length = m ∧ (FL (ns.take m)).length = Nat.min n m ∧ 0 + (FL (ns.take m)).length ≤ cur.length ∧
      Below wB.heap.size wB w1 ∧ (0 < (FL (ns.take m)).length → ∃ ad, A = some ad ∧ ∀ j v, (FL (ns.take m))[j]? = some v → w1.cell? (ad.add j) = some v) := by
  have hB1 : Below wB.heap.size wB w1 := (Below.refl _ _).grown hgrow (Nat.le_refl _) (fun q hq => by cases hq)
  have hl : ns.length = n := by have := hA.1; rw [FL_len] at this; omega
  have hlm : (FL (ns.take m)).length = m := by rw [FL_len, List.length_take]; omega
  rcases hown.2 with ⟨hbad, _⟩ | ⟨g, cap, cur, hv, _, hg, h1, h2, h3, h4⟩
  · cases hbad
  · simp only [Value.slice.injEq, Option.some.injEq, Addr.mk.injEq, and_true, true_and] at hv
    obtain ⟨rfl, rfl⟩ := hv
    have hcl : cur.toList.length = m := by rw [Array.length_toList]; omega
    refine ⟨cur.toList, by simpa using hg, hcl, by rw [hlm]; exact (Nat.min_eq_right hm).symm, by omega, hB1, fun h0 => ?_⟩
    obtain ⟨b, off, rfl, hlt, hcell⟩ := hA.2.2 (by omega)
    refine ⟨_, rfl, fun j v hj => ?_⟩
    rw [mem.add_plain]
    refine (hB1.cell (p := ⟨b, off + j, none⟩) hlt).trans (hcell j v ?_)
    have hj2 : j < (FL (ns.take m)).length := (List.getElem?_eq_some_iff.1 hj).1
    unfold FL at hj hj2 ⊢
    rw [List.getElem?_map] at hj ⊢
    rw [List.getElem?_take, if_pos (by simp at hj2; omega)] at hj
    exact hj

theorem splice_all {cur cs : List Value} (h : cs.length = cur.length) : splice cur 0 cs = cs := by
  unfold splice
  rw [List.take_zero, List.nil_append, Nat.zero_add, h, List.drop_length, List.append_nil]
theorem sl_block {w : World} {g n c : Nat} {e : TypeId} {xs : List Value} (h : w.heap[g]? = some (.cells xs.toArray e (0, 0))) (hl : xs.length = n * c) (hm : n ≤ maxLen) : Sl w w.heap.size (some ⟨g, 0, none⟩) n c xs := by
  refine ⟨hl, hm, fun _ => ⟨g, 0, rfl, (Array.getElem?_eq_some_iff.1 h).1, fun j u hu => ?_⟩⟩
  rw [Nat.zero_add, cell_of_row w g j xs.toArray e (0, 0) h]
  simpa using hu
theorem sl_set {w : World} {A : Option Addr} {n c : Nat} {xs : List Value} (h : Sl w w.heap.size A n c xs) {p : Addr} (hp : ∀ a, A = some a → a.block ≠ p.block) (u : Value) : Sl (w.setCell p u) (w.setCell p u).heap.size A n c xs := by
  refine ⟨h.1, h.2.1, fun hn => ?_⟩
  obtain ⟨b, off', rfl, hlt, hc⟩ := h.2.2 hn
  refine ⟨_, _, rfl, by simpa using hlt, fun j v hj => ?_⟩
  have hh : (w.setCell p u).heap[b]? = w.heap[b]? := Below.heap_setCell w p u b (hp _ rfl)
  have := hc j v hj
  unfold World.cell? at this ⊢
  simp only at this ⊢
  rw [hh]; exact this

def SeqPost (w : World) (d : Nat) (ns : List Nat) (e : Ending) (w' : World) : Prop :=
  ∃ A c, e = .returned (.agg #[.int .u8 d, .slice A ns.length c]) ∧ (MG.ln d A c ns).In (fun a => w.heap.size ≤ a) w' ∧ Below w.heap.size w w'

/-- How many numbers fill whole places. -/
def fillN (d n : Nat) : Nat := n / wd d * wd d
theorem fill_le (d n : Nat) : fillN d n ≤ n := Nat.div_mul_le_self _ _
theorem fill_sub (d n : Nat) : (n : Int) - (n : Int) % (wd d : Int) = (fillN d n : Int) := by
  have h := Nat.div_add_mod n (wd d)
  unfold fillN
  rw [Nat.mul_comm]
  have : ((wd d * (n / wd d) + n % wd d : Nat) : Int) = n := by rw [h]
  rw [Int.natCast_add, Int.natCast_emod] at this
  omega

set_option maxHeartbeats 4000000 in
theorem sequence_calls (A : Option Addr) (n c : Nat) (z : Int) (ns : List Nat) (hn : n ≤ big) (hn4 : n / wd (dm z) * 4 ≤ big) (w : World) (hA : Sl w w.heap.size A n 1 (FL ns)) :
    Calls Tryz.prog 113 #[.slice A n c, .int .i64 z] w (SeqPost w (dm z) (ns.take (fillN (dm z) n))) := by
  have hnl : ns.length = n := by have := hA.1; rw [FL_len] at this; omega
  have hz := dm_lt z
  obtain ⟨d, hdz⟩ : ∃ d, d = dm z := ⟨_, rfl⟩
  have hdo := dimOf_calls z
  rw [← hdz] at hz hdo hn4 ⊢
  have hm4 : fillN d n / wd d * 4 ≤ big := by
    unfold fillN
    rw [Nat.mul_div_cancel _ (by have := wd_two d; omega)]
    exact hn4
  have HN4 := Lib.hid hm4
  clear hn4 hm4
  have hd := Lib.hid (@dim_calls d hz)
  have hns := Lib.hid (fun g w (hk : fillN d n ≤ n) => newSeq_calls (some ⟨g, 0, none⟩) (fillN d n) (fillN d n) d hz (Nat.le_trans hk hn) (mul_mod_wd _ _) w)
  have hsub := fill_sub d n
  have hw2 := wd_two d
  have hfl := fill_le d n
  obtain ⟨q, hq⟩ : ∃ q, q = wd d := ⟨_, rfl⟩
  obtain ⟨m, hm⟩ : ∃ m, m = fillN d n := ⟨_, rfl⟩
  have hlm : (ns.take m).length = m := by rw [List.length_take]; omega
  have hmod : m % wd d = 0 := by rw [hm]; exact mul_mod_wd _ _
  rw [← hq, ← hm] at hsub
  rw [← hq] at hd hw2
  rw [← hm] at hfl hns HN4 ⊢
  have hq0 : (2 : Int) ≤ (q : Int) := by omega
  have HNS := Lib.hid (fun g w => hns.out g w hfl)
  have HLM := Lib.hid hlm
  have HMOD := Lib.hid hmod
  have HZ := Lib.hid hz
  obtain ⟨wB, hwB⟩ : ∃ wB, wB = w.alloc (.cells #[.int .u8 0, .slice none 0 0] 81) := ⟨_, rfl⟩
  have hbB : Below w.heap.size w wB := by rw [hwB]; exact (Below.refl _ _).alloc (Nat.le_refl _) _
  have hblk : Blk wB w.heap.size 81 #[.int .u8 0, .slice none 0 0] := by rw [hwB]; exact Blk.new _ _ _
  have hszB : wB.heap.size = w.heap.size + 1 := by rw [hwB]; simp
  have hAB := hA.up hbB
  have HA := Lib.hid hAB
  have HWB := Lib.hid hwB
  have HBB := Lib.hid hbB
  have HBLK := Lib.hid hblk
  have HSZ := Lib.hid hszB
  unfold big at hn
  obtain ⟨i0, hi, hz0, hz1, hz2⟩ := info_parts infoF
  have hb48 : i0.bytes * m ≤ 281474976710656 := by rw [hz2]; omega
  have hbg : m ≤ 17592186044416 := by omega
  clear hA hAB hbB hblk hszB hwB hm hq hlm hmod hns hdz hnl hw2 hz
  go_enter Tryz.func113, Tryz.ntmps113
  go_wp2_with fail
  refine (hdo _).mono ?_
  rintro e w1 ⟨rfl, rfl⟩
  go_wp2_with fail
  refine (hd.out _).mono ?_
  rintro e w1 ⟨rfl, rfl⟩
  rw [← HWB.out]
  go_wp2_with (first
    | (at_make; refine wpList_make_full _ rfl (.tmp 18) (.tmp 18) 22 rfl wB.heap.size 31 i0 _ 1 Tryz.underlying22 hi hz0 hz1 .i64 .i64 _ _ m rfl rfl rfl rfl hb48 (by unfold maxLen; omega) (Nat.le_refl _) ?_; intro w1 hown hgrow
       obtain ⟨cur, hcur, hcl, hfl2, hfit, hb1, hsrc⟩ := copyPrep HA.out hfl hown hgrow
       have HCL := Lib.hid hcl
       have HCUR := Lib.hid hcur
       have HFL := Lib.hid hfl2
       have HFIT := Lib.hid hfit
       have HSRC := Lib.hid hsrc
       clear hown hcl hcur hfl2 hfit hsrc)
    | (with_reducible refine wpList_copy_splice (o := ⟨some 22, _, _, _, _, _⟩) rfl (.tmp 20) (.tmp 21) 22 22 rfl 31 Tryz.underlying22 infoF1 (some ⟨wB.heap.size, 0, none⟩) A m m n c rfl rfl wB.heap.size 0 cur 31 HCUR.out (FL (ns.take m)) HFL.out (fun h => ⟨rfl, HSRC.out h⟩) HFIT.out (FL_one _) wB.heap.size wB hb1 (Nat.le_refl _) ?_; intro w2 HG2 hB2))
  have hg2 := HG2.out
  have hfn : (FL (ns.take m)).length = m * 1 := by rw [FL_len, HLM.out, Nat.mul_one]
  rw [splice_all (by rw [HCL.out, hfn, Nat.mul_one])] at hg2
  have HS2 := Lib.hid (sl_block hg2 hfn (by unfold maxLen; omega))
  have HB2 := Lib.hid hB2
  clear hg2 HG2 HCUR HFIT hb1 hB2 hsub hfn HSRC HFL
  refine (HNS.out _ _).mono ?_
  rintro e w3 ⟨rfl, hb3⟩
  have hb03 : Below w.heap.size w w3 := (HBB.out.trans (HB2.out.mono HBB.out.size)).trans (hb3.mono (Nat.le_trans HBB.out.size HB2.out.size))
  have hblk3 := (HBLK.out.below HB2.out HBLK.out.lt).below hb3 (Nat.lt_of_lt_of_le HBLK.out.lt HB2.out.size)
  obtain ⟨c0, c1, f0, f1, hl⟩ := cells2 hblk3
  have HB03 := Lib.hid hb03
  have HS3 := Lib.hid (HS2.out.up hb3)
  clear hb03 hblk3 hb3
  go_wp2_with fail
  have hne : ∀ a, some (⟨wB.heap.size, 0, none⟩ : Addr) = some a → a.block ≠ w.heap.size := fun a ha => by
    have := Option.some.inj ha
    subst this
    have := HSZ.out
    show wB.heap.size ≠ _
    omega
  refine bodyPost_ret (v := .agg #[.int .u8 d, .slice (some ⟨wB.heap.size, 0, none⟩) m m]) ?_ rfl ⟨some ⟨wB.heap.size, 0, none⟩, m, by rw [HLM.out], ?_, (HB03.out.setCell (Nat.le_refl _) _).setCell (Nat.le_refl _) _⟩
  · simp [results, Tryz.results113, go_sem, c0, c1, hl]
  · rw [MG.In]
    refine ⟨HZ.out, by rw [HLM.out]; exact HMOD.out, by rw [HLM.out]; exact HN4.out, ?_⟩
    rw [HLM.out]
    exact ⟨sl_set (sl_set HS3.out hne _) hne _, fun _ a ha => by have := Option.some.inj ha; subst this; exact HBB.out.size⟩

set_option maxHeartbeats 4000000 in
theorem length_calls (A : Option Addr) (n c d : Nat) (hd : d < 4) (hn : n ≤ big) (w : World) :
    Calls Tryz.prog 107 #[.agg #[.int .u8 d, .slice A n c]] w fun e w' => e = .returned (.int .i64 ((n / wd d : Nat) : Int)) ∧ Below w.heap.size w w' := by
  obtain ⟨wB, hwB⟩ : ∃ wB, wB = w.alloc (.cells #[.int .u8 d, .slice A n c] 81) := ⟨_, rfl⟩
  have hblk : Blk wB w.heap.size 81 #[.int .u8 d, .slice A n c] := by rw [hwB]; exact Blk.new _ _ _
  have hbB : Below w.heap.size w wB := by rw [hwB]; exact (Below.refl _ _).alloc (Nat.le_refl _) _
  obtain ⟨c0, c1, f0, f1, hl⟩ := cells2 hblk
  have HWB := Lib.hid hwB
  have HBB := Lib.hid hbB
  unfold big at hn
  have hd' := Lib.hid (@dim_calls d hd)
  have h2 := wd_two d
  have hq : (n : Int).tdiv (wd d : Int) = ((n / wd d : Nat) : Int) := by
    rw [Int.tdiv_eq_ediv_of_nonneg (by omega)]; rfl
  have hr : IntKind.i64.wrap ((n : Int).tdiv (wd d : Int)) = ((n / wd d : Nat) : Int) := by
    rw [hq]
    have := Nat.div_le_self n (wd d)
    generalize n / wd d = r at this ⊢
    exact IntWalk.i64_in _ (by omega)
  have hr2 : wrap64 ((n : Int) / (wd d : Int)) = ((n / wd d : Nat) : Int) := by
    rw [← hr, hq, IntKind.wrap_i64, Int.natCast_ediv]; unfold wrap64; with_reducible rfl
  obtain ⟨q, hqq⟩ : ∃ q, q = wd d := ⟨_, rfl⟩
  rw [← hqq] at hr hr2 h2 hd' ⊢
  have hq0 : (q : Int) ≠ 0 := by omega
  obtain ⟨r, hrr⟩ : ∃ r, r = n / q := ⟨_, rfl⟩
  rw [← hrr] at hr hr2 ⊢
  clear hwB hbB hblk hq hqq hrr
  go_enter Tryz.func107, Tryz.ntmps107
  go_wp2_with fail
  rw [← HWB.out]
  go_quiet ((go_at_call 130; exact Calls.quiet_of_same (hd'.out _)))
  go_wp2_with fail
  exact bodyPost_ret (v := .int .i64 (r : Int)) (by simp [results, go_sem, hr2]) rfl ⟨rfl, HBB.out.trans (drewN_below _ _ _)⟩
end Go.Proofs.YtbacakdpfiiblaaGreat.geo
