/-
  Contract of the package's reader: a line.
-/
import Derived.Test.YtbacakdpfiiblaaGreatRdL
import Derived.Test.YtbacakdpfiiblaaGreatRdH
import Derived.Test.YtbacakdpfiiblaaGreatRdG
import Derived.Test.YtbacakdpfiiblaaGreatGeoR
namespace Go.Proofs.YtbacakdpfiiblaaGreat.geo
open Go.ChangeShapes Go.WideShapes Go.ChangeAt Go.RowKit
open Go.Proofs.YtbacakdpfiiblaaGreat.mem
set_option linter.unusedVariables false
set_option linter.unusedSimpArgs false

/-- A line of some bytes, as the package reads it. -/
def rdLp (d : Nat) (big : Bool) (bs : List Nat) : Option (PG × List Nat) := match rdU 4 big bs with
  | none => none
  | some (n, r) => if r.length < 8 * (n * wd d) then none else some (.mk 2 d (numsB big (n * wd d) r) [], r.drop (8 * (n * wd d)))
theorem infoB : (Tryz.prog.info? 5).map (fun i => (i.zero, i.size, i.bytes)) = some (some (.int .u8 0), 1, 1) := by kernel_rfl
theorem infoB1 : (Tryz.prog.info? 5).map (·.size) = some 1 := by kernel_rfl
/-- A row that was made, its cell in the heap written out. -/
theorem rowMade {w : World} {base n c : Nat} {e : TypeId} {b : Nat} {xs : List Value} (h : w.ownsRow base e c (.slice (some ⟨b, 0, none⟩) n n) n xs) : ∃ cur : List Value, w.heap[b]? = some (.cells cur.toArray e (0, 0)) ∧ cur.length = n * c := by
  rcases h.2 with ⟨hbad, _⟩ | ⟨g, cap, cur, hv, _, hg, h1, h2, h3, h4⟩
  · cases hbad
  · simp only [Value.slice.injEq, Option.some.injEq, Addr.mk.injEq, and_true, true_and] at hv
    obtain ⟨rfl, rfl⟩ := hv
    exact ⟨cur.toList, by simpa using hg, by rw [Array.length_toList, h3]⟩
theorem wrap_small {N : Nat} (h : N ≤ 17179869184) : IntKind.i64.wrap (N : Int) = (N : Int) ∧ wrap64 (N : Int) = (N : Int) := by
  constructor
  · rw [IntKind.wrap_i64]; omega
  · rw [wrap64]; omega
theorem wrap_small8 {N : Nat} (h : N ≤ 137438953472) : IntKind.i64.wrap (N : Int) = (N : Int) ∧ wrap64 (N : Int) = (N : Int) := by
  constructor
  · rw [IntKind.wrap_i64]; omega
  · rw [wrap64]; omega
theorem small_len {N : Nat} (h : N ≤ 17179869184) : N ≤ maxLen := by unfold maxLen; omega
theorem small_48 {N : Nat} (h : N ≤ 17179869184) : 8 * N ≤ 281474976710656 := by omega
theorem mul_four {n W : Nat} (hn : n < 4294967296) (hW : W ≤ 4) : n * W ≤ 17179869184 := by
  calc n * W ≤ 4294967296 * 4 := Nat.mul_le_mul (by omega) hW
    _ = 17179869184 := rfl
theorem run_upto1 {P : Program} {t e : TypeId} {i : TypeInfo} {size : Nat} (ht : P.underlying t = some (.slice e)) (hi : P.info? e = some i) (hs : i.size = size) (A : Option Addr) (n c m : Nat) (h1 : m ≤ c) (w : World) :
    (Instr.slice t (.slice A n c) none (some (.int .i64 (m : Int))) none).run P w = .ok (.slice A m c) w := by
  have h2 : (m : Int) ≤ (c : Int) := by omega
  have h3 : (0 : Int) ≤ (m : Int) := by omega
  simp [Instr.slice, run_underlying ht, Instr.sliceBounds, Instr.sliceBound, asIntOf, go_sem, sizeOf, typeInfo, hi, hs, h1, h2, h3]
/-- While a line is read: the reader, the numbers' row (block F), the result's cell. -/
structure LnI (S : Nat → Prop) (w : World) (P F : Nat) (big : Bool) (r : List Nat) (cur : List Value) (wx : World) : Prop where
  ws : WPs S wx P big r
  fb : wx.heap[F]? = some (.cells cur.toArray 31 (0, 0))
  zb : Blk wx w.heap.size 83 #[.int .u8 0, .slice none 0 0]
  gr : w.grownBy wx (some P)
  lo : P < w.heap.size
  hi : w.heap.size < F
theorem LnI.go {S : Nat → Prop} {w : World} {P F : Nat} {big : Bool} {r : List Nat} {cur : List Value} {wx wy : World} (h : LnI S w P F big r cur wx) (ho : wy.os = wx.os) (ht : wy.tape = wx.tape) (hu : wy.output = wx.output) (hs : wx.heap.size ≤ wy.heap.size) (hb : ∀ b, b ≤ F → wy.heap[b]? = wx.heap[b]?) : LnI S w P F big r cur wy := by
  have hl := h.lo
  have hh := h.hi
  refine ⟨?_, (hb F (Nat.le_refl _)).trans h.fb, h.zb.of_heap (hb _ (by omega)), ⟨ho.trans h.gr.os, ht.trans h.gr.tape, hu.trans h.gr.output, Nat.le_trans h.gr.size hs, fun j hj hne => (hb j (by omega)).trans (h.gr.block j hj hne)⟩, hl, hh⟩
  obtain ⟨h0, A, n, c, h1, h2, h3, h4, h5, h6⟩ := h.ws
  exact ⟨h0, A, n, c, h1.of_heap (hb P (by omega)), h2, h3, h4, h5, h6.keep ⟨hs, fun b _ hsb => hb b (by have := h0 b hsb; omega)⟩⟩
theorem LnI.below {S : Nat → Prop} {w : World} {P F : Nat} {big : Bool} {r : List Nat} {cur : List Value} {wx wy : World} {B : Nat} (h : LnI S w P F big r cur wx) (hb : Below B wx wy) (hB : F < B) : LnI S w P F big r cur wy :=
  h.go hb.os hb.tape hb.output hb.size (fun b hbb => hb.block b (by omega))
theorem LnI.grown {S : Nat → Prop} {w : World} {P F : Nat} {big : Bool} {r : List Nat} {cur : List Value} {wx wy : World} {Q : Nat} (h : LnI S w P F big r cur wx) (hb : wx.grownBy wy (some Q)) (hQ : F < Q) : LnI S w P F big r cur wy :=
  h.go hb.os hb.tape hb.output hb.size (fun b hbb => hb.block b (by have := (Array.getElem?_eq_some_iff.1 h.fb).1; omega) (fun e => by have := Option.some.inj e; omega))
theorem WPs.belowB {S : Nat → Prop} {w w' : World} {P B : Nat} {big : Bool} {l : List Nat} (h : WPs S w P big l) (hb : Below B w w') (hB : P < B) : WPs S w' P big l := by
  obtain ⟨h0, A, n, c, h1, h2, h3, h4, h5, h6⟩ := h
  exact ⟨h0, A, n, c, h1.below hb hB, h2, h3, h4, h5, h6.keep ⟨hb.size, fun b _ hs => hb.block b (by have := h0 b hs; omega)⟩⟩
theorem src_bytes {S : Nat → Prop} {w w' : World} {A : Option Addr} {n m : Nat} {r : List Nat} (hA : SlS S w A n 1 (BL r)) (hm : 0 < m) (hmn : m ≤ n) (hb : Below w.heap.size w w') : ∃ ad, A = some ad ∧ ∀ j v, (BL (r.take m))[j]? = some v → w'.cell? (ad.add j) = some v := by
  obtain ⟨b, off, rfl, hlt, hcell⟩ := hA.1.2.2 (by omega)
  refine ⟨_, rfl, fun j v hj => ?_⟩
  rw [mem.add_plain]
  refine (hb.cell (p := ⟨b, off + j, none⟩) hlt).trans (hcell j v ?_)
  rw [BL_take, List.getElem?_take] at hj
  split at hj
  · exact hj
  · cases hj
theorem flips_byt : ∀ (n : Nat) (l : List Nat), Byt l → Byt (flips n l)
  | 0, _, _ => fun b hb => by cases hb
  | n + 1, l, h => fun b hb => by
    rw [flips] at hb
    rcases List.mem_append.1 hb with hb | hb
    · exact h b (List.mem_of_mem_take (List.mem_reverse.1 hb))
    · exact flips_byt n _ (h.drop 8) b hb
/-- The bytes of a line's numbers, the least first. -/
def SdI (S : Nat → Prop) (w : World) (P F : Nat) (big : Bool) (r : List Nat) (cur : List Value) (N N8 : Nat) (v : Value) (wx : World) : Prop :=
  ∃ (A : Option Addr) (c : Nat) (sd : List Nat), v = .slice A N8 c ∧ LnI S w P F big r cur wx ∧ sd.length = N8 ∧ N8 ≤ c ∧ Byt sd ∧ SlS (fun a => a ≠ P ∧ a ≠ F ∧ a ≠ w.heap.size) wx A N8 1 (BL sd) ∧ numsB false N sd = numsB big N r
set_option maxHeartbeats 8000000 in
set_option maxRecDepth 100000 in
theorem parseLn_calls {S : Nat → Prop} {w : World} {P d : Nat} {big : Bool} {l : List Nat} (hd : d < 4) (h : WPs S w P big l) :
    Calls Tryz.prog 165 #[.pointer (some ⟨P, 0, none⟩), .int .u8 d] w (PKPost S w P big 2 (rdLp d big l)) := by
  obtain ⟨w1, hw1⟩ : ∃ w1, w1 = w.alloc (.cells #[.int .u8 0, .slice none 0 0] 83) := ⟨_, rfl⟩
  have hb1 : Below w.heap.size w w1 := by rw [hw1]; exact (Below.refl _ _).alloc (Nat.le_refl _) _
  have hz1 : Blk w1 w.heap.size 83 #[.int .u8 0, .slice none 0 0] := by rw [hw1]; exact Blk.new _ _ _
  have HP := Lib.hid (parse32_calls (h.below hb1))
  have hlt0 : ∀ y r, rdU 4 big l = some (y, r) → y < 4294967296 ∧ r.length ≤ 2000 := fun y r e => ⟨by have := rdU_lt1 h.byt.1 e; simpa using this, by have := (rdU_len e).1; have := h.byt.2; omega⟩
  obtain ⟨o, ho⟩ : ∃ o, o = rdLp d big l := ⟨_, rfl⟩
  rw [← ho]
  have HO := Lib.hid ho
  have HW1 := Lib.hid hw1
  have HB1 := Lib.hid hb1
  have HZ1 := Lib.hid hz1
  have hPw := h.lt
  have HD := Lib.hid (@dim_calls d hd)
  have hne : w.heap.size ≠ P := by omega
  clear hw1 hb1 hz1 h ho
  go_enter Tryz.func165, Tryz.ntmps165
  go_wp2_with fail
  rw [← HW1.out]
  refine HP.out.mono ?_
  rintro e w2 ⟨hg, hx⟩
  have HG := Lib.hid hg
  have hz2 := HZ1.out.grown hg (fun e => hne (Option.some.inj e))
  have HZ2 := Lib.hid hz2
  have hgr2 : w.grownBy w2 (some P) := grown_trans (grown_below HB1.out) hg
  have HGR2 := Lib.hid hgr2
  obtain ⟨z0, z1, y0, y1, zl⟩ := cells2 hz2
  clear hg hz2 hgr2
  have HERR := Lib.hid (show ∀ (wx : World) (u0 u1 : Value) (T : TypeId) (v : Value), w.grownBy wx (some P) → Bod wx P → o = none → PKPost S w P big 2 o (.returned (.tuple #[.agg #[.int .u8 0, .slice none 0 0], .iface T v])) ((wx.setCell ⟨w.heap.size, 0, none⟩ u0).setCell ⟨w.heap.size, 1, none⟩ u1) from fun wx u0 u1 T v hg hbo ho => by
    subst ho
    refine ⟨.ln 0 none 0 [], rfl, ?_, far_grown (far_grown hg (Nat.le_refl _) 0 u0) (Nat.le_refl _) 1 u1, (hbo.far (i := 0) hPw u0).far (i := 1) hPw u1, T, v, rfl⟩
    rw [MG.In]
    exact ⟨by decide, rfl, Nat.zero_le _, ⟨Sl.nil _ _ _, fun h => absurd h (Nat.lt_irrefl 0)⟩⟩)
  cases hu : rdU 4 big l with
  | none =>
    rw [hu] at hx
    obtain ⟨hbo, T, xe, rfl⟩ := hx
    have HBO := Lib.hid hbo
    clear hbo
    have ho : o = none := by rw [HO.out]; unfold rdLp; rw [hu]
    have HON := Lib.hid ho
    clear ho
    go_wp2_with fail
    refine bodyPost_ret (v := .tuple #[.agg #[.int .u8 0, .slice none 0 0], .iface T xe]) (by simp [results, Tryz.results165, go_sem, z0, z1, zl]) rfl ?_
    exact HERR.out _ _ _ _ _ HGR2.out HBO.out HON.out
  | some q =>
    obtain ⟨n, r⟩ := q
    rw [hu] at hx
    obtain ⟨rfl, hws⟩ := hx
    obtain ⟨hn, hr2⟩ := hlt0 n r hu
    have HWS := Lib.hid hws
    have h2 := wd_two d
    obtain ⟨W, hW⟩ : ∃ W, W = wd d := ⟨_, rfl⟩
    rw [← hW] at h2 HD
    obtain ⟨N, hN⟩ : ∃ N, N = n * W := ⟨_, rfl⟩
    have hNb : N ≤ 17179869184 := by
      rw [hN]
      exact mul_four hn h2.2
    have hmulE : (n : Int) * (W : Int) = (N : Int) := by rw [hN]; exact (Int.natCast_mul n W).symm
    have hmul : IntKind.i64.wrap ((n : Int) * (W : Int)) = (N : Int) := by rw [hmulE]; exact (wrap_small hNb).1
    have hmul2 : wrap64 ((n : Int) * (W : Int)) = (N : Int) := by rw [hmulE]; exact (wrap_small hNb).2
    have hNe : n * wd d = N := by rw [hN, hW]
    have HO2 := Lib.hid (show o = if r.length < 8 * N then none else some (.mk 2 d (numsB big N r) [], r.drop (8 * N)) by rw [HO.out]; unfold rdLp; rw [hu]; simp only; rw [hNe])
    have hev : N % wd d = 0 := by rw [← hNe]; exact mul_mod_wd _ _
    have HEV := Lib.hid hev
    obtain ⟨i0, hi, hzz0, hzz1, hzz2⟩ := info_parts infoF
    have hb48 : i0.bytes * N ≤ 281474976710656 := by rw [hzz2]; exact small_48 hNb
    have HWE := Lib.hid hW
    clear hws hlt0 hu hN hW hNe hev hmulE
    go_wp2_with fail
    refine (HD.out _).mono ?_
    rintro e w9 ⟨rfl, hw9⟩
    obtain rfl := hw9.symm
    clear hw9
    go_upto_region 5 with (at_make; refine wpList_make_full _ rfl (.tmp 24) (.tmp 24) 22 rfl w2.heap.size 31 i0 _ 1 Tryz.underlying22 hi hzz0 hzz1 .i64 .i64 _ _ N rfl rfl rfl rfl hb48 (small_len hNb) (Nat.le_refl _) ?_; intro w3 hown hgrow
                           obtain ⟨cur, hcur, hcl⟩ := rowMade hown
                           have HCUR := Lib.hid hcur
                           have HCL := Lib.hid hcl
                           have hb3 : Below w2.heap.size w2 w3 := (Below.refl w2.heap.size w2).grown hgrow (Nat.le_refl _) (fun q hq => by cases hq)
                           have HB3 := Lib.hid hb3
                           obtain ⟨hS0, A, nr, c, hBk, hnr, hcc, h2000, hbyt, hAA⟩ := HWS.out.below hb3
                           obtain rfl := hnr
                           obtain ⟨c0, c1, c2, f0, f1, f2, hlt⟩ := cells3 hBk
                           have HAA := Lib.hid hAA
                           have HBYT := Lib.hid hbyt
                           have HS0 := Lib.hid hS0
                           clear hown hgrow hcur hcl hb3 hBk hbyt hAA hS0)
    have hLI : LnI S w P w2.heap.size big r cur w3 := by
      refine ⟨HWS.out.below HB3.out, HCUR.out, HZ2.out.below HB3.out HZ2.out.lt, grown_trans HGR2.out (grown_below HB3.out), hPw, HZ2.out.lt⟩
    have HLI := Lib.hid hLI
    clear hLI
    have h8N : 8 * N ≤ 137438953472 := by omega
    have w8 := wrap_small8 h8N
    have m8 : 8 * (N : Int) = ((8 * N : Nat) : Int) := by omega
    obtain ⟨N8, hN8⟩ : ∃ N8, N8 = 8 * N := ⟨_, rfl⟩
    rw [← hN8] at m8 w8
    obtain ⟨w81, w82⟩ := w8
    have HN8 := Lib.hid hN8
    obtain ⟨z0, z1, y0, y1, zl⟩ := cells2 HLI.out.zb
    obtain ⟨F, hF⟩ : ∃ F, F = w2.heap.size := ⟨_, rfl⟩
    rw [← hF] at HLI
    by_cases hsh : r.length < N8
    · have hshI : (r.length : Int) < (N8 : Int) := by omega
      have HON := Lib.hid (show o = none by rw [HO2.out, if_pos (by omega)])
      clear hN8 h8N hF
      go_wp2_with fail
      refine bodyPost_ret (v := .tuple #[.agg #[.int .u8 0, .slice none 0 0], .iface 207 ?_]) (by simp [results, Tryz.results165, go_sem, z0, z1, zl]; rfl) rfl ?_
      exact HERR.out _ _ _ _ _ HLI.out.gr HLI.out.ws.bod HON.out
    · have hshI : ¬ (r.length : Int) < (N8 : Int) := by omega
      clear hN8 h8N
      have hN82 : N8 ≤ 2000 := by omega
      have hN250 : N ≤ 250 := by have := HN8.out; omega
      obtain ⟨i1, hi1, hz11, hz12, hz13⟩ := info_parts infoB
      have hup := fun w => run_upto1 (P := Tryz.prog) Tryz.underlying34 hi1 hz12 A r.length c N8 (by omega) w
      have hFw3 : F < w3.heap.size := by
        have := (Array.getElem?_eq_some_iff.1 HLI.out.fb).1
        exact this
      have hb1x : i1.bytes * N8 ≤ 281474976710656 := by rw [hz13]; omega
      go_upto_if 41 with fail
      go_cut [9] (fun v wx => SdI S w P F big r cur N N8 v wx)
      case first =>
        cases big with
        | false =>
          go_wp2_with fail
          go_meet
          refine ⟨A, c, r.take N8, rfl, HLI.out, by rw [List.length_take]; omega, by omega, HBYT.out.take N8, ?_, ?_⟩
          · rw [BL_take]
            refine SlS.less (HAA.out.head1 (by omega)) (fun a ha => ?_)
            have h1 := HS0.out a ha
            have h2 := HLI.out.hi
            exact ⟨by omega, by omega, by omega⟩
          · rw [HN8.out, numsB_take]
        | true =>
          have HSRC := Lib.hid (fun (h0 : 0 < N8) w' (hb : Below w3.heap.size w3 w') => src_bytes (m := N8) HAA.out h0 (by omega) hb)
          have HFLIP := Lib.hid (show ∀ w', Row w' w3.heap.size 5 (BL (r.take N8)) → Calls Tryz.prog 176 #[.slice (some ⟨w3.heap.size, 0, none⟩) N8 N8] w' (fun e w'' => e = .returned (.tuple #[]) ∧ w'.grownBy w'' (some w3.heap.size) ∧ Row w'' w3.heap.size 5 (BL (flips N (r.take N8)))) from fun w' hR => by
            have h1 := flip_calls w3.heap.size N N8 (r.take N8) (by rw [List.length_take, HN8.out]; have := HN8.out; omega) (by have := HN8.out; omega) w' hR
            rwa [← HN8.out] at h1)
          go_wp2_with (first
            | (at_make; refine wpList_make_full _ rfl (.tmp 52) (.tmp 52) 34 rfl w3.heap.size 5 i1 _ 1 Tryz.underlying34 hi1 hz11 hz12 .i64 .i64 _ _ N8 rfl rfl rfl rfl hb1x (by unfold maxLen; omega) (Nat.le_refl _) ?_; intro w4 hown4 hgrow4
               obtain ⟨cur4, hcur4, hcl4⟩ := rowMade hown4
               have hb4 : Below w3.heap.size w3 w4 := (Below.refl w3.heap.size w3).grown hgrow4 (Nat.le_refl _) (fun q hq => by cases hq)
               have HCUR4 := Lib.hid hcur4
               have HCL4 := Lib.hid hcl4
               have HB4 := Lib.hid hb4
               have c0 := (hb4.cell (p := ⟨P, 0, none⟩) hlt).trans c0
               clear hown4 hgrow4 hcur4 hcl4 hb4)
            | (with_reducible refine wpList_copy_splice (o := ⟨some 59, _, _, _, _, _⟩) rfl (.tmp 54) (.tmp 58) 34 34 rfl 5 Tryz.underlying34 infoB1 (some ⟨w3.heap.size, 0, none⟩) A N8 N8 r.length c rfl rfl w3.heap.size 0 cur4 5 HCUR4.out (BL (r.take N8)) (by rw [BL_len, List.length_take]; exact Nat.min_comm _ _) (fun h => ⟨rfl, HSRC.out (by rw [BL_len, List.length_take] at h; omega) w4 HB4.out⟩) (by rw [HCL4.out, BL_len, List.length_take]; omega) (BL_one _) w3.heap.size w4 (Below.refl _ _) (Nat.le_refl _) ?_; intro w5 HG5 hb5
               have hg5 := HG5.out
               rw [splice_all (by rw [HCL4.out, BL_len, List.length_take]; omega)] at hg5
               have HR5 := Lib.hid (Row.of_blk (blkIs hg5))
               have HB5 := Lib.hid hb5
               clear hg5 hb5))
          refine (HFLIP.out _ HR5.out).mono ?_
          rintro e w6 ⟨rfl, hg6, hr6⟩
          have HG6 := Lib.hid hg6
          have HR6 := Lib.hid hr6
          clear hg6 hr6
          go_wp2_with fail
          go_meet
          have hln := (((HLI.out.below HB4.out hFw3).below HB5.out hFw3).grown HG6.out hFw3)
          have hlen : (r.take N8).length = N8 := by rw [List.length_take]; omega
          have hn8 := HN8.out
          have hfl := flips_len N (r.take N8) (by omega)
          refine ⟨some ⟨w3.heap.size, 0, none⟩, N8, flips N (r.take N8), rfl, hln, by omega, Nat.le_refl _, flips_byt _ _ (HBYT.out.take N8), ⟨HR6.out.sl (by rw [BL_len]; omega) (by unfold maxLen; omega), fun _ a ha => ?_⟩, ?_⟩
          · have := Option.some.inj ha
            subst this
            have h2 := HLI.out.hi
            have h3 := HLI.out.lo
            exact ⟨by show w3.heap.size ≠ P; omega, by show w3.heap.size ≠ F; omega, by show w3.heap.size ≠ w.heap.size; omega⟩
          · rw [flips_nums N _ (by omega), hn8, numsB_take]
      case rest =>
        subst hF
        obtain ⟨A', c', sd, rfl, hln, hsl, hc8, hsb, hss, hnm⟩ := hcut
        have HLN := Lib.hid hln
        have HSS := Lib.hid hss
        have HNM := Lib.hid hnm
        have HSB := Lib.hid hsb
        have HSLN := Lib.hid hsl
        clear hln hss hnm hsb hsl c0 c1 c2 f0 f1 f2 hlt z0 z1 y0 y1 zl hup
        obtain ⟨hS0, Ab, nr, cb, hBk, hnr, hccb, h2000b, hbytb, hAb⟩ := HLN.out.ws
        obtain rfl := hnr
        obtain ⟨c0, c1, c2, f0, f1, f2, hlt⟩ := cells3 hBk
        obtain ⟨A2, hA2e⟩ : ∃ A2, A2 = if cb = N8 then Ab else Ab.map (·.add (N8 * 1)) := ⟨_, rfl⟩
        have hsl : ∀ w, (Instr.slice 34 (.slice Ab r.length cb) (some (.int .i64 (N8 : Nat))) none none).run Tryz.prog w = .ok (.slice A2 (r.length - N8) (cb - N8)) w := fun w => by
          rw [hA2e]
          exact run_from (P := Tryz.prog) Tryz.underlying34 hi1 hz12 Ab r.length cb N8 (by omega) hccb w
        have hA2 := hAb.from1 (show N8 ≤ r.length by omega) hccb
        rw [← hA2e] at hA2
        have HWP := Lib.hid (WPs.step (m := N8) hS0 hBk rfl hccb h2000b hbytb (by omega) hA2)
        have HFC := Lib.hid (fun w' (ha : SlS (fun a => a ≠ P ∧ a ≠ w2.heap.size ∧ a ≠ w.heap.size) w' A' N8 1 (BL sd)) => show Calls Tryz.prog 177 #[.slice A' N8 c'] w' (BFPost w' (numsB false N sd)) from by
          have h1 := HN8.out
          have h2 := floats_calls (m := N) (c := c') (l := sd) (by rw [← h1]; exact HSLN.out) (by omega) (by omega) HSB.out (by rw [← h1]; exact ha)
          rw [← h1] at h2
          exact h2)
        clear hBk hAb hA2 hA2e hbytb hS0
        obtain ⟨fs, hfs⟩ : ∃ fs, fs = numsB false N sd := ⟨_, rfl⟩
        rw [← hfs] at HFC HNM
        have hfl : fs.length = N := by rw [hfs, numsB_len]
        have HFL := Lib.hid hfl
        clear hfs hfl
        go_wp2_with fail
        obtain ⟨wq, hwq⟩ : ∃ wq, wq = wc.setCell ⟨P, 0, none⟩ (.slice A2 (r.length - N8) (cb - N8)) := ⟨_, rfl⟩
        rw [← hwq] at HWP ⊢
        have hlo := HLN.out.lo
        have hhi := HLN.out.hi
        have hss' : SlS (fun a => a ≠ P ∧ a ≠ w2.heap.size ∧ a ≠ w.heap.size) wq A' N8 1 (BL sd) := by rw [hwq]; exact HSS.out.keep (Keeps.set (p := ⟨P, 0, none⟩) (fun h => h.1 rfl) _)
        have HFBq := Lib.hid (show wq.heap[w2.heap.size]? = some (.cells cur.toArray 31 (0, 0)) by rw [hwq, Below.heap_setCell wc ⟨P, 0, none⟩ _ w2.heap.size (show w2.heap.size ≠ P by omega)]; exact HLN.out.fb)
        have HZBq := Lib.hid (show Blk wq w.heap.size 83 #[.int .u8 0, .slice none 0 0] by rw [hwq]; exact HLN.out.zb.far (p := ⟨P, 0, none⟩) (show w.heap.size ≠ P by omega) _)
        have HGRq := Lib.hid (show w.grownBy wq (some P) by rw [hwq]; exact grown_trans HLN.out.gr (grown_set wc ⟨P, 0, none⟩ _))
        have hwqs : w2.heap.size < wq.heap.size := (Array.getElem?_eq_some_iff.1 HFBq.out).1
        clear hwq c0 c1 c2 f0 f1 f2 hlt hsl
        refine (HFC.out _ hss').mono ?_
        rintro e w5 ⟨A5, rfl, hs5, hb5⟩
        rw [HFL.out] at hs5 ⊢
        have HB5 := Lib.hid hb5
        have HS5 := Lib.hid hs5
        have hw5s := hb5.size
        have HF5 := Lib.hid ((hb5.block _ hwqs).trans HFBq.out)
        have HSRC := Lib.hid (show 0 < N → ∃ ad, A5 = some ad ∧ ∀ j v, (FL fs)[j]? = some v → w5.cell? (ad.add j) = some v from fun h0 => by
          obtain ⟨b, off, rfl, hlt, hcell⟩ := HS5.out.1.2.2 h0
          exact ⟨_, rfl, fun j v hj => by rw [mem.add_plain]; exact hcell j v hj⟩)
        have hNS := fun w => newSeq_calls (some ⟨w2.heap.size, 0, none⟩) N N d hd (by show N ≤ 17592186044416; omega) HEV.out w
        have HNS := Lib.hid hNS
        clear hb5 hs5 hss' hNS
        go_wp2_with (with_reducible refine wpList_copy_splice (o := ⟨some 76, _, _, _, _, _⟩) rfl (.tmp 73) (.tmp 75) 22 22 rfl 31 Tryz.underlying22 infoF1 (some ⟨w2.heap.size, 0, none⟩) A5 N N N N rfl rfl w2.heap.size 0 cur 31 HF5.out (FL fs) (by rw [FL_len, HFL.out]; exact (Nat.min_self N).symm) (fun h => ⟨rfl, HSRC.out (by rw [FL_len, HFL.out] at h; exact h)⟩) (by rw [FL_len, HFL.out, HCL.out]; omega) (FL_one _) w2.heap.size w5 (Below.refl _ _) (Nat.le_refl _) ?_; intro w6 HG6 hb6
                     have HB6 := Lib.hid hb6
                     have hg6 := HG6.out
                     rw [splice_all (by rw [HCL.out, FL_len, HFL.out, Nat.mul_one])] at hg6
                     have HF6 := Lib.hid (Row.of_blk (blkIs hg6))
                     have hw6s := hb6.size
                     clear hg6 hb6)
        refine (HNS.out _).mono ?_
        rintro e w7 ⟨rfl, hb7⟩
        have HB7 := Lib.hid hb7
        have hw7s := hb7.size
        clear hb7
        go_wp2_with fail
        refine (newLine_calls d (some ⟨w2.heap.size, 0, none⟩) N N _).mono ?_
        rintro e w8 ⟨rfl, hb8⟩
        have hb78 : Below w7.heap.size w7 w8 := ((Below.refl w7.heap.size w7).alloc (Nat.le_refl _) _).trans (hb8.mono (by simp))
        have HB8 := Lib.hid hb78
        have hw8s := hb78.size
        have hz8 := (((HZBq.out.below HB5.out HZBq.out.lt).below HB6.out hhi).below HB7.out (by omega)).below hb78 (by omega)
        obtain ⟨z0, z1, y0, y1, zl⟩ := cells2 hz8
        clear hb8 hb78 hz8
        go_wp2_with fail
        refine bodyPost_ret (v := .tuple #[.agg #[.int .u8 d, .slice (some ⟨w2.heap.size, 0, none⟩) N N], .nilIface]) (by simp [results, Tryz.results165, go_sem, z0, z1, zl]) rfl ?_
        have hgr8 : w.grownBy w8 (some P) := by
          refine ⟨HB8.out.os.trans (HB7.out.os.trans (HB6.out.os.trans (HB5.out.os.trans HGRq.out.os))), HB8.out.tape.trans (HB7.out.tape.trans (HB6.out.tape.trans (HB5.out.tape.trans HGRq.out.tape))), HB8.out.output.trans (HB7.out.output.trans (HB6.out.output.trans (HB5.out.output.trans HGRq.out.output))), by have := HGRq.out.size; omega, fun j hj hne => ?_⟩
          have hsz := HGRq.out.size
          rw [HB8.out.block j (by omega), HB7.out.block j (by omega), HB6.out.block j (by omega), HB5.out.block j (by omega), HGRq.out.block j hj hne]
        have hrow8 := (HF6.out.below HB7.out).below HB8.out
        have hws8 := (((HWP.out.belowB HB5.out (by omega)).belowB HB6.out (by omega)).belowB HB7.out (by omega)).belowB HB8.out (by omega)
        have hT : ¬ (fun a => w.heap.size < a) w.heap.size := Nat.lt_irrefl _
        have hsl8 : SlS (fun a => w.heap.size < a) w8 (some ⟨w2.heap.size, 0, none⟩) N 1 (FL fs) := ⟨hrow8.sl (by rw [FL_len, HFL.out, Nat.mul_one]) (by unfold maxLen; omega), fun _ a ha => by have := Option.some.inj ha; subst this; exact hhi⟩
        refine ⟨.ln d (some ⟨w2.heap.size, 0, none⟩) N fs, rfl, ?_, far_grown (far_grown hgr8 (Nat.le_refl _) 0 _) (Nat.le_refl _) 1 _, ?_⟩
        · rw [MG.In]
          have h3 := Nat.div_le_self fs.length (wd d)
          have h4 := HFL.out
          refine ⟨hd, by rw [HFL.out]; exact HEV.out, by show fs.length / wd d * 4 ≤ 17592186044416; omega, ?_⟩
          rw [HFL.out]
          exact SlS.less (hsl8.keep (((Keeps.refl _ w8).setFar hT _).setFar hT _)) (fun a ha => Nat.le_of_lt ha)
        · rw [HO2.out, if_neg (by have := HN8.out; omega)]
          refine ⟨by show _ = Ending.returned (.tuple #[.agg #[.int .u8 d, .slice (some ⟨w2.heap.size, 0, none⟩) fs.length N], .nilIface]); rw [HFL.out], by rw [MG.plain, HNM.out], ?_⟩
          have h5 := (hws8.far (g := w.heap.size) (i := 0) hPw (.int .u8 d)).far (g := w.heap.size) (i := 1) hPw (.slice (some ⟨w2.heap.size, 0, none⟩) N N)
          rw [HN8.out] at h5
          exact h5
end Go.Proofs.YtbacakdpfiiblaaGreat.geo
