/-
  Plain: what the package reads is what the reference reads, made new. Contract of the package's reader: a whole form. Contract: the package reads one form, and tells how many bytes are left.
-/
import Derived.Test.YtbacakdpfiiblaaGreatRdE
import Derived.Test.YtbacakdpfiiblaaGreatRdN
import Derived.Test.YtbacakdpfiiblaaGreatRdPP
import Derived.Test.YtbacakdpfiiblaaGreatGeoK
import Derived.Test.YtbacakdpfiiblaaGreatRdV
import Derived.Test.YtbacakdpfiiblaaGreatRdG
namespace Go.Proofs.YtbacakdpfiiblaaGreat.geo
open Go.ChangeShapes Go.WideShapes Go.ChangeAt Go.RowKit
open Go.Proofs.YtbacakdpfiiblaaGreat.mem
set_option linter.unusedVariables false
set_option linter.unusedSimpArgs false

/-- What follows a head, as the package reads it. -/
def rdP (fi : List Nat → Option (PG × List Nat)) (k d : Nat) (big : Bool) (bs : List Nat) : Option (PG × List Nat) :=
  if k = 1 then rdPt d big bs else if k = 2 then rdLp d big bs else if k = 3 then rdMp (rdLp d big) 3 d big bs else rdMp (fItem fi (kidK k)) k d big bs
/-- Made new. -/
def mkNew (p : PG × List Nat) : PG × List Nat := (p.1.new, p.2)
theorem kd_nat {k : Nat} (h : k < 7) : kd (k : Int) = k := by unfold kd; rw [if_neg (by omega)]
theorem new_pt {d : Nat} (hd : d < 4) {ns : List Nat} (h : ns.length = wd d ∨ ns = []) : (PG.mk 1 d ns []).new = .mk 1 d ns [] := by
  have h2 := wd_two d
  rw [new_eq, if_pos (show kd 1 = 1 from rfl), dm_nat hd]
  congr 1
  rcases h with h | rfl
  · rw [h, Nat.div_self (by omega), Nat.min_self, Nat.one_mul, ← h, List.take_length]
  · simp
theorem new_ln {d : Nat} (hd : d < 4) {ns : List Nat} (h : ns.length % wd d = 0) : (PG.mk 2 d ns []).new = .mk 2 d ns [] := by
  rw [new_eq, if_neg (show ¬ kd 2 = 1 by decide), if_pos (show kd 2 = 2 from rfl), dm_nat hd]
  congr 1
  rw [Nat.div_mul_cancel (Nat.dvd_of_mod_eq_zero h), List.take_length]
theorem law_pt {f : Int → List Nat → Option (PG × List Nat)} {big : Bool} {d : Nat} (hd : d < 4) (bs : List Nat) : rdPt d big bs = (rdB f false big 1 d bs).map mkNew := by
  rw [rdB_pt]
  unfold rdPt
  cases hn : rdN big (wd d) bs with
  | none => rfl
  | some p =>
    obtain ⟨ns, r⟩ := p
    have h1 := (rdN_len hn).2.2
    simp only [Bool.not_false, Bool.and_true]
    split
    · rw [Option.map_some, mkNew, new_pt hd (.inr rfl)]
    · split
      · rfl
      · rw [Option.map_some, mkNew, new_pt hd (.inl h1)]
theorem law_lp {big : Bool} {d : Nat} (hd : d < 4) {bs : List Nat} (hb : bs.length ≤ 2000) : rdLp d big bs = (rdL d big bs).map (fun p => ((PG.mk 2 d p.1 []).new, p.2)) := by
  have hw := wd_two d
  unfold rdLp rdL rdC
  cases hu : rdU 4 big bs with
  | none => rfl
  | some p =>
    obtain ⟨n, r⟩ := p
    have h1 := (rdU_len hu).1
    simp only
    have h2 : n * 2 ≤ n * wd d := Nat.mul_le_mul_left _ hw.1
    by_cases hn : 4096 < n
    · rw [if_pos hn, if_pos (show r.length < 8 * (n * wd d) by omega)]
      rfl
    · rw [if_neg hn]
      simp only
      rw [rdN_eq]
      by_cases hl : r.length < 8 * (n * wd d)
      · rw [if_pos hl, if_pos hl]; rfl
      · rw [if_neg hl, if_neg hl, Option.map_some, new_ln hd (by rw [numsB_len]; exact mul_mod_wd _ _)]
/-- Parts read alike. -/
theorem rdK_map {f g : List Nat → Option (PG × List Nat)} {h : PG → PG} (hs : ∀ bs p r, f bs = some (p, r) → r.length ≤ bs.length) (hfg : ∀ bs, bs.length ≤ 2000 → g bs = (f bs).map (fun p => (h p.1, p.2))) : ∀ (n : Nat) (bs : List Nat), bs.length ≤ 2000 → rdK g n bs = (rdK f n bs).map (fun p => (p.1.map h, p.2))
  | 0, bs, _ => rfl
  | n + 1, bs, hb => by
    rw [rdK, rdK, hfg bs hb]
    cases hf : f bs with
    | none => rfl
    | some p =>
      obtain ⟨p, r⟩ := p
      have h1 := hs _ _ _ hf
      simp only [Option.map_some]
      rw [rdK_map hs hfg n r (by omega)]
      cases rdK f n r with
      | none => rfl
      | some q => rfl
/-- Parts of four bytes at least each. -/
theorem rdK_many {g : List Nat → Option (PG × List Nat)} (hs : ∀ bs p r, g bs = some (p, r) → r.length + 4 ≤ bs.length) : ∀ (n : Nat) (bs : List Nat) (q : List PG × List Nat), rdK g n bs = some q → 4 * n ≤ bs.length
  | 0, bs, q, _ => by omega
  | n + 1, bs, q, hq => by
    rw [rdK] at hq
    cases hf : g bs with
    | none => rw [hf] at hq; cases hq
    | some p =>
      obtain ⟨p, r⟩ := p
      rw [hf] at hq
      simp only at hq
      have h1 := hs _ _ _ hf
      cases hr : rdK g n r with
      | none => rw [hr] at hq; cases hq
      | some q2 =>
        have h2 := rdK_many hs n r q2 hr
        omega
theorem rdK_all {f : List Nat → Option (PG × List Nat)} {Q : PG → Prop} (hf : ∀ bs g r, f bs = some (g, r) → Q g) : ∀ (n : Nat) (bs : List Nat) (L : List PG) (r : List Nat), rdK f n bs = some (L, r) → ∀ g ∈ L, Q g
  | 0, bs, L, r, h => by
    obtain ⟨rfl, rfl⟩ := Prod.mk.inj (Option.some.inj h)
    exact fun g hg => by cases hg
  | n + 1, bs, L, r, h => by
    rw [rdK] at h
    cases hu : f bs with
    | none => rw [hu] at h; cases h
    | some p =>
      obtain ⟨g0, r2⟩ := p
      rw [hu] at h
      simp only at h
      cases hv : rdK f n r2 with
      | none => rw [hv] at h; cases h
      | some p =>
        obtain ⟨l2, r3⟩ := p
        rw [hv] at h
        obtain ⟨rfl, rfl⟩ := Prod.mk.inj (Option.some.inj h)
        intro g hg
        rcases List.mem_cons.1 hg with rfl | hg
        · exact hf _ _ _ hu
        · exact rdK_all hf n r2 l2 r3 hv g hg
/-- Several parts. -/
theorem law_mp {F : Int → List Nat → Option (PG × List Nat)} {f g : List Nat → Option (PG × List Nat)} {big : Bool} {k d : Nat} (hk : k < 7) (h1 : k ≠ 1) (h2 : k ≠ 2) (hd : d < 4)
    (hs : ∀ bs p r, f bs = some (p, r) → r.length + 4 ≤ bs.length ∧ fitsK k p.new = true) (hfg : ∀ bs, bs.length ≤ 2000 → g bs = (f bs).map mkNew) {bs : List Nat} (hb : bs.length ≤ 2000)
    (hB : ∀ n r, (if k = 3 then rdR d big n r else rdK (F (kidK k)) n r) = rdK f n r) : rdMp g k d big bs = (rdB F false big k d bs).map mkNew := by
  rw [rdB_mu h1 h2]
  unfold rdMp rdC
  cases hu : rdU 4 big bs with
  | none => rfl
  | some p =>
    obtain ⟨n, r⟩ := p
    have h3 := (rdU_len hu).1
    simp only
    rw [rdK_map (h := PG.new) (fun bs p r e => by have := (hs _ _ _ e).1; omega) hfg n r (by omega)]
    by_cases hn : 4096 < n
    · rw [if_pos hn]
      cases hq : rdK f n r with
      | none => rfl
      | some q =>
        have := rdK_many (fun bs p r e => (hs _ _ _ e).1) n r q hq
        omega
    · rw [if_neg hn]
      simp only
      rw [hB]
      cases hq : rdK f n r with
      | none => rfl
      | some q =>
        obtain ⟨L, r2⟩ := q
        simp only [Option.map_some]
        rw [mkNew]
        simp only
        congr 2
        have hall : ∀ g ∈ L, fitsK k g.new = true := rdK_all (fun bs p r e => (hs _ _ _ e).2) n r L r2 hq
        rw [new_eq, kd_nat hk, dm_nat hd, if_neg (by omega), if_neg (by omega), List.filter_eq_self.2 (fun g hg => by
          obtain ⟨g', hg', rfl⟩ := List.mem_map.1 hg
          exact hall g' hg')]
theorem fItem_eq {fuel : Nat} {z : Int} {bs : List Nat} : fItem (rdG false fuel (-1)) z bs = (rdG false fuel z bs).map mkNew := by
  rw [rdG_kind]
  unfold fItem
  cases rdG false fuel (-1) bs with
  | none => rfl
  | some p =>
    obtain ⟨p, r⟩ := p
    simp only
    by_cases h : z < 0 ∨ p.k = z
    · rw [if_pos h, if_neg (by omega)]
      rfl
    · rw [if_neg h, if_pos (by omega)]
      rfl
theorem rdG_of {fuel : Nat} {z : Int} (hz : 0 ≤ z) {bs r : List Nat} {g : PG} (h : rdG false fuel z bs = some (g, r)) : g.k = z := by
  rw [rdG_kind] at h
  cases hu : rdG false fuel (-1) bs with
  | none => rw [hu] at h; cases h
  | some p =>
    obtain ⟨p, q⟩ := p
    rw [hu] at h
    simp only at h
    split at h
    · cases h
    · obtain ⟨rfl, rfl⟩ := Prod.mk.inj (Option.some.inj h)
      omega
/-- What follows a head. -/
theorem law_rdP {fuel k d : Nat} {big : Bool} {bs : List Nat} (hk : k < 7) (hd : d < 4) (hb : bs.length ≤ 2000) : rdP (rdG false fuel (-1)) k d big bs = (rdB (rdG false fuel) false big k d bs).map mkNew := by
  unfold rdP
  by_cases h1 : k = 1
  · subst h1
    rw [if_pos rfl]
    exact law_pt hd bs
  rw [if_neg h1]
  by_cases h2 : k = 2
  · subst h2
    rw [if_pos rfl, rdB_ln, law_lp hd hb]
    cases rdL d big bs with
    | none => rfl
    | some p => rfl
  rw [if_neg h2]
  by_cases h3 : k = 3
  · subst h3
    rw [if_pos rfl]
    refine law_mp (f := fun bs => (rdL d big bs).map (fun p => (.mk 2 d p.1 [], p.2))) hk h1 h2 hd (fun bs p r e => ?_) (fun bs hb => ?_) hb (fun n r => ?_)
    · cases hu : rdL d big bs with
      | none => rw [hu] at e; cases e
      | some q =>
        obtain ⟨ns, q⟩ := q
        rw [hu] at e
        obtain ⟨rfl, rfl⟩ := Prod.mk.inj (Option.some.inj e)
        refine ⟨(rdL_len hu).2.1, ?_⟩
        unfold fitsK
        rw [PG.new_k]
        rfl
    · rw [law_lp hd hb]
      cases rdL d big bs with
      | none => rfl
      | some p => rfl
    · rw [if_pos rfl, rdR_K]
  · rw [if_neg h3]
    refine law_mp (f := rdG false fuel (kidK k)) hk h1 h2 hd (fun bs p r e => ?_) (fun bs hb => fItem_eq) hb (fun n r => by rw [if_neg h3])
    refine ⟨by have := rdG_less e; omega, ?_⟩
    unfold fitsK
    rw [PG.new_k]
    by_cases hz : kidK k < 0
    · simp [hz]
    · have h5 := rdG_of (by omega) e
      have h6 : kidK k ≤ 3 := by unfold kidK; split <;> (try split) <;> (try split) <;> omega
      rw [h5]
      simp only [decide_eq_true_eq]
      right
      unfold kd
      rw [if_neg (by omega)]
end Go.Proofs.YtbacakdpfiiblaaGreat.geo

namespace Go.Proofs.YtbacakdpfiiblaaGreat.geo
open Go.ChangeShapes Go.WideShapes Go.ChangeAt Go.RowKit
open Go.Proofs.YtbacakdpfiiblaaGreat.mem
set_option linter.unusedVariables false
set_option linter.unusedSimpArgs false

theorem rg_none1 {f : Nat} {l : List Nat} (h : rdU 1 false l = none) : rdG false (f + 1) (-1) l = none := by rw [rdG, h]
theorem rg_bad1 {f y : Nat} {l r : List Nat} (h : rdU 1 false l = some (y, r)) (hy : 1 < y) : rdG false (f + 1) (-1) l = none := by
  rw [rdG, h]; simp only; rw [if_pos hy]
theorem rg_none2 {f y : Nat} {l r : List Nat} (h : rdU 1 false l = some (y, r)) (hy : y ≤ 1) (h2 : rdU 4 (y == 0) r = none) : rdG false (f + 1) (-1) l = none := by
  rw [rdG, h]; simp only; rw [if_neg (by omega), h2]
theorem rg_bad2 {f y c : Nat} {l r r2 : List Nat} (h : rdU 1 false l = some (y, r)) (hy : y ≤ 1) (h2 : rdU 4 (y == 0) r = some (c, r2)) (hc : c % 1000 < 1 ∨ 7 < c % 1000 ∨ 3 < c / 1000) : rdG false (f + 1) (-1) l = none := by
  rw [rdG, h]; simp only; rw [if_neg (by omega), h2]; simp only; rw [if_pos hc]
theorem rg_head {f y c : Nat} {l r r2 : List Nat} (h : rdU 1 false l = some (y, r)) (hy : y ≤ 1) (h2 : rdU 4 (y == 0) r = some (c, r2)) (hc : ¬ (c % 1000 < 1 ∨ 7 < c % 1000 ∨ 3 < c / 1000)) : rdG false (f + 1) (-1) l = rdB (rdG false f) false (y == 0) (kdOf (c % 1000)) (c / 1000) r2 := by
  rw [rdG, h]; simp only; rw [if_neg (by omega), h2]; simp only; rw [if_neg hc, if_neg (fun h => absurd h.1 (by decide))]
section
variable {S : Nat → Prop} {w : World} {P N d : Nat} {big : Bool} {l : List Nat} {fi : List Nat → Option (PG × List Nat)}
/-- What follows a head, of any kind. -/
theorem root_calls (hrun : ∀ (w : World) (P : Nat) (b : Bool) (l : List Nat), WPs S w P b l → l.length ≤ N → Calls Tryz.prog 104 #[.pointer (some ⟨P, 0, none⟩)] w (PGPost S w P (fi l)))
    (hlen : ∀ bs p r, fi bs = some (p, r) → r.length ≤ bs.length) (hN : l.length ≤ N) {k : Nat} (hk : k < 7) (hd : d < 4) (h : WPs S w P big l) :
    Calls Tryz.prog 150 #[.pointer (some ⟨P, 0, none⟩), .int .i64 k, .int .u8 d] w (RtPost S w P k (rdP fi k d big l)) := by
  have h7 : k = 0 ∨ k = 1 ∨ k = 2 ∨ k = 3 ∨ k = 4 ∨ k = 5 ∨ k = 6 := by omega
  rcases h7 with rfl | rfl | rfl | rfl | rfl | rfl | rfl
  · exact root0_calls hrun hlen hN hd h
  · exact root1_calls hd h
  · exact root2_calls hd h
  · exact root3_calls hd h
  · exact root4_calls hrun hlen hN hd h
  · exact root5_calls hrun hlen hN hd h
  · exact root6_calls hrun hlen hN hd h
/-- What follows a head is a form's. -/
theorem RtPost.form {w0 : World} {f k d : Nat} {e : Ending} {w' : World} (hk : k < 7) (hd : d < 4) (hb : l.length ≤ 2000) (hs : w0.heap.size ≤ w.heap.size) (hw : w0.grownBy w (some P))
    (h : RtPost S w P k (rdP (rdG false f (-1)) k d big l) e w') : PGPost S w0 P (rdB (rdG false f) false big k d l) e w' := by
  rw [law_rdP hk hd hb] at h
  obtain ⟨hg, hx⟩ := h
  refine ⟨grown_trans hw hg, ?_⟩
  cases hB : rdB (rdG false f) false big k d l with
  | none =>
    rw [hB] at hx
    obtain ⟨hbo, v, T, x, hv, rfl⟩ := hx
    exact ⟨hbo, k, v, T, x, hv, rfl⟩
  | some p =>
    obtain ⟨p, r⟩ := p
    rw [hB] at hx
    obtain ⟨a, m, b, rfl, hin, hmk, hpl, hws⟩ := hx
    exact ⟨a, m, b, rfl, MG.less (fun q hq => Nat.le_trans hs hq) hin, by rw [hmk, (rdB_len (fun k bs g r h => rdG_len h) hB).2.1], hpl, hws⟩
end
/-- What a form's head said was bad. -/
theorem form_bad {w0 wx : World} {P : Nat} {S : Nat → Prop} {o : Option (PG × List Nat)} (ho : o = none) {e : Ending} (hg : w0.grownBy wx (some P)) (hbo : Bod wx P) (he : ∃ T x, e = .returned (.tuple #[.agg #[.int .i64 0, .nilIface], .iface T x])) : PGPost S w0 P o e wx := by
  subst ho
  obtain ⟨T, x, rfl⟩ := he
  exact ⟨hg, hbo, 0, .nilIface, T, x, .inl rfl, rfl⟩
set_option maxHeartbeats 8000000 in
set_option maxRecDepth 100000 in
/-- A whole form. -/
theorem run_calls (S : Nat → Prop) : ∀ (fuel : Nat) (w : World) (P : Nat) (b : Bool) (l : List Nat), WPs S w P b l → l.length < fuel → Calls Tryz.prog 104 #[.pointer (some ⟨P, 0, none⟩)] w (PGPost S w P (rdG false fuel (-1) l))
  | 0, w, P, b, l, h, hl => by omega
  | fuel + 1, w, P, b, l, h, hl => by
    have IH := Lib.hid (run_calls S fuel)
    obtain ⟨w1, hw1⟩ : ∃ w1, w1 = w.alloc (.cells #[.int .i64 0, .nilIface] 47) := ⟨_, rfl⟩
    have hb1 : Below w.heap.size w w1 := by rw [hw1]; exact (Below.refl _ _).alloc (Nat.le_refl _) _
    have hz1 : Blk w1 w.heap.size 47 #[.int .i64 0, .nilIface] := by rw [hw1]; exact Blk.new _ _ _
    have HS1 := Lib.hid (show w1.heap.size = w.heap.size + 1 by rw [hw1]; simp)
    have HBO := Lib.hid (order_calls (h.below hb1))
    have hPw := h.lt
    have h2000 := h.byt.2
    obtain ⟨o, ho⟩ : ∃ o, o = rdU 1 false l := ⟨_, rfl⟩
    rw [← ho] at HBO
    have HO := Lib.hid ho
    have HW1 := Lib.hid hw1
    have HB1 := Lib.hid hb1
    have HZ1 := Lib.hid hz1
    obtain ⟨F, hF⟩ : ∃ F, F = rdG false (fuel + 1) (-1) l := ⟨_, rfl⟩
    rw [← hF]
    have HF := Lib.hid hF
    clear hw1 hb1 hz1 ho h hF
    go_enter Tryz.func104, Tryz.ntmps104
    go_upto_region 1 with fail
    rw [← HW1.out]
    go_wp2_with fail
    refine HBO.out.mono ?_
    rintro e w2 ⟨hg2, hx⟩
    have hz2 := HZ1.out.grown hg2 (fun e => by have := Option.some.inj e; omega)
    have hG2 := grown_trans (grown_below HB1.out) hg2
    have HZ2 := Lib.hid hz2
    have HG2 := Lib.hid hG2
    have HG12 := Lib.hid hg2
    clear hg2 hz2 hG2
    cases o with
    | none =>
      obtain ⟨hbo, T, x, rfl⟩ := hx
      have HBO := Lib.hid hbo
      clear hbo
      obtain ⟨z0, z1, y0, y1, zl⟩ := cells2 HZ2.out
      go_wp2_with fail
      refine bodyPost_ret (v := .tuple #[.agg #[.int .i64 0, .nilIface], .iface T x]) (by simp [results, Tryz.results104, go_sem, z0, z1, zl]) rfl ?_
      exact form_bad (by rw [HF.out, rg_none1 HO.out.symm]) (far_grown (far_grown HG2.out (Nat.le_refl _) 0 _) (Nat.le_refl _) 1 _) ((HBO.out.far (i := 0) hPw _).far (i := 1) hPw _) ⟨_, _, rfl⟩
    | some p =>
      obtain ⟨y, r⟩ := p
      rcases hx with ⟨hy, hbo, T, x, rfl⟩ | ⟨hy, rfl, hws⟩
      · have HBO := Lib.hid hbo
        clear hbo
        obtain ⟨z0, z1, y0, y1, zl⟩ := cells2 HZ2.out
        go_wp2_with fail
        refine bodyPost_ret (v := .tuple #[.agg #[.int .i64 0, .nilIface], .iface T x]) (by simp [results, Tryz.results104, go_sem, z0, z1, zl]) rfl ?_
        exact form_bad (by rw [HF.out, rg_bad1 HO.out.symm hy]) (far_grown (far_grown HG2.out (Nat.le_refl _) 0 _) (Nat.le_refl _) 1 _) ((HBO.out.far (i := 0) hPw _).far (i := 1) hPw _) ⟨_, _, rfl⟩
      · have HGT := Lib.hid (gtype_reads hws)
        obtain ⟨o2, ho2⟩ : ∃ o2, o2 = rdU 4 (y == 0) r := ⟨_, rfl⟩
        rw [← ho2] at HGT
        have HO2 := Lib.hid ho2
        clear ho2 hws
        go_wp2_with fail
        refine HGT.out.mono ?_
        rintro e w3 ⟨hg3, hx⟩
        have hz3 := HZ2.out.grown hg3 (fun e => by have := Option.some.inj e; omega)
        have hG3 := grown_trans HG2.out hg3
        have HZ3 := Lib.hid hz3
        have HG3 := Lib.hid hG3
        have HG13 := Lib.hid (grown_trans HG12.out hg3)
        clear hg3 hz3 hG3
        cases o2 with
        | none =>
          obtain ⟨hbo, u, v, T, x, rfl⟩ := hx
          have HBO := Lib.hid hbo
          clear hbo
          obtain ⟨z0, z1, y0, y1, zl⟩ := cells2 HZ3.out
          go_wp2_with fail
          refine bodyPost_ret (v := .tuple #[.agg #[.int .i64 0, .nilIface], .iface T x]) (by simp [results, Tryz.results104, go_sem, z0, z1, zl]) rfl ?_
          exact form_bad (by rw [HF.out, rg_none2 HO.out.symm hy HO2.out.symm]) (far_grown (far_grown HG3.out (Nat.le_refl _) 0 _) (Nat.le_refl _) 1 _) ((HBO.out.far (i := 0) hPw _).far (i := 1) hPw _) ⟨_, _, rfl⟩
        | some p =>
          obtain ⟨c, r2⟩ := p
          rcases hx with ⟨hc, hbo, u, v, T, x, rfl⟩ | ⟨hc, rfl, hws⟩
          · have HBO := Lib.hid hbo
            clear hbo
            obtain ⟨z0, z1, y0, y1, zl⟩ := cells2 HZ3.out
            go_wp2_with fail
            refine bodyPost_ret (v := .tuple #[.agg #[.int .i64 0, .nilIface], .iface T x]) (by simp [results, Tryz.results104, go_sem, z0, z1, zl]) rfl ?_
            exact form_bad (by rw [HF.out, rg_bad2 HO.out.symm hy HO2.out.symm hc]) (far_grown (far_grown HG3.out (Nat.le_refl _) 0 _) (Nat.le_refl _) 1 _) ((HBO.out.far (i := 0) hPw _).far (i := 1) hPw _) ⟨_, _, rfl⟩
          · have hl1 := (rdU_len HO.out.symm).1
            have hl2 := (rdU_len HO2.out.symm).1
            have hr2 : r2.length ≤ 2000 := by omega
            have hdk : c / 1000 < 4 := by omega
            have hkk : kdOf (c % 1000) < 7 := by unfold kdOf; split <;> omega
            have hRT := root_calls (S := S) (w := w3) (P := P) (N := fuel - 1) (d := c / 1000) (big := (y == 0)) (l := r2) (fi := rdG false fuel (-1)) (fun w P b l h hl => IH.out w P b l h (by omega)) (fun bs p r h => (rdG_len h).length_le) (by omega) hkk hdk hws
            have HHD := Lib.hid (show F = rdB (rdG false fuel) false (y == 0) (kdOf (c % 1000)) (c / 1000) r2 by rw [HF.out]; exact rg_head HO.out.symm hy HO2.out.symm hc)
            obtain ⟨k, hk⟩ : ∃ k, k = kdOf (c % 1000) := ⟨_, rfl⟩
            obtain ⟨d, hd⟩ : ∃ d, d = c / 1000 := ⟨_, rfl⟩
            rw [← hk] at hkk
            rw [← hd] at hdk
            rw [← hk, ← hd] at hRT HHD ⊢
            have HRT := Lib.hid hRT
            clear hRT hws hk hd hc HGT
            go_wp2_with fail
            refine HRT.out.mono ?_
            intro e w4 hrt
            have HPG := Lib.hid (show PGPost S w1 P F e w4 from by
              rw [HHD.out]
              exact RtPost.form hkk hdk hr2 HG13.out.size HG13.out hrt)
            have hz4 := HZ3.out.grown hrt.1 (fun e => by have := Option.some.inj e; omega)
            obtain ⟨z0, z1, y0, y1, zl⟩ := cells2 hz4
            clear hrt hz4
            obtain ⟨hgr1, hx⟩ := HPG.out
            have hgr := grown_trans (grown_below HB1.out) hgr1
            clear hgr1
            cases F with
            | none =>
              obtain ⟨hbo, k2, v, T, x, hv, rfl⟩ := hx
              have HBO := Lib.hid hbo
              clear hbo
              have HGR := Lib.hid hgr
              clear hgr
              rcases hv with rfl | ⟨T2, x2, rfl⟩
              · go_wp2_with fail
                refine bodyPost_ret (v := .tuple #[.agg #[.int .i64 k2, .nilIface], .iface T x]) (by simp [results, Tryz.results104, go_sem, z0, z1, zl]) rfl ?_
                exact ⟨far_grown (far_grown HGR.out (Nat.le_refl _) 0 _) (Nat.le_refl _) 1 _, (HBO.out.far (i := 0) hPw _).far (i := 1) hPw _, k2, .nilIface, T, x, .inl rfl, rfl⟩
              · go_wp2_with fail
                refine bodyPost_ret (v := .tuple #[.agg #[.int .i64 k2, .iface T2 x2], .iface T x]) (by simp [results, Tryz.results104, go_sem, z0, z1, zl]) rfl ?_
                exact ⟨far_grown (far_grown HGR.out (Nat.le_refl _) 0 _) (Nat.le_refl _) 1 _, (HBO.out.far (i := 0) hPw _).far (i := 1) hPw _, k2, .iface T2 x2, T, x, .inr ⟨_, _, rfl⟩, rfl⟩
            | some p =>
              obtain ⟨p, r3⟩ := p
              obtain ⟨a, m, b2, rfl, hin, hmk, hpl, hws⟩ := hx
              have HGR := Lib.hid hgr
              have HIN := Lib.hid (show (MG.bx a m).In (fun a => w.heap.size < a) w4 from MG.less (fun q hq => by have h1 : w1.heap.size ≤ q := hq; rw [HS1.out] at h1; exact h1) hin)
              have HKP := Lib.hid (And.intro hmk hpl)
              have HWS := Lib.hid hws
              clear hgr hin hmk hpl hws
              rw [show (MG.bx a m).enc.toArray = #[.int .i64 m.kind, .iface (pT m.kind) (.pointer (some ⟨a, 0, none⟩))] from rfl]
              go_wp2_with fail
              refine bodyPost_ret (v := .tuple #[.agg #[.int .i64 m.kind, .iface (pT m.kind) (.pointer (some ⟨a, 0, none⟩))], .nilIface]) (by simp [results, Tryz.results104, go_sem, z0, z1, zl]) rfl ?_
              have hT : ¬ (fun a => w.heap.size < a) w.heap.size := Nat.lt_irrefl _
              refine ⟨far_grown (far_grown HGR.out (Nat.le_refl _) 0 _) (Nat.le_refl _) 1 _, a, m, b2, rfl, ?_, HKP.out.1, HKP.out.2, (HWS.out.far (g := w.heap.size) (i := 0) hPw _).far (g := w.heap.size) (i := 1) hPw _⟩
              exact MG.less (fun a ha => Nat.le_of_lt ha) (MG.keep (((Keeps.refl (fun a => w.heap.size < a) w4).setFar hT _).setFar hT _) HIN.out)
end Go.Proofs.YtbacakdpfiiblaaGreat.geo

namespace Go.Proofs.YtbacakdpfiiblaaGreat.geo
open Go.ChangeShapes Go.WideShapes Go.ChangeAt Go.RowKit
open Go.Proofs.YtbacakdpfiiblaaGreat.mem
set_option linter.unusedVariables false
set_option linter.unusedSimpArgs false

/-- One form was read, or none. -/
def DNPost (w : World) (o : Option (PG × List Nat)) (e : Ending) (w' : World) : Prop :=
  Below w.heap.size w w' ∧ match o with
    | none => ∃ (k : Int) (v : Value) (n : Int) (T : TypeId) (x : Value), (v = .nilIface ∨ ∃ T2 x2, v = .iface T2 x2) ∧ e = .returned (.tuple #[.agg #[.int .i64 k, v], .int .i64 n, .iface T x])
    | some (p, r) => ∃ a m, e = .returned (.tuple #[.agg (MG.bx a m).enc.toArray, .int .i64 (r.length : Nat), .nilIface]) ∧ (MG.bx a m).In (fun a => w.heap.size ≤ a) w' ∧ m.plain = p.new
theorem below_far2 {n : Nat} {w w' : World} (hb : Below n w w') {g : Nat} (hg : n ≤ g) (u v : Value) : Below n w ((w'.setCell ⟨g, 0, none⟩ u).setCell ⟨g, 1, none⟩ v) :=
  ⟨hb.os, hb.tape, hb.output, by have := hb.size; simpa using this, fun j hj => by
    rw [Below.heap_setCell _ ⟨g, 1, none⟩ v j (show j ≠ g by omega), Below.heap_setCell _ ⟨g, 0, none⟩ u j (show j ≠ g by omega)]
    exact hb.block j hj⟩
set_option maxHeartbeats 8000000 in
set_option maxRecDepth 100000 in
theorem next_calls {S : Nat → Prop} {w : World} {A : Option Addr} {c : Nat} {l : List Nat} (hS : ∀ a, S a → a < w.heap.size) (hl : l.length ≤ 2000) (hc : l.length ≤ c) (hb : Byt l) (hA : SlS S w A l.length 1 (BL l)) :
    Calls Tryz.prog 49 #[.slice A l.length c] w (DNPost w (rdG false (l.length + 1) (-1) l)) := by
  obtain ⟨w1, hw1⟩ : ∃ w1, w1 = w.alloc (.cells #[.int .i64 0, .nilIface] 47) := ⟨_, rfl⟩
  have hb1 : Below w.heap.size w w1 := by rw [hw1]; exact (Below.refl _ _).alloc (Nat.le_refl _) _
  have hs1 : w1.heap.size = w.heap.size + 1 := by rw [hw1]; simp
  have hz1 : Blk w1 w.heap.size 47 #[.int .i64 0, .nilIface] := by rw [hw1]; exact Blk.new _ _ _
  have hws := WPs.start (w := w1) (fun a ha => by have := hS a ha; omega) hl hc hb (hA.keep (.of_below hb1))
  rw [hs1] at hws
  have HR := Lib.hid (run_calls S (l.length + 1) _ _ _ _ hws (by omega))
  obtain ⟨w2, hw2⟩ : ∃ w2, w2 = w1.alloc (.cells #[.slice A l.length c, .int .u8 0, .bool false] 148) := ⟨_, rfl⟩
  have hb2 : Below w.heap.size w w2 := by rw [hw2]; exact hb1.alloc hb1.size _
  have hz2 : Blk w2 w.heap.size 47 #[.int .i64 0, .nilIface] := by rw [hw2]; exact hz1.alloc _
  have hs2 : w2.heap.size = w.heap.size + 2 := by rw [hw2]; simp [hs1]
  rw [← hw2] at HR
  obtain ⟨o, ho⟩ : ∃ o, o = rdG false (l.length + 1) (-1) l := ⟨_, rfl⟩
  rw [← ho] at HR ⊢
  have HW1 := Lib.hid hw1
  have HW2 := Lib.hid hw2
  have HB2 := Lib.hid hb2
  have HZ2 := Lib.hid hz2
  have HS2 := Lib.hid hs2
  clear hw1 hb1 hz1 hws hw2 hb2 hz2 ho hs2 hA hb hS
  go_enter Tryz.func49, Tryz.ntmps49
  go_upto_region 1 with fail
  rw [← HW1.out]
  go_upto_region 2 with fail
  rw [← HW2.out]
  go_wp2_with fail
  refine HR.out.mono ?_
  rintro e w3 ⟨hg, hx⟩
  have hb3 := grown_fresh HB2.out (by rw [HS2.out]; omega) hg (Nat.le_succ _)
  have hz3 := HZ2.out.grown hg (fun e => by have := Option.some.inj e; omega)
  have hl3 := hz3.lt
  have hs3 : w.heap.size + 2 ≤ w3.heap.size := by rw [← HS2.out]; exact hg.size
  have HB3 := Lib.hid hb3
  have HZ3 := Lib.hid hz3
  clear hg hb3 hz3
  cases o with
  | none =>
    obtain ⟨hbo, k, v, T, x, hv, rfl⟩ := hx
    obtain ⟨w4, hw4⟩ : ∃ w4, w4 = w3.alloc (.cells #[.int .i64 k, v] 47) := ⟨_, rfl⟩
    have hb4 : Below w3.heap.size w3 w4 := by rw [hw4]; exact (Below.refl _ _).alloc (Nat.le_refl _) _
    have hg4 : Blk w4 w3.heap.size 47 #[.int .i64 k, v] := by rw [hw4]; exact Blk.new _ _ _
    obtain ⟨A2, n2, c2, u2, v2, hB⟩ := hbo.below hb4
    obtain ⟨d0, d1, d2, -, -, -, dl⟩ := cells3 hB
    obtain ⟨z0, z1, y0, y1, zl⟩ := cells2 (HZ3.out.below hb4 HZ3.out.lt)
    obtain ⟨g0, g1, x0, x1, gl⟩ := cells2 hg4
    have HB4 := Lib.hid (HB3.out.trans (hb4.mono HB3.out.size))
    have HW4 := Lib.hid hw4
    have hne1 : w.heap.size ≠ w3.heap.size := by omega
    have hne2 : w.heap.size ≠ w.heap.size + 1 := by omega
    clear hw4 hb4 hg4 hB hbo d1 d2
    have HEND := Lib.hid (show DNPost w none (.returned (.tuple #[.agg #[.int .i64 k, v], .int .i64 n2, .iface T x])) ((w4.setCell ⟨w.heap.size, 0, none⟩ (.int .i64 k)).setCell ⟨w.heap.size, 1, none⟩ v).drew from
      ⟨(below_far2 HB4.out (Nat.le_refl _) _ _).drew, k, v, n2, T, x, hv, rfl⟩)
    rcases hv with rfl | ⟨T2, x2, rfl⟩
    · go_upto_region 3 with fail
      rw [← HW4.out]
      go_region
      all_goals
        go_wp2_with fail
        refine bodyPost_ret (v := .tuple #[.agg #[.int .i64 k, .nilIface], .int .i64 n2, .iface T x]) (by simp [results, Tryz.results49, go_sem, z0, z1, zl]) rfl ?_
        exact HEND.out
    · go_upto_region 3 with fail
      rw [← HW4.out]
      go_region
      all_goals
        go_wp2_with fail
        refine bodyPost_ret (v := .tuple #[.agg #[.int .i64 k, .iface T2 x2], .int .i64 n2, .iface T x]) (by simp [results, Tryz.results49, go_sem, z0, z1, zl]) rfl ?_
        exact HEND.out
  | some p =>
    obtain ⟨p, r⟩ := p
    obtain ⟨a, m, b, rfl, hin, hk, hpl, hws⟩ := hx
    rw [show (MG.bx a m).enc.toArray = #[.int .i64 m.kind, .iface (pT m.kind) (.pointer (some ⟨a, 0, none⟩))] from rfl]
    obtain ⟨w4, hw4⟩ : ∃ w4, w4 = w3.alloc (.cells #[.int .i64 m.kind, .iface (pT m.kind) (.pointer (some ⟨a, 0, none⟩))] 47) := ⟨_, rfl⟩
    have hb4 : Below w3.heap.size w3 w4 := by rw [hw4]; exact (Below.refl _ _).alloc (Nat.le_refl _) _
    have hg4 : Blk w4 w3.heap.size 47 #[.int .i64 m.kind, .iface (pT m.kind) (.pointer (some ⟨a, 0, none⟩))] := by rw [hw4]; exact Blk.new _ _ _
    have hws4 := hws.below hb4
    obtain ⟨A2, c2, hB, -⟩ := hws4.open
    have HIN := Lib.hid (show (MG.bx a m).In (fun a => w.heap.size < a) w4 from MG.up hb4 (MG.less (fun q hq => by have h1 : w2.heap.size ≤ q := hq; rw [HS2.out] at h1; show w.heap.size < q; omega) hin))
    obtain ⟨d0, d1, d2, -, -, -, dl⟩ := cells3 hB
    obtain ⟨z0, z1, y0, y1, zl⟩ := cells2 (HZ3.out.below hb4 HZ3.out.lt)
    obtain ⟨g0, g1, x0, x1, gl⟩ := cells2 hg4
    have HB4 := Lib.hid (HB3.out.trans (hb4.mono HB3.out.size))
    have HW4 := Lib.hid hw4
    have hne1 : w.heap.size ≠ w3.heap.size := by omega
    have hne2 : w.heap.size ≠ w.heap.size + 1 := by omega
    have hT : ¬ (fun a => w.heap.size < a) w.heap.size := Nat.lt_irrefl _
    have HIN2 := Lib.hid (show (MG.bx a m).In (fun a => w.heap.size ≤ a) ((w4.setCell ⟨w.heap.size, 0, none⟩ (.int .i64 m.kind)).setCell ⟨w.heap.size, 1, none⟩ (.iface (pT m.kind) (.pointer (some ⟨a, 0, none⟩)))) from MG.less (fun a ha => Nat.le_of_lt ha) (MG.keep (((Keeps.refl (fun a => w.heap.size < a) w4).setFar hT _).setFar hT _) HIN.out))
    have HEND := Lib.hid (show DNPost w (some (p, r)) (.returned (.tuple #[.agg (MG.bx a m).enc.toArray, .int .i64 (r.length : Nat), .nilIface])) ((w4.setCell ⟨w.heap.size, 0, none⟩ (.int .i64 m.kind)).setCell ⟨w.heap.size, 1, none⟩ (.iface (pT m.kind) (.pointer (some ⟨a, 0, none⟩)))).drew from
      ⟨(below_far2 HB4.out (Nat.le_refl _) _ _).drew, a, m, rfl, MG.keep (Keeps.of_below (Below.refl _ _).drew) HIN2.out, hpl⟩)
    clear hw4 hb4 hg4 hB hws hws4 hin hk hpl d1 d2
    go_upto_region 3 with fail
    rw [← HW4.out]
    go_region
    all_goals
      go_wp2_with fail
      refine bodyPost_ret (v := .tuple #[.agg #[.int .i64 m.kind, .iface (pT m.kind) (.pointer (some ⟨a, 0, none⟩))], .int .i64 (r.length : Nat), .nilIface]) (by simp [results, Tryz.results49, go_sem, z0, z1, zl]) rfl ?_
      exact HEND.out
end Go.Proofs.YtbacakdpfiiblaaGreat.geo
