/-
  Contracts: how deep, how heavy, which numbers plain data have.
-/
import Derived.Test.YtplphaaeibeheaaGreatGeoU
namespace Go.Proofs.YtplphaaeibeheaaGreat.geo
open Go.ChangeShapes Go.WideShapes Go.ChangeAt Go.RowKit
open Go.Proofs.YtplphaaeibeheaaGreat.mem
set_option linter.unusedVariables false
set_option linter.unusedSimpArgs false

def deepN : Nat → PG → Prop
  | 0, _ => False
  | j + 1, .mk _ _ _ kids => ∀ g ∈ kids, deepN j g
mutual
def PG.tot : PG → Nat
  | .mk k d ns kids => 1 + ns.length + PG.totL kids
def PG.totL : List PG → Nat
  | [] => 0
  | g :: l => g.tot + PG.totL l
end
mutual
def PG.alln : PG → List Nat
  | .mk k d ns kids => ns ++ PG.allnL kids
def PG.allnL : List PG → List Nat
  | [] => []
  | g :: l => g.alln ++ PG.allnL l
end
theorem totL_app (g : PG) : ∀ l : List PG, PG.totL (l ++ [g]) = PG.totL l + g.tot
  | [] => by simp [PG.totL]
  | h :: l => by rw [List.cons_append, PG.totL, totL_app g l, PG.totL]; omega
theorem allnL_app (g : PG) : ∀ l : List PG, PG.allnL (l ++ [g]) = PG.allnL l ++ g.alln
  | [] => by simp [PG.allnL]
  | h :: l => by rw [List.cons_append, PG.allnL, allnL_app g l, PG.allnL, List.append_assoc]
theorem totL_mem : ∀ {l : List PG} {g : PG}, g ∈ l → g.tot ≤ PG.totL l
  | h :: l, g, hg => by
    rw [PG.totL]
    rcases List.mem_cons.1 hg with e | hg
    · rw [e]; omega
    · have := totL_mem hg; omega
theorem tot_pos : ∀ g : PG, 1 ≤ g.tot
  | .mk k d ns kids => by rw [PG.tot]; omega
theorem totL_len : ∀ l : List PG, l.length ≤ PG.totL l
  | [] => Nat.zero_le _
  | g :: l => by have := totL_len l; have := tot_pos g; rw [PG.totL, List.length_cons]; omega
theorem totL_take {l : List PG} (i : Nat) : PG.totL (l.take i) ≤ PG.totL l := by
  induction l generalizing i with
  | nil => simp [PG.totL]
  | cons g l ih =>
    cases i with
    | zero => simp [PG.totL]
    | succ i => rw [List.take_succ_cons, PG.totL, PG.totL]; have := ih i; omega
theorem alln_tot : ∀ g : PG, g.alln.length ≤ g.tot := by
  intro g
  induction g using PG.ind with
  | h k d ns kids ih =>
    rw [PG.alln, PG.tot, List.length_append]
    have : ∀ l : List PG, (∀ g ∈ l, g.alln.length ≤ g.tot) → (PG.allnL l).length ≤ PG.totL l := by
      intro l
      induction l with
      | nil => intro _; simp [PG.allnL]
      | cons g l ihl =>
        intro h
        rw [PG.allnL, PG.totL, List.length_append]
        have h1 := h g (by simp)
        have h2 := ihl (fun g hg => h g (by simp [hg]))
        omega
    have := this kids ih
    omega
theorem tot_small : ∀ {g : PG}, g.tot ≤ 600 → g.small := by
  intro g
  induction g using PG.ind with
  | h k d ns kids ih =>
    intro h
    rw [PG.tot] at h
    rw [PG.small]
    have h1 := totL_len kids
    exact ⟨⟨by omega, by omega⟩, smallL_iff.2 fun g hg => ih g hg (by have := totL_mem hg; omega)⟩
theorem plain_take {kids : List IG} {i : Nat} {g : IG} (h : kids[i]? = some g) : (kids.take (i + 1)).map IG.plain = (kids.take i).map IG.plain ++ [g.plain] := by
  rw [List.take_add_one, h]
  simp

theorem own_empty {g r : Nat} (h : (Value.slice (some ⟨g, 0, none⟩) 0 0).ownBlock = some r) : g ≤ r := by
  simp [Value.ownBlock] at h
  try omega

def DeepPost (w : World) (j : Nat) (p : PG) (e : Ending) (w' : World) : Prop := ∃ b, e = .returned (.bool b) ∧ (b = true ↔ deepN j p) ∧ Below w.heap.size w w'
def WPost (w : World) (j : Nat) (p : PG) (e : Ending) (w' : World) : Prop := ∃ v : Int, e = .returned (.int .i64 v) ∧ (1 ≤ v ∧ v ≤ 17592186044417 + 600 * j ∧ (v ≤ 600 ∨ p.tot ≤ 600 → (p.tot : Int) = v)) ∧ Below w.heap.size w w'
def NPost (w : World) (p : PG) (e : Ending) (w' : World) : Prop := ∃ (A : Option Addr) (c : Nat), e = .returned (.slice A p.alln.length c) ∧ Sl w' w'.heap.size A p.alln.length 1 (FL p.alln) ∧ Below w.heap.size w w'

set_option maxHeartbeats 8000000 in
set_option maxRecDepth 100000 in
theorem deep_calls : ∀ (g : IG) (j : Nat), j ≤ 100 → ∀ (S : Nat → Prop) (w : World), g.In S w → Calls Tryz.prog 17 #[.agg g.enc.toArray, .int .i64 ((j : Int) - 1)] w (DeepPost w j g.plain) := by
  intro g
  induction g using IG.ind with
  | h k d A ca ns B cb kids ih =>
    intro j hj S w h
    rw [IG.In] at h
    obtain ⟨hwf, hbg, -, hA, hB0, hkid0⟩ := h
    have hkid := IG.inL_iff.1 hkid0
    rw [IG.plain_eq]
    show Calls Tryz.prog 17 #[.agg #[.int .i64 k, .int .i64 d, .slice A ns.length ca, .slice B kids.length cb], .int .i64 ((j : Int) - 1)] w _
    obtain ⟨w1, hw1⟩ : ∃ w1, w1 = w.alloc (.cells #[.int .i64 k, .int .i64 d, .slice A ns.length ca, .slice B kids.length cb] 25) := ⟨_, rfl⟩
    have hb1 : Below w.heap.size w w1 := by rw [hw1]; exact (Below.refl _ _).alloc (Nat.le_refl _) _
    have hX : Blk w1 w.heap.size 25 #[.int .i64 k, .int .i64 d, .slice A ns.length ca, .slice B kids.length cb] := by rw [hw1]; exact Blk.new _ _ _
    obtain ⟨n, hn⟩ : ∃ n, n = kids.length := ⟨_, rfl⟩
    obtain ⟨m, hm⟩ : ∃ m, m = ns.length := ⟨_, rfl⟩
    have HSB := Lib.hid (hB0.1.up hb1)
    have HSA := Lib.hid (hA.1.up hb1)
    have HKID := Lib.hid (fun g hg w' (hb : Below w.heap.size w w') => IG.up hb (hkid g hg))
    have HIH := Lib.hid ih
    have HB1 := Lib.hid hb1
    have HN := Lib.hid hn
    have HM := Lib.hid hm
    rw [← hn, ← hm] at hX hw1 ⊢
    rw [← hm] at HSA
    have hnb : n ≤ 17592186044416 := by rw [hn]; exact hbg.2
    have hmb : m ≤ 17592186044416 := by rw [hm]; exact hbg.1
    have HW1 := Lib.hid hw1
    obtain ⟨x0, x1, x2, x3, -, -, -, -, xl⟩ := cells4 hX
    cases j with
    | zero =>
      clear hw1 hb1 hX hn hm ih hwf hbg hA hB0 hkid0 hkid hj
      go_enter Tryz.func17, Tryz.ntmps17
      go_wp2_with fail
      rw [← HW1.out]
      exact bodyPost_ret (v := .bool false) (by simp [results, go_sem]) rfl ⟨false, rfl, ⟨fun h => (by cases h), fun h => absurd h (by unfold deepN; exact id)⟩, HB1.out⟩
    | succ j =>
      clear hw1 hb1 hX hn hm ih hwf hbg hA hB0 hkid0 hkid
      rw [show (((j + 1 : Nat) : Int) - 1) = (j : Int) by omega]
      have hj1 : (0 : Int) ≤ (j : Int) := Int.natCast_nonneg _
      go_enter Tryz.func17, Tryz.ntmps17
      go_wp2_with fail
      rw [← HW1.out]
      go_loopg [12] n (fun q ci wr => ∃ (i : Nat), i + q = n ∧ ci = .int .i64 (i : Nat) ∧ (∀ g ∈ (kids.take i).map IG.plain, deepN j g) ∧ Below w1.heap.size w1 wr)
      case atStart => exact ⟨0, by omega, by go_num, (fun g hg => by simp at hg), Below.refl _ _⟩
      case round =>
        obtain ⟨i, hi', rfl, hdp, hbl⟩ := hrel
        have HIL := Lib.hid hi'
        have HDP := Lib.hid hdp
        have HBL2 := Lib.hid hbl
        have hin : i ≤ n := by omega
        clear hi' hdp hbl
        by_cases hlt : i < n
        · have hjj : j ≤ 100 := by omega
          have hik : i < kids.length := by rw [← HN.out]; exact hlt
          obtain ⟨g, hg⟩ : ∃ g, kids[i]? = some g := ⟨kids[i], List.getElem?_eq_getElem hik⟩
          have HT := Lib.hid (plain_take hg)
          have hmem := List.mem_of_getElem? hg
          have HMP := Lib.hid (List.mem_map_of_mem (f := IG.plain) hmem)
          obtain ⟨b, off, hAe, hbo, hcell⟩ := sl_part HSB.out (fun g _ => g.enc_len) (Nat.lt_of_le_of_lt (Nat.zero_le _) hik)
          subst hAe
          have HBW := Lib.hid (HB1.out.trans (HBL2.out.mono HB1.out.size))
          have hgin := HKID.out g hmem _ HBW.out
          have HCA := Lib.hid (fun o => HIH.out g hmem j hjj S (wr.alloc o) (IG.up ((Below.refl _ _).alloc (Nat.le_refl _) o) hgin))
          obtain ⟨p, hp⟩ : ∃ p, p = g.plain := ⟨_, rfl⟩
          rw [← hp] at HCA HT HMP
          obtain ⟨gk, gd, gA, gca, gns, gB, gcb, gks⟩ := g
          have d0 := (HBL2.out.cell (p := ⟨b, off + (i * 4 + 0), none⟩) hbo).trans (hcell i _ hg 0 _ rfl)
          have d1 := (HBL2.out.cell (p := ⟨b, off + (i * 4 + 1), none⟩) hbo).trans (hcell i _ hg 1 _ rfl)
          have d2 := (HBL2.out.cell (p := ⟨b, off + (i * 4 + 2), none⟩) hbo).trans (hcell i _ hg 2 _ rfl)
          have d3 := (HBL2.out.cell (p := ⟨b, off + (i * 4 + 3), none⟩) hbo).trans (hcell i _ hg 3 _ rfl)
          rw [Nat.add_zero] at d0
          rw [← Nat.add_assoc] at d1 d2 d3
          have hltI : (i : Int) < (n : Int) := by omega
          have HCA := Lib.hid (show ∀ o, Calls Tryz.prog 17 #[.agg #[.int .i64 gk, .int .i64 gd, .slice gA gns.length gca, .slice gB gks.length gcb], .int .i64 ((j : Int) - 1)] (wr.alloc o) (DeepPost (wr.alloc o) j p) from HCA.out)
          have HBA := Lib.hid (fun o => HBL2.out.trans (((Below.refl wr.heap.size wr).alloc (Nat.le_refl _) o).mono HBL2.out.size))
          clear hg hmem hcell hgin hp hik
          go_wp2_with fail
          refine (HCA.out _).mono ?_
          rintro e w4 ⟨t, rfl, ht, hb4⟩
          have HB4 := Lib.hid ((HBA.out _).trans (hb4.mono (HBA.out _).size))
          have HTT := Lib.hid ht
          clear hb4 d0 d1 d2 d3 ht
          cases t with
          | false =>
            go_wp2_with fail
            exact bodyPost_ret (v := .bool false) (by simp [results, go_sem]) rfl ⟨false, rfl, ⟨fun h => (by cases h), fun h => absurd (h p HMP.out) (by have h0 := HTT.out; simpa using h0)⟩, HB1.out.trans (HB4.out.mono HB1.out.size)⟩
          | true =>
            go_wp2_with fail
            go_roundg (n - (i + 1))
            case measure => have := HIL.out; omega
            case rel =>
              refine ⟨i + 1, by omega, by go_num, fun g hg => ?_, HB4.out⟩
              rw [HT.out] at hg
              rcases List.mem_append.1 hg with hg | hg
              · exact HDP.out g hg
              · rw [List.mem_singleton.1 hg]; have h0 := HTT.out; simpa using h0
        · obtain rfl : i = n := by omega
          have htk : kids.take i = kids := List.take_of_length_le (by rw [← HN.out]; exact Nat.le_refl _)
          have hdp := HDP.out
          rw [htk] at hdp
          have HDP2 := Lib.hid hdp
          have hltI : (i : Int) ≤ (i : Int) := Int.le_refl _
          clear htk hdp
          go_wp2_with fail
          exact bodyPost_ret (v := .bool true) (by simp [results, go_sem]) rfl ⟨true, rfl, ⟨fun _ => HDP2.out, fun _ => rfl⟩, HB1.out.trans (HBL2.out.mono HB1.out.size)⟩

set_option maxHeartbeats 8000000 in
set_option maxRecDepth 100000 in
theorem weight_calls : ∀ (g : IG) (j : Nat), j ≤ 100 → deepN j g.plain → ∀ (S : Nat → Prop) (w : World), g.In S w → Calls Tryz.prog 18 #[.agg g.enc.toArray, .int .i64 600] w (WPost w j g.plain) := by
  intro g
  induction g using IG.ind with
  | h k d A ca ns B cb kids ih =>
    intro j hj hdp S w h
    rw [IG.In] at h
    obtain ⟨hwf, hbg, -, hA, hB0, hkid0⟩ := h
    have hkid := IG.inL_iff.1 hkid0
    rw [IG.plain_eq] at hdp ⊢
    show Calls Tryz.prog 18 #[.agg #[.int .i64 k, .int .i64 d, .slice A ns.length ca, .slice B kids.length cb], .int .i64 600] w _
    obtain ⟨tt, htt⟩ : ∃ tt, tt = (PG.mk k d ns (kids.map IG.plain)).tot := ⟨_, rfl⟩
    have hte : tt = 1 + ns.length + PG.totL (kids.map IG.plain) := by rw [htt, PG.tot]
    have HTT := Lib.hid htt
    have HTE := Lib.hid hte
    clear htt hte
    obtain ⟨w1, hw1⟩ : ∃ w1, w1 = w.alloc (.cells #[.int .i64 k, .int .i64 d, .slice A ns.length ca, .slice B kids.length cb] 25) := ⟨_, rfl⟩
    have hb1 : Below w.heap.size w w1 := by rw [hw1]; exact (Below.refl _ _).alloc (Nat.le_refl _) _
    have hX : Blk w1 w.heap.size 25 #[.int .i64 k, .int .i64 d, .slice A ns.length ca, .slice B kids.length cb] := by rw [hw1]; exact Blk.new _ _ _
    obtain ⟨n, hn⟩ : ∃ n, n = kids.length := ⟨_, rfl⟩
    obtain ⟨m, hm⟩ : ∃ m, m = ns.length := ⟨_, rfl⟩
    have HSB := Lib.hid (hB0.1.up hb1)
    have HSA := Lib.hid (hA.1.up hb1)
    have HKID := Lib.hid (fun g hg w' (hb : Below w.heap.size w w') => IG.up hb (hkid g hg))
    have HIH := Lib.hid ih
    have HB1 := Lib.hid hb1
    have HN := Lib.hid hn
    have HM := Lib.hid hm
    rw [← hn, ← hm] at hX hw1 ⊢
    rw [← hm] at HSA
    have hnb : n ≤ 17592186044416 := by rw [hn]; exact hbg.2
    have hmb : m ≤ 17592186044416 := by rw [hm]; exact hbg.1
    have HW1 := Lib.hid hw1
    obtain ⟨x0, x1, x2, x3, -, -, -, -, xl⟩ := cells4 hX
    cases j with
    | zero => exact absurd hdp (by unfold deepN; exact id)
    | succ j =>
      have HDP := Lib.hid (show ∀ g ∈ kids, deepN j g.plain from fun g hg => hdp g.plain (List.mem_map_of_mem hg))
      clear hw1 hb1 hX hn hm ih hwf hbg hA hB0 hkid0 hkid hdp
      go_enter Tryz.func18, Tryz.ntmps18
      go_wp2_with fail
      rw [← HW1.out]
      go_loopg [5, 15] n (fun q av ci wr => ∃ (i : Nat) (v : Int), i + q = n ∧ ci = .int .i64 (i : Nat) ∧ av = .int .i64 v ∧ 1 ≤ v ∧ v ≤ 17592186044417 + 600 * ((j + 1 : Nat) : Int) ∧ (v ≤ 600 ∨ 1 + m + PG.totL ((kids.take i).map IG.plain) ≤ 600 → ((1 + m + PG.totL ((kids.take i).map IG.plain) : Nat) : Int) = v) ∧ Below w1.heap.size w1 wr)
      case atStart => exact ⟨0, 1 + (m : Int), by omega, by go_num, by first | rfl | go_num, by omega, by omega, (fun _ => by simp [PG.totL]), Below.refl _ _⟩
      case round =>
        obtain ⟨i, v, hi', rfl, rfl, hv1, hv2, hv3, hbl⟩ := hrel
        have HIL := Lib.hid hi'
        have HV := Lib.hid hv3
        have HBL2 := Lib.hid hbl
        have hin : i ≤ n := by omega
        clear hi' hv3 hbl
        by_cases hlt : i < n
        · by_cases h6 : 600 < v
          · obtain ⟨b, off, hAe, hbo, hcell⟩ := sl_part HSB.out (fun g _ => g.enc_len) (by rw [← HN.out]; omega)
            subst hAe
            have hik : i < kids.length := by rw [← HN.out]; exact hlt
            obtain ⟨g, hg⟩ : ∃ g, kids[i]? = some g := ⟨kids[i], List.getElem?_eq_getElem hik⟩
            obtain ⟨gk, gd, gA, gca, gns, gB, gcb, gks⟩ := g
            have d0 := (HBL2.out.cell (p := ⟨b, off + (i * 4 + 0), none⟩) hbo).trans (hcell i _ hg 0 _ rfl)
            have d1 := (HBL2.out.cell (p := ⟨b, off + (i * 4 + 1), none⟩) hbo).trans (hcell i _ hg 1 _ rfl)
            have d2 := (HBL2.out.cell (p := ⟨b, off + (i * 4 + 2), none⟩) hbo).trans (hcell i _ hg 2 _ rfl)
            have d3 := (HBL2.out.cell (p := ⟨b, off + (i * 4 + 3), none⟩) hbo).trans (hcell i _ hg 3 _ rfl)
            rw [Nat.add_zero] at d0
            rw [← Nat.add_assoc] at d1 d2 d3
            have hltI : (i : Int) < (n : Int) := by omega
            clear hg hcell hik
            go_wp2_with fail
            refine bodyPost_ret (v := .int .i64 v) (by simp [results, go_sem]) rfl ⟨v, rfl, ⟨hv1, hv2, fun h => ?_⟩, HB1.out.trans ((HBL2.out.alloc HBL2.out.size _).mono HB1.out.size)⟩
            exfalso
            rcases h with h | h
            · omega
            · rw [← HTT.out, HTE.out, ← HM.out] at h
              have h1 := totL_take (l := kids.map IG.plain) i
              rw [← List.map_take] at h1
              have h2 := HV.out (.inr (by omega))
              omega
          · have hjj : j ≤ 100 := by omega
            have h6' : v ≤ 600 := by omega
            have hik : i < kids.length := by rw [← HN.out]; exact hlt
            obtain ⟨g, hg⟩ : ∃ g, kids[i]? = some g := ⟨kids[i], List.getElem?_eq_getElem hik⟩
            have HT := Lib.hid (plain_take hg)
            have hmem := List.mem_of_getElem? hg
            have HMP := Lib.hid (List.mem_map_of_mem (f := IG.plain) hmem)
            obtain ⟨b, off, hAe, hbo, hcell⟩ := sl_part HSB.out (fun g _ => g.enc_len) (Nat.lt_of_le_of_lt (Nat.zero_le _) hik)
            subst hAe
            have HBW := Lib.hid (HB1.out.trans (HBL2.out.mono HB1.out.size))
            have hgin := HKID.out g hmem _ HBW.out
            have HCA := Lib.hid (fun o => HIH.out g hmem j hjj (HDP.out g hmem) S (wr.alloc o) (IG.up ((Below.refl _ _).alloc (Nat.le_refl _) o) hgin))
            obtain ⟨p, hp⟩ : ∃ p, p = g.plain := ⟨_, rfl⟩
            rw [← hp] at HCA HT HMP
            obtain ⟨gk, gd, gA, gca, gns, gB, gcb, gks⟩ := g
            have d0 := (HBL2.out.cell (p := ⟨b, off + (i * 4 + 0), none⟩) hbo).trans (hcell i _ hg 0 _ rfl)
            have d1 := (HBL2.out.cell (p := ⟨b, off + (i * 4 + 1), none⟩) hbo).trans (hcell i _ hg 1 _ rfl)
            have d2 := (HBL2.out.cell (p := ⟨b, off + (i * 4 + 2), none⟩) hbo).trans (hcell i _ hg 2 _ rfl)
            have d3 := (HBL2.out.cell (p := ⟨b, off + (i * 4 + 3), none⟩) hbo).trans (hcell i _ hg 3 _ rfl)
            rw [Nat.add_zero] at d0
            rw [← Nat.add_assoc] at d1 d2 d3
            have hltI : (i : Int) < (n : Int) := by omega
            have HCA := Lib.hid (show ∀ o, Calls Tryz.prog 18 #[.agg #[.int .i64 gk, .int .i64 gd, .slice gA gns.length gca, .slice gB gks.length gcb], .int .i64 600] (wr.alloc o) (WPost (wr.alloc o) j p) from HCA.out)
            have HBA := Lib.hid (fun o => HBL2.out.trans (((Below.refl wr.heap.size wr).alloc (Nat.le_refl _) o).mono HBL2.out.size))
            clear hg hmem hcell hgin hp hik
            go_wp2_with fail
            refine (HCA.out _).mono ?_
            rintro e w4 ⟨v2, rfl, ⟨hu1, hu2, hu3⟩, hb4⟩
            have HB4 := Lib.hid ((HBA.out _).trans (hb4.mono (HBA.out _).size))
            have HU := Lib.hid hu3
            clear hb4 d0 d1 d2 d3 hu3
            have hsum : v + v2 ≤ 17592186044417 + 600 * ((j + 1 : Nat) : Int) := by omega
            go_wp2_with fail
            go_roundg (n - (i + 1))
            case measure => have := HIL.out; omega
            case rel =>
              refine ⟨i + 1, v + v2, by omega, by go_num, by first | rfl | go_num, by omega, hsum, fun h => ?_, HB4.out⟩
              have h3 := tot_pos p
              rw [HT.out, totL_app] at h ⊢
              rcases h with h | h
              · have h1 := HV.out (.inl h6')
                have h2 := HU.out (.inl (by omega))
                omega
              · have h1 := HV.out (.inl h6')
                have h2 := HU.out (.inr (by omega))
                omega
        · obtain rfl : i = n := by omega
          have htk : kids.take i = kids := List.take_of_length_le (by rw [← HN.out]; exact Nat.le_refl _)
          have hltI : (i : Int) ≤ (i : Int) := Int.le_refl _
          have hv3 := HV.out
          rw [htk] at hv3
          have HV2 := Lib.hid hv3
          clear htk hv3
          go_wp2_with fail
          refine bodyPost_ret (v := .int .i64 v) (by simp [results, go_sem]) rfl ⟨v, rfl, ⟨hv1, hv2, fun h => ?_⟩, HB1.out.trans (HBL2.out.mono HB1.out.size)⟩
          rw [← HTT.out, HTE.out, ← HM.out] at h ⊢
          exact HV2.out h

set_option maxHeartbeats 8000000 in
set_option maxRecDepth 100000 in
theorem allnums_calls : ∀ (g : IG), g.plain.tot ≤ 600 → ∀ (S : Nat → Prop) (w : World), g.In S w → Calls Tryz.prog 19 #[.agg g.enc.toArray] w (NPost w g.plain) := by
  intro g
  induction g using IG.ind with
  | h k d A ca ns B cb kids ih =>
    intro htot S w h
    rw [IG.In] at h
    obtain ⟨hwf, hbg, -, hA, hB0, hkid0⟩ := h
    have hkid := IG.inL_iff.1 hkid0
    rw [IG.plain_eq] at htot ⊢
    rw [PG.tot] at htot
    show Calls Tryz.prog 19 #[.agg #[.int .i64 k, .int .i64 d, .slice A ns.length ca, .slice B kids.length cb]] w _
    obtain ⟨i1, hi1, hz01, hz11, hz21⟩ := info_parts infoF
    have HKT := Lib.hid (show ∀ g ∈ kids, g.plain.tot ≤ 600 from fun g hg => by have := totL_mem (List.mem_map_of_mem (f := IG.plain) hg); omega)
    obtain ⟨al, hal⟩ : ∃ al, al = (PG.mk k d ns (kids.map IG.plain)).alln := ⟨_, rfl⟩
    have hale : al = ns ++ PG.allnL (kids.map IG.plain) := by rw [hal, PG.alln]
    have HAL := Lib.hid hal
    have HALE := Lib.hid hale
    have HLL := Lib.hid (show ∀ i, (ns ++ PG.allnL ((kids.take i).map IG.plain)).length ≤ 600 from fun i => by
      have h1 := alln_tot (PG.mk k d ns ((kids.take i).map IG.plain))
      rw [PG.alln, PG.tot] at h1
      have h2 := totL_take (l := kids.map IG.plain) i
      rw [← List.map_take] at h2
      omega)
    clear hal hale
    obtain ⟨w1, hw1⟩ : ∃ w1, w1 = w.alloc (.cells #[.int .i64 k, .int .i64 d, .slice A ns.length ca, .slice B kids.length cb] 25) := ⟨_, rfl⟩
    have hb1 : Below w.heap.size w w1 := by rw [hw1]; exact (Below.refl _ _).alloc (Nat.le_refl _) _
    have hX : Blk w1 w.heap.size 25 #[.int .i64 k, .int .i64 d, .slice A ns.length ca, .slice B kids.length cb] := by rw [hw1]; exact Blk.new _ _ _
    obtain ⟨n, hn⟩ : ∃ n, n = kids.length := ⟨_, rfl⟩
    obtain ⟨m, hm⟩ : ∃ m, m = ns.length := ⟨_, rfl⟩
    have HSB := Lib.hid (hB0.1.up hb1)
    have HSA := Lib.hid (hA.1.up hb1)
    have HKID := Lib.hid (fun g hg w' (hb : Below w.heap.size w w') => IG.up hb (hkid g hg))
    have HIH := Lib.hid ih
    have HB1 := Lib.hid hb1
    have HN := Lib.hid hn
    have HM := Lib.hid hm
    rw [← hn, ← hm] at hX hw1 ⊢
    rw [← hm] at HSA
    have hnb : n ≤ 17592186044416 := by rw [hn]; exact hbg.2
    have hmb : m ≤ 17592186044416 := by rw [hm]; exact hbg.1
    have HW1 := Lib.hid hw1
    obtain ⟨x0, x1, x2, x3, -, -, -, -, xl⟩ := cells4 hX
    have hm6 : m ≤ 600 := by rw [hm]; omega
    clear hw1 hb1 hX hn hm ih hwf hbg hA hB0 hkid0 hkid htot
    go_enter Tryz.func19, Tryz.ntmps19
    go_upto_region 1 with fail
    rw [← HW1.out]
    go_wp2_with (at_builtin; refine wpList_append_sl _ rfl (.tmp 6) (.tmp 8) 22 rfl w1.heap.size 31 i1 _ 1 8 Tryz.underlying22 hi1 hz01 hz11 hz21 rfl (by decide) (.slice (some ⟨w1.heap.size, 0, none⟩) 0 0) 0 [] (by rfl) (by exact emptyOwn (heap_alloc_new w1 _) (Nat.le_refl _))
                   _ A m ca (FL ns) (by rfl) (by exact HSA.out.up ((Below.refl _ _).alloc (Nat.le_refl _) _)) (FL_one _) (by unfold maxLen; omega) (by omega) (by simp) ?_; intro A5 c5 w5 ho5 hg5 ha5
                 have hb5 : Below w1.heap.size w1 w5 := ((Below.refl w1.heap.size w1).alloc (Nat.le_refl _) _).grown hg5 (by simp) (fun r hr => own_empty hr)
                 rw [Nat.zero_add, List.nil_append] at ho5
                 try rw [Nat.zero_add]
                 have x3 := (hb5.cell (p := ⟨w.heap.size, 3, none⟩) xl).trans x3
                 have HO5 := Lib.hid ho5
                 have HB5 := Lib.hid hb5
                 clear ho5 hg5 ha5 hb5)
    go_loopg [3, 13] n (fun q sv ci wr => ∃ (i l : Nat) (fs : List Nat) (A1 : Option Addr) (c1 : Nat), i + q = n ∧ ci = .int .i64 (i : Nat) ∧ sv = .slice A1 l c1 ∧ fs = ns ++ PG.allnL ((kids.take i).map IG.plain) ∧ fs.length = l ∧ wr.ownsRow w1.heap.size 31 1 (.slice A1 l c1) l (FL fs) ∧ Below w1.heap.size w1 wr)
    case atStart => exact ⟨0, m, ns, A5, c5, by omega, by go_num, rfl, by simp [PG.allnL], HM.out.symm, HO5.out, HB5.out⟩
    case round =>
      obtain ⟨i, l, fs, A1, c1, hi', rfl, rfl, hfs, hfl, hown, hbl⟩ := hrel
      have HIL := Lib.hid hi'
      have HFS := Lib.hid hfs
      have HFL := Lib.hid hfl
      have HOWN := Lib.hid hown
      have HBL2 := Lib.hid hbl
      have hin : i ≤ n := by omega
      clear hi' hfs hfl hown hbl
      by_cases hlt : i < n
      · have hl6 : l ≤ 600 := by rw [← HFL.out, HFS.out]; exact HLL.out i
        have hik : i < kids.length := by rw [← HN.out]; exact hlt
        obtain ⟨g, hg⟩ : ∃ g, kids[i]? = some g := ⟨kids[i], List.getElem?_eq_getElem hik⟩
        have HT := Lib.hid (plain_take hg)
        have hmem := List.mem_of_getElem? hg
        have HMP := Lib.hid (List.mem_map_of_mem (f := IG.plain) hmem)
        obtain ⟨b, off, hAe, hbo, hcell⟩ := sl_part HSB.out (fun g _ => g.enc_len) (Nat.lt_of_le_of_lt (Nat.zero_le _) hik)
        subst hAe
        have HBW := Lib.hid (HB1.out.trans (HBL2.out.mono HB1.out.size))
        have hgin := HKID.out g hmem _ HBW.out
        have HCA := Lib.hid (fun o => HIH.out g hmem (HKT.out g hmem) S (wr.alloc o) (IG.up ((Below.refl _ _).alloc (Nat.le_refl _) o) hgin))
        obtain ⟨p, hp⟩ : ∃ p, p = g.plain := ⟨_, rfl⟩
        rw [← hp] at HCA HT HMP
        obtain ⟨gk, gd, gA, gca, gns, gB, gcb, gks⟩ := g
        have d0 := (HBL2.out.cell (p := ⟨b, off + (i * 4 + 0), none⟩) hbo).trans (hcell i _ hg 0 _ rfl)
        have d1 := (HBL2.out.cell (p := ⟨b, off + (i * 4 + 1), none⟩) hbo).trans (hcell i _ hg 1 _ rfl)
        have d2 := (HBL2.out.cell (p := ⟨b, off + (i * 4 + 2), none⟩) hbo).trans (hcell i _ hg 2 _ rfl)
        have d3 := (HBL2.out.cell (p := ⟨b, off + (i * 4 + 3), none⟩) hbo).trans (hcell i _ hg 3 _ rfl)
        rw [Nat.add_zero] at d0
        rw [← Nat.add_assoc] at d1 d2 d3
        have hltI : (i : Int) < (n : Int) := by omega
        have HCA := Lib.hid (show ∀ o, Calls Tryz.prog 19 #[.agg #[.int .i64 gk, .int .i64 gd, .slice gA gns.length gca, .slice gB gks.length gcb]] (wr.alloc o) (NPost (wr.alloc o) p) from HCA.out)
        have HBA := Lib.hid (fun o => HBL2.out.trans (((Below.refl wr.heap.size wr).alloc (Nat.le_refl _) o).mono HBL2.out.size))
        clear hg hmem hcell hgin hp hik
        have hnx : l + p.alln.length ≤ 600 := by
          have h1 := HLL.out (i + 1)
          rw [HT.out, allnL_app, ← List.append_assoc, ← HFS.out, List.length_append, HFL.out] at h1
          exact h1
        obtain ⟨pl, hpl⟩ : ∃ pl, pl = p.alln := ⟨_, rfl⟩
        have HPL := Lib.hid hpl
        rw [← hpl] at hnx
        clear hpl
        obtain ⟨z, hz⟩ : ∃ z, z = pl.length := ⟨_, rfl⟩
        have HZ := Lib.hid hz
        rw [← hz] at hnx
        clear hz
        go_wp2_with fail
        refine (HCA.out _).mono ?_
        rintro e w4 ⟨A4, c4, rfl, hs4, hb4⟩
        rw [← HPL.out, ← HZ.out] at hs4 ⊢
        have HB4 := Lib.hid ((HBA.out _).trans (hb4.mono (HBA.out _).size))
        have HSL4 := Lib.hid hs4
        have HO4 := Lib.hid (HOWN.out.kept (grown_below (row := none) (((Below.refl wr.heap.size wr).alloc (Nat.le_refl _) _).trans (hb4.mono (by simp)))) (own_row _))
        clear hb4 hs4 d0 d1 d2 d3
        go_wp2_with (at_builtin; refine wpList_append_sl _ rfl (.tmp 17) (.tmp 19) 22 rfl w1.heap.size 31 i1 _ 1 8 Tryz.underlying22 hi1 hz01 hz11 hz21 rfl (by decide) (.slice A1 l c1) l (FL fs) rfl HO4.out
                       _ A4 z c4 (FL pl) rfl HSL4.out (FL_one _) (by unfold maxLen; omega) (by omega) HB4.out.size ?_; intro A6 c6 w6 ho6 hg6 ha6
                     have HO6 := Lib.hid ho6
                     have HB6 := Lib.hid (HB4.out.grown hg6 HB4.out.size (fun r hr => (HOWN.out.lt r hr).1))
                     clear ho6 hg6 ha6)
        go_roundg (n - (i + 1))
        case measure => have := HIL.out; omega
        case rel => exact ⟨i + 1, l + z, fs ++ pl, A6, c6, by omega, by go_num, rfl, by rw [HT.out, allnL_app, ← List.append_assoc, ← HFS.out, HPL.out], by rw [List.length_append, HFL.out, HZ.out], by rw [FL_app]; exact HO6.out, HB6.out⟩
      · obtain rfl : i = n := by omega
        have htk : kids.take i = kids := List.take_of_length_le (by rw [← HN.out]; exact Nat.le_refl _)
        have hltI : (i : Int) ≤ (i : Int) := Int.le_refl _
        have hfs := HFS.out
        rw [htk, ← HALE.out] at hfs
        have HFS2 := Lib.hid hfs
        clear htk hfs
        go_wp2_with fail
        refine bodyPost_ret (v := .slice A1 l c1) (by simp [results, go_sem]) rfl ⟨A1, c1, ?_, ?_, HB1.out.trans (HBL2.out.mono HB1.out.size)⟩
        · rw [← HAL.out, ← HFS2.out, HFL.out]
        · rw [← HAL.out, ← HFS2.out, HFL.out]
          exact Sl.of_own HOWN.out
end Go.Proofs.YtplphaaeibeheaaGreat.geo
