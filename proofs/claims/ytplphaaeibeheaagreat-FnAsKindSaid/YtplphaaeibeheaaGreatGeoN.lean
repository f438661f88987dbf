/-
  Contracts: how many places shape a geometry of the package.
-/
import Derived.Test.YtplphaaeibeheaaGreatGeoL
namespace Go.Proofs.YtplphaaeibeheaaGreat.geo
open Go.ChangeShapes Go.WideShapes Go.ChangeAt Go.RowKit
open Go.Proofs.YtplphaaeibeheaaGreat.mem
set_option linter.unusedVariables false
set_option linter.unusedSimpArgs false

theorem wrapEq (x : Int) : IntKind.i64.wrap x = wrap64 x := by rw [IntKind.wrap_i64, wrap64]
/-- The contract of what counts places. -/
def CtlC (f : FuncId) (g : MG) : Prop := ∀ (S : Nat → Prop) (w : World), g.In S w → Calls Tryz.prog f #[.agg g.enc.toArray] w (Gives w (.int .i64 g.plain.ctl))
theorem ctl_mu {k d : Nat} {A : Option Addr} {c : Nat} {kids : List MG} (hk : k ≠ 1) : (MG.mu k d A c kids).plain.ctl = kids.foldl (fun a g => addW a g.plain.ctl) 0 := by
  rw [MG.plain_mu, ctl_eq, if_neg (by omega), List.foldl_map]
  simp
theorem fold_take {kids : List MG} {i : Nat} {g : MG} (h : kids[i]? = some g) : (kids.take (i + 1)).foldl (fun a g => addW a g.plain.ctl) 0 = addW ((kids.take i).foldl (fun a g => addW a g.plain.ctl) 0) g.plain.ctl := by
  rw [List.take_add_one, h, List.foldl_append]
  rfl
/-- A line's places. -/
theorem ln_count {S : Nat → Prop} {g : MG} (hk : g.kind = 2) {w : World} (h : g.In S w) : ∃ (d : Nat) (A : Option Addr) (c : Nat) (ns : List Nat), g = .ln d A c ns ∧ d < 4 ∧ ns.length ≤ big ∧ g.plain.ctl = ((ns.length / wd d : Nat) : Int) := by
  obtain ⟨d, A, c, ns, rfl⟩ := MG.is_ln hk h
  have hl := (MG.ln_len h).2
  rw [MG.In] at h
  refine ⟨d, A, c, ns, rfl, h.1, hl, ?_⟩
  rw [MG.plain, ctl_eq, if_neg (by decide), dm_nat h.1]
  rfl

set_option maxHeartbeats 8000000 in
set_option maxRecDepth 100000 in
theorem ctl3 {d : Nat} {A : Option Addr} {c : Nat} {kids : List MG} : CtlC 90 (.mu 3 d A c kids) := fun S w h => by
  rw [MG.In] at h
  obtain ⟨hd4, -, hkb, hA, hkid0⟩ := h
  have hesz : ∀ g ∈ kids, g.enc.length = 2 := MG.enc_esz hkid0 (by decide)
  have hkid := MG.inL_iff.1 hkid0
  rw [ctl_mu (by decide)]
  show Calls Tryz.prog 90 #[.agg #[.slice A kids.length c, .int .u8 d]] w _
  obtain ⟨wA, hwA⟩ : ∃ wA, wA = w.alloc (.cells #[.slice A kids.length c, .int .u8 d] 69) := ⟨_, rfl⟩
  have hbl : Below w.heap.size w wA := by rw [hwA]; exact (Below.refl _ _).alloc (Nat.le_refl _) _
  obtain ⟨n, hn⟩ : ∃ n, n = kids.length := ⟨_, rfl⟩
  have HA := Lib.hid (hA.1.up hbl)
  have HKID := Lib.hid (fun g hg w' (hb : Below wA.heap.size wA w') => (⟨(hkid g hg).1, MG.up hb (MG.up hbl (hkid g hg).2)⟩ : g.kind = pk 3 ∧ g.In S w'))
  have HESZ := Lib.hid hesz
  have HBL := Lib.hid hbl
  have HWA := Lib.hid hwA
  have HN := Lib.hid hn
  rw [← hn] at HWA hkb ⊢
  unfold kbig at hkb
  clear hA hkid0 hesz hkid hbl hwA hn
  go_enter Tryz.func90, Tryz.ntmps90
  go_wp2_with fail
  rw [← HWA.out]
  go_loopg [3, 9] n (fun q sv ci wr => ∃ (i : Nat), i + q = n ∧ ci = .int .i64 (i : Nat) ∧ sv = .int .i64 ((kids.take i).foldl (fun a g => addW a g.plain.ctl) 0) ∧ Below wA.heap.size wA wr)
  case atStart => exact ⟨0, by omega, by go_num, rfl, Below.refl _ _⟩
  case round =>
    obtain ⟨i, hi', rfl, rfl, hbl⟩ := hrel
    have HIL := Lib.hid hi'
    have HBL2 := Lib.hid hbl
    have hin : i ≤ n := by omega
    have sr := hbl.size
    clear hi' hbl
    by_cases hlt : i < n
    · have hik : i < kids.length := by rw [← HN.out]; exact hlt
      obtain ⟨g, hg⟩ : ∃ g, kids[i]? = some g := ⟨kids[i], List.getElem?_eq_getElem hik⟩
      have HFT := Lib.hid (fold_take hg)
      have hmem := List.mem_of_getElem? hg
      obtain ⟨hkk, hgin⟩ := HKID.out g hmem _ HBL2.out
      obtain ⟨b, off, hAe, hblk, hcell⟩ := sl_part HA.out HESZ.out (by omega)
      subst hAe
      obtain ⟨d2, A2, c2, ns2, rfl, hd2, hl2, hct⟩ := ln_count hkk hgin
      have hba : ∀ o, Below wr.heap.size wr (wr.alloc o) := fun o => (Below.refl _ _).alloc (Nat.le_refl _) _
      have d0 := (HBL2.out.cell (p := ⟨b, off + (i * 2 + 0), none⟩) hblk).trans (hcell i _ hg 0 _ rfl)
      have d1 := (HBL2.out.cell (p := ⟨b, off + (i * 2 + 1), none⟩) hblk).trans (hcell i _ hg 1 _ rfl)
      rw [Nat.add_zero] at d0
      rw [← Nat.add_assoc] at d1
      obtain ⟨s, hs⟩ : ∃ s, s = (kids.take i).foldl (fun a g => addW a g.plain.ctl) 0 := ⟨_, rfl⟩
      rw [← hs] at HFT ⊢
      have HBA := Lib.hid (fun o => HBL2.out.trans ((hba o).mono HBL2.out.size))
      have hltI : (i : Int) < (n : Int) := by omega
      have HCT := Lib.hid hct
      obtain ⟨r, hr⟩ : ∃ r, r = ns2.length / wd d2 := ⟨_, rfl⟩
      have HLEN := length_calls A2 ns2.length c2 d2 hd2 hl2
      rw [← hr] at HLEN HCT
      have HLEN := Lib.hid HLEN
      clear hg hmem hkk hgin hcell hba hs hct hr hik hd2 hl2
      go_wp2_with fail
      refine (coords_calls _ _ _ _ _).mono ?_
      rintro e w3 ⟨rfl, hb3⟩
      have HB3 := Lib.hid ((HBA.out _).trans (hb3.mono (HBA.out _).size))
      clear hb3
      go_wp2_with fail
      refine (HLEN.out _).mono ?_
      rintro e w4 ⟨rfl, hb4⟩
      have HB4 := Lib.hid (HB3.out.trans (hb4.mono HB3.out.size))
      clear hb4 d0 d1
      go_wp2_with fail
      go_roundg (n - (i + 1))
      case measure => have := HIL.out; omega
      case rel => exact ⟨i + 1, by omega, by go_num, by rw [HFT.out, HCT.out]; unfold addW; rw [wrapEq], HB4.out⟩
    · obtain rfl : i = n := by omega
      have htk : kids.take i = kids := List.take_of_length_le (by rw [← HN.out]; exact Nat.le_refl _)
      rw [htk]
      obtain ⟨s, hs⟩ : ∃ s, s = kids.foldl (fun a g => addW a g.plain.ctl) 0 := ⟨_, rfl⟩
      rw [← hs]
      have HS := Lib.hid hs
      have hltI : (i : Int) ≤ (i : Int) := Int.le_refl _
      clear htk hs
      go_wp2_with fail
      exact bodyPost_ret (v := .int .i64 s) (by simp [results, go_sem]) rfl ⟨by rw [HS.out], HBL.out.trans (HBL2.out.mono HBL.out.size)⟩

set_option maxHeartbeats 8000000 in
set_option maxRecDepth 100000 in
theorem ctl5 {d : Nat} {A : Option Addr} {c : Nat} {kids : List MG} : CtlC 92 (.mu 5 d A c kids) := fun S w h => by
  rw [MG.In] at h
  obtain ⟨hd4, -, hkb, hA, hkid0⟩ := h
  have hesz : ∀ g ∈ kids, g.enc.length = 2 := MG.enc_esz hkid0 (by decide)
  have hkid := MG.inL_iff.1 hkid0
  rw [ctl_mu (by decide)]
  show Calls Tryz.prog 92 #[.agg #[.slice A kids.length c, .int .u8 d]] w _
  obtain ⟨wA, hwA⟩ : ∃ wA, wA = w.alloc (.cells #[.slice A kids.length c, .int .u8 d] 76) := ⟨_, rfl⟩
  have hbl : Below w.heap.size w wA := by rw [hwA]; exact (Below.refl _ _).alloc (Nat.le_refl _) _
  obtain ⟨n, hn⟩ : ∃ n, n = kids.length := ⟨_, rfl⟩
  have HA := Lib.hid (hA.1.up hbl)
  have HKID := Lib.hid (fun g hg w' (hb : Below wA.heap.size wA w') => (⟨(hkid g hg).1, MG.up hb (MG.up hbl (hkid g hg).2)⟩ : g.kind = pk 5 ∧ g.In S w'))
  have HESZ := Lib.hid hesz
  have HBL := Lib.hid hbl
  have HWA := Lib.hid hwA
  have HN := Lib.hid hn
  rw [← hn] at HWA hkb ⊢
  unfold kbig at hkb
  clear hA hkid0 hesz hkid hbl hwA hn
  go_enter Tryz.func92, Tryz.ntmps92
  go_wp2_with fail
  rw [← HWA.out]
  go_loopg [3, 9] n (fun q sv ci wr => ∃ (i : Nat), i + q = n ∧ ci = .int .i64 (i : Nat) ∧ sv = .int .i64 ((kids.take i).foldl (fun a g => addW a g.plain.ctl) 0) ∧ Below wA.heap.size wA wr)
  case atStart => exact ⟨0, by omega, by go_num, rfl, Below.refl _ _⟩
  case round =>
    obtain ⟨i, hi', rfl, rfl, hbl⟩ := hrel
    have HIL := Lib.hid hi'
    have HBL2 := Lib.hid hbl
    have hin : i ≤ n := by omega
    have sr := hbl.size
    clear hi' hbl
    by_cases hlt : i < n
    · have hik : i < kids.length := by rw [← HN.out]; exact hlt
      obtain ⟨g, hg⟩ : ∃ g, kids[i]? = some g := ⟨kids[i], List.getElem?_eq_getElem hik⟩
      have HFT := Lib.hid (fold_take hg)
      have hmem := List.mem_of_getElem? hg
      obtain ⟨hkk, hgin⟩ := HKID.out g hmem _ HBL2.out
      obtain ⟨b, off, hAe, hblk, hcell⟩ := sl_part HA.out HESZ.out (by omega)
      subst hAe
      obtain ⟨d2, A2, c2, ns2, rfl, hd2, hl2, hct⟩ := ln_count hkk hgin
      have hba : ∀ o, Below wr.heap.size wr (wr.alloc o) := fun o => (Below.refl _ _).alloc (Nat.le_refl _) _
      have d0 := (HBL2.out.cell (p := ⟨b, off + (i * 2 + 0), none⟩) hblk).trans (hcell i _ hg 0 _ rfl)
      have d1 := (HBL2.out.cell (p := ⟨b, off + (i * 2 + 1), none⟩) hblk).trans (hcell i _ hg 1 _ rfl)
      rw [Nat.add_zero] at d0
      rw [← Nat.add_assoc] at d1
      obtain ⟨s, hs⟩ : ∃ s, s = (kids.take i).foldl (fun a g => addW a g.plain.ctl) 0 := ⟨_, rfl⟩
      rw [← hs] at HFT ⊢
      have HBA := Lib.hid (fun o => HBL2.out.trans ((hba o).mono HBL2.out.size))
      have hltI : (i : Int) < (n : Int) := by omega
      have HCT := Lib.hid hct
      obtain ⟨r, hr⟩ : ∃ r, r = ns2.length / wd d2 := ⟨_, rfl⟩
      have HLEN := length_calls A2 ns2.length c2 d2 hd2 hl2
      rw [← hr] at HLEN HCT
      have HLEN := Lib.hid HLEN
      clear hg hmem hkk hgin hcell hba hs hct hr hik hd2 hl2
      go_wp2_with fail
      refine (coords_calls _ _ _ _ _).mono ?_
      rintro e w3 ⟨rfl, hb3⟩
      have HB3 := Lib.hid ((HBA.out _).trans (hb3.mono (HBA.out _).size))
      clear hb3
      go_wp2_with fail
      refine (HLEN.out _).mono ?_
      rintro e w4 ⟨rfl, hb4⟩
      have HB4 := Lib.hid (HB3.out.trans (hb4.mono HB3.out.size))
      clear hb4 d0 d1
      go_wp2_with fail
      go_roundg (n - (i + 1))
      case measure => have := HIL.out; omega
      case rel => exact ⟨i + 1, by omega, by go_num, by rw [HFT.out, HCT.out]; unfold addW; rw [wrapEq], HB4.out⟩
    · obtain rfl : i = n := by omega
      have htk : kids.take i = kids := List.take_of_length_le (by rw [← HN.out]; exact Nat.le_refl _)
      rw [htk]
      obtain ⟨s, hs⟩ : ∃ s, s = kids.foldl (fun a g => addW a g.plain.ctl) 0 := ⟨_, rfl⟩
      rw [← hs]
      have HS := Lib.hid hs
      have hltI : (i : Int) ≤ (i : Int) := Int.le_refl _
      clear htk hs
      go_wp2_with fail
      exact bodyPost_ret (v := .int .i64 s) (by simp [results, go_sem]) rfl ⟨by rw [HS.out], HBL.out.trans (HBL2.out.mono HBL.out.size)⟩

set_option maxHeartbeats 8000000 in
set_option maxRecDepth 100000 in
theorem ctl6 {d : Nat} {A : Option Addr} {c : Nat} {kids : List MG} : CtlC 93 (.mu 6 d A c kids) := fun S w h => by
  rw [MG.In] at h
  obtain ⟨hd4, -, hkb, hA, hkid0⟩ := h
  have hesz : ∀ g ∈ kids, g.enc.length = 2 := MG.enc_esz hkid0 (by decide)
  have hkid := MG.inL_iff.1 hkid0
  rw [ctl_mu (by decide)]
  show Calls Tryz.prog 93 #[.agg #[.slice A kids.length c, .int .u8 d]] w _
  obtain ⟨wA, hwA⟩ : ∃ wA, wA = w.alloc (.cells #[.slice A kids.length c, .int .u8 d] 80) := ⟨_, rfl⟩
  have hbl : Below w.heap.size w wA := by rw [hwA]; exact (Below.refl _ _).alloc (Nat.le_refl _) _
  obtain ⟨n, hn⟩ : ∃ n, n = kids.length := ⟨_, rfl⟩
  have HA := Lib.hid (hA.1.up hbl)
  have HKID := Lib.hid (fun g hg w' (hb : Below wA.heap.size wA w') => (⟨(hkid g hg).1, MG.up hb (MG.up hbl (hkid g hg).2)⟩ : g.kind = pk 6 ∧ g.In S w'))
  have HESZ := Lib.hid hesz
  have HBL := Lib.hid hbl
  have HWA := Lib.hid hwA
  have HN := Lib.hid hn
  rw [← hn] at HWA hkb ⊢
  unfold kbig at hkb
  clear hA hkid0 hesz hkid hbl hwA hn
  go_enter Tryz.func93, Tryz.ntmps93
  go_wp2_with fail
  rw [← HWA.out]
  go_loopg [3, 9] n (fun q sv ci wr => ∃ (i : Nat), i + q = n ∧ ci = .int .i64 (i : Nat) ∧ sv = .int .i64 ((kids.take i).foldl (fun a g => addW a g.plain.ctl) 0) ∧ Below wA.heap.size wA wr)
  case atStart => exact ⟨0, by omega, by go_num, rfl, Below.refl _ _⟩
  case round =>
    obtain ⟨i, hi', rfl, rfl, hbl⟩ := hrel
    have HIL := Lib.hid hi'
    have HBL2 := Lib.hid hbl
    have hin : i ≤ n := by omega
    have sr := hbl.size
    clear hi' hbl
    by_cases hlt : i < n
    · have hik : i < kids.length := by rw [← HN.out]; exact hlt
      obtain ⟨g, hg⟩ : ∃ g, kids[i]? = some g := ⟨kids[i], List.getElem?_eq_getElem hik⟩
      have HFT := Lib.hid (fold_take hg)
      have hmem := List.mem_of_getElem? hg
      obtain ⟨hkk, hgin⟩ := HKID.out g hmem _ HBL2.out
      obtain ⟨b, off, hAe, hblk, hcell⟩ := sl_part HA.out HESZ.out (by omega)
      subst hAe
      obtain ⟨d2, A2, c2, ks2, rfl⟩ := MG.is_mu (S := S) (w := w) (k := 3) hkk (by decide) (by decide) (by decide)
      have hba : ∀ o, Below wr.heap.size wr (wr.alloc o) := fun o => (Below.refl _ _).alloc (Nat.le_refl _) _
      have d0 := (HBL2.out.cell (p := ⟨b, off + (i * 2 + 0), none⟩) hblk).trans (hcell i _ hg 0 _ rfl)
      have d1 := (HBL2.out.cell (p := ⟨b, off + (i * 2 + 1), none⟩) hblk).trans (hcell i _ hg 1 _ rfl)
      rw [Nat.add_zero] at d0
      rw [← Nat.add_assoc] at d1
      obtain ⟨s, hs⟩ : ∃ s, s = (kids.take i).foldl (fun a g => addW a g.plain.ctl) 0 := ⟨_, rfl⟩
      rw [← hs] at HFT ⊢
      have HBA := Lib.hid (fun o => HBL2.out.trans ((hba o).mono HBL2.out.size))
      have hltI : (i : Int) < (n : Int) := by omega
      have HC := Lib.hid (show ∀ o, Calls Tryz.prog 90 #[.agg #[.slice A2 ks2.length c2, .int .u8 d2]] (wr.alloc o) (Gives (wr.alloc o) (.int .i64 (MG.mu 3 d2 A2 c2 ks2).plain.ctl)) from fun o => ctl3 S (wr.alloc o) (MG.up (hba o) hgin))
      obtain ⟨r, hr⟩ : ∃ r, r = (MG.mu 3 d2 A2 c2 ks2).plain.ctl := ⟨_, rfl⟩
      rw [← hr] at HC HFT
      clear hg hmem hkk hgin hcell hba hs hr hik
      go_wp2_with fail
      refine (HC.out _).mono ?_
      rintro e w4 ⟨rfl, hb4⟩
      have HB4 := Lib.hid ((HBA.out _).trans (hb4.mono (HBA.out _).size))
      clear hb4 d0 d1
      go_wp2_with fail
      go_roundg (n - (i + 1))
      case measure => have := HIL.out; omega
      case rel => exact ⟨i + 1, by omega, by go_num, by rw [HFT.out]; unfold addW; rw [wrapEq], HB4.out⟩
    · obtain rfl : i = n := by omega
      have htk : kids.take i = kids := List.take_of_length_le (by rw [← HN.out]; exact Nat.le_refl _)
      rw [htk]
      obtain ⟨s, hs⟩ : ∃ s, s = kids.foldl (fun a g => addW a g.plain.ctl) 0 := ⟨_, rfl⟩
      rw [← hs]
      have HS := Lib.hid hs
      have hltI : (i : Int) ≤ (i : Int) := Int.le_refl _
      clear htk hs
      go_wp2_with fail
      exact bodyPost_ret (v := .int .i64 s) (by simp [results, go_sem]) rfl ⟨by rw [HS.out], HBL.out.trans (HBL2.out.mono HBL.out.size)⟩

/-- Points count one each. -/
theorem ctl_points : ∀ (kids : List MG) (a : Nat), (∀ g ∈ kids, g.kind = 1) → a + kids.length ≤ kbig → (∀ g ∈ kids, ∃ S w, g.In S w) → kids.foldl (fun a g => addW a g.plain.ctl) (a : Int) = ((a + kids.length : Nat) : Int)
  | [], a, _, _, _ => rfl
  | g :: l, a, hk, hb, hi => by
    obtain ⟨S, w, h⟩ := hi g (by simp)
    obtain ⟨d, full, p, rfl⟩ := MG.is_pt (hk g (by simp)) h
    rw [List.foldl_cons]
    have h1 : (MG.pt d full p).plain.ctl = 1 := by rw [MG.plain, ctl_eq, if_pos rfl]
    rw [h1]
    rw [List.length_cons] at hb
    have h2 : addW (a : Int) 1 = ((a + 1 : Nat) : Int) := by
      unfold addW
      unfold kbig at hb
      exact IntWalk.i64_in _ (by omega)
    rw [h2, ctl_points l (a + 1) (fun g hg => hk g (by simp [hg])) (by omega) (fun g hg => hi g (by simp [hg])), List.length_cons]
    congr 1
    omega
set_option maxHeartbeats 4000000 in
set_option maxRecDepth 100000 in
theorem ctl4 {d : Nat} {A : Option Addr} {c : Nat} {kids : List MG} : CtlC 91 (.mu 4 d A c kids) := fun S w h => by
  rw [MG.In] at h
  obtain ⟨hd4, -, hkb, hA, hkid0⟩ := h
  have hkid := MG.inL_iff.1 hkid0
  rw [ctl_mu (by decide)]
  have hc := ctl_points kids 0 (fun g hg => (hkid g hg).1) (by omega) (fun g hg => ⟨S, w, (hkid g hg).2⟩)
  have hc2 : kids.foldl (fun a g => addW a g.plain.ctl) 0 = (kids.length : Int) := by simpa using hc
  rw [hc2]
  show Calls Tryz.prog 91 #[.agg #[.slice A kids.length c, .int .u8 d]] w _
  clear hc hc2 hkid hkid0 hA
  go_enter Tryz.func91, Tryz.ntmps91
  go_wp2_with fail
  exact bodyPost_ret (v := .int .i64 (kids.length : Nat)) (by simp [results, go_sem]) rfl ⟨rfl, (Below.refl _ _).alloc (Nat.le_refl _) _⟩

set_option maxHeartbeats 4000000 in
set_option maxRecDepth 100000 in
theorem geoC1 {a : Nat} {m : MG} (hm : m.kind = 1) : CtlC 41 (.bx a m) := fun S w h => by
  rw [MG.In] at h
  obtain ⟨-, -, -, hin⟩ := h
  obtain ⟨d, full, p, rfl⟩ := MG.is_pt hm hin
  have h1 : (MG.bx a (MG.pt d full p)).plain.ctl = 1 := by rw [MG.plain, MG.plain, ctl_eq, if_pos rfl]
  rw [h1]
  show Calls Tryz.prog 41 #[.agg #[.int .i64 1, .iface 130 (.pointer (some ⟨a, 0, none⟩))]] w _
  clear hin hm h1
  go_enter Tryz.func41, Tryz.ntmps41
  go_wp2_with fail
  exact bodyPost_ret (v := .int .i64 1) (by simp [results, go_sem]) rfl ⟨rfl, (Below.refl _ _).alloc (Nat.le_refl _) _⟩

set_option maxHeartbeats 4000000 in
set_option maxRecDepth 100000 in
theorem geoC2 {a : Nat} {m : MG} (hm : m.kind = 2) : CtlC 41 (.bx a m) := fun S w h => by
  rw [MG.In] at h
  obtain ⟨-, -, hblk, hin⟩ := h
  rw [hm] at hblk
  rw [MG.plain]
  obtain ⟨d, A, c, ns, rfl⟩ := MG.is_ln hm hin
  have hblk : Blk w a 65 #[.int .u8 d, .slice A ns.length c] := hblk
  show Calls Tryz.prog 41 #[.agg #[.int .i64 2, .iface 132 (.pointer (some ⟨a, 0, none⟩))]] w _
  obtain ⟨wA, hwA⟩ : ∃ wA, wA = w.alloc (.cells #[.int .i64 2, .iface 132 (.pointer (some ⟨a, 0, none⟩))] 39) := ⟨_, rfl⟩
  have hbl : Below w.heap.size w wA := by rw [hwA]; exact (Below.refl _ _).alloc (Nat.le_refl _) _
  have HM := Lib.hid (must2 (hblk.below hbl hblk.lt))
  have HBL := Lib.hid hbl
  have HWA := Lib.hid hwA
  obtain ⟨d', A', c', ns', e, hd, hl, hct⟩ := ln_count rfl hin
  injection e with e1 e2 e3 e4
  subst e1 e2 e3 e4
  rw [hct]
  obtain ⟨r, hr⟩ : ∃ r, r = ns.length / wd d := ⟨_, rfl⟩
  have HLEN := length_calls A ns.length c d hd hl
  rw [← hr] at HLEN ⊢
  have HLEN := Lib.hid HLEN
  clear hbl hwA hblk hin hm hr hct hd hl
  go_enter Tryz.func41, Tryz.ntmps41
  go_wp2_with fail
  rw [← HWA.out]
  refine HM.out.mono ?_
  rintro e w1 ⟨rfl, hb1⟩
  have HB1 := Lib.hid hb1
  clear hb1
  go_wp2_with fail
  refine (coords_calls _ _ _ _ _).mono ?_
  rintro e w2 ⟨rfl, hb2⟩
  have HB2 := Lib.hid (HB1.out.trans (hb2.mono HB1.out.size))
  clear hb2
  go_wp2_with fail
  refine (HLEN.out _).mono ?_
  rintro e w3 ⟨rfl, hb3⟩
  have HB3 := Lib.hid (HBL.out.trans ((HB2.out.trans (hb3.mono HB2.out.size)).mono HBL.out.size))
  clear hb3
  go_wp2_with fail
  exact bodyPost_ret (v := .int .i64 (r : Nat)) (by simp [results, go_sem]) rfl ⟨rfl, HB3.out⟩

set_option maxHeartbeats 4000000 in
set_option maxRecDepth 100000 in
theorem geoC3 {a : Nat} {m : MG} (hm : m.kind = 3) : CtlC 41 (.bx a m) := fun S w h => by
  rw [MG.In] at h
  obtain ⟨-, -, hblk, hin⟩ := h
  rw [hm] at hblk
  rw [MG.plain]
  obtain ⟨d, A, c, kids, rfl⟩ := MG.is_mu (S := S) (w := w) (k := 3) hm (by decide) (by decide) (by decide)
  have hblk : Blk w a 69 #[.slice A kids.length c, .int .u8 d] := hblk
  show Calls Tryz.prog 41 #[.agg #[.int .i64 3, .iface 135 (.pointer (some ⟨a, 0, none⟩))]] w _
  obtain ⟨wA, hwA⟩ : ∃ wA, wA = w.alloc (.cells #[.int .i64 3, .iface 135 (.pointer (some ⟨a, 0, none⟩))] 39) := ⟨_, rfl⟩
  have hbl : Below w.heap.size w wA := by rw [hwA]; exact (Below.refl _ _).alloc (Nat.le_refl _) _
  have HM := Lib.hid (must3 (hblk.below hbl hblk.lt))
  have HBL := Lib.hid hbl
  have HWA := Lib.hid hwA
  have HF := Lib.hid (fun w' hb => ctl3 S w' (MG.up hb (MG.up hbl hin)))
  obtain ⟨r, hr⟩ : ∃ r, r = (MG.mu 3 d A c kids).plain.ctl := ⟨_, rfl⟩
  rw [← hr] at HF ⊢
  clear hbl hwA hblk hin hm hr
  go_enter Tryz.func41, Tryz.ntmps41
  go_wp2_with fail
  rw [← HWA.out]
  refine HM.out.mono ?_
  rintro e w1 ⟨rfl, hb1⟩
  have HB1 := Lib.hid hb1
  have HF1 := Lib.hid (HF.out w1 hb1)
  clear hb1
  go_wp2_with fail
  refine HF1.out.mono ?_
  rintro e w2 ⟨rfl, hb2⟩
  have HB2 := Lib.hid (HBL.out.trans ((HB1.out.trans (hb2.mono HB1.out.size)).mono HBL.out.size))
  clear hb2
  go_wp2_with fail
  exact bodyPost_ret (v := .int .i64 r) (by simp [results, go_sem]) rfl ⟨rfl, HB2.out⟩

set_option maxHeartbeats 4000000 in
set_option maxRecDepth 100000 in
theorem geoC4 {a : Nat} {m : MG} (hm : m.kind = 4) : CtlC 41 (.bx a m) := fun S w h => by
  rw [MG.In] at h
  obtain ⟨-, -, hblk, hin⟩ := h
  rw [hm] at hblk
  rw [MG.plain]
  obtain ⟨d, A, c, kids, rfl⟩ := MG.is_mu (S := S) (w := w) (k := 4) hm (by decide) (by decide) (by decide)
  have hblk : Blk w a 73 #[.slice A kids.length c, .int .u8 d] := hblk
  show Calls Tryz.prog 41 #[.agg #[.int .i64 4, .iface 138 (.pointer (some ⟨a, 0, none⟩))]] w _
  obtain ⟨wA, hwA⟩ : ∃ wA, wA = w.alloc (.cells #[.int .i64 4, .iface 138 (.pointer (some ⟨a, 0, none⟩))] 39) := ⟨_, rfl⟩
  have hbl : Below w.heap.size w wA := by rw [hwA]; exact (Below.refl _ _).alloc (Nat.le_refl _) _
  have HM := Lib.hid (must4 (hblk.below hbl hblk.lt))
  have HBL := Lib.hid hbl
  have HWA := Lib.hid hwA
  have HF := Lib.hid (fun w' hb => ctl4 S w' (MG.up hb (MG.up hbl hin)))
  obtain ⟨r, hr⟩ : ∃ r, r = (MG.mu 4 d A c kids).plain.ctl := ⟨_, rfl⟩
  rw [← hr] at HF ⊢
  clear hbl hwA hblk hin hm hr
  go_enter Tryz.func41, Tryz.ntmps41
  go_wp2_with fail
  rw [← HWA.out]
  refine HM.out.mono ?_
  rintro e w1 ⟨rfl, hb1⟩
  have HB1 := Lib.hid hb1
  have HF1 := Lib.hid (HF.out w1 hb1)
  clear hb1
  go_wp2_with fail
  refine HF1.out.mono ?_
  rintro e w2 ⟨rfl, hb2⟩
  have HB2 := Lib.hid (HBL.out.trans ((HB1.out.trans (hb2.mono HB1.out.size)).mono HBL.out.size))
  clear hb2
  go_wp2_with fail
  exact bodyPost_ret (v := .int .i64 r) (by simp [results, go_sem]) rfl ⟨rfl, HB2.out⟩

set_option maxHeartbeats 4000000 in
set_option maxRecDepth 100000 in
theorem geoC5 {a : Nat} {m : MG} (hm : m.kind = 5) : CtlC 41 (.bx a m) := fun S w h => by
  rw [MG.In] at h
  obtain ⟨-, -, hblk, hin⟩ := h
  rw [hm] at hblk
  rw [MG.plain]
  obtain ⟨d, A, c, kids, rfl⟩ := MG.is_mu (S := S) (w := w) (k := 5) hm (by decide) (by decide) (by decide)
  have hblk : Blk w a 76 #[.slice A kids.length c, .int .u8 d] := hblk
  show Calls Tryz.prog 41 #[.agg #[.int .i64 5, .iface 141 (.pointer (some ⟨a, 0, none⟩))]] w _
  obtain ⟨wA, hwA⟩ : ∃ wA, wA = w.alloc (.cells #[.int .i64 5, .iface 141 (.pointer (some ⟨a, 0, none⟩))] 39) := ⟨_, rfl⟩
  have hbl : Below w.heap.size w wA := by rw [hwA]; exact (Below.refl _ _).alloc (Nat.le_refl _) _
  have HM := Lib.hid (must5 (hblk.below hbl hblk.lt))
  have HBL := Lib.hid hbl
  have HWA := Lib.hid hwA
  have HF := Lib.hid (fun w' hb => ctl5 S w' (MG.up hb (MG.up hbl hin)))
  obtain ⟨r, hr⟩ : ∃ r, r = (MG.mu 5 d A c kids).plain.ctl := ⟨_, rfl⟩
  rw [← hr] at HF ⊢
  clear hbl hwA hblk hin hm hr
  go_enter Tryz.func41, Tryz.ntmps41
  go_wp2_with fail
  rw [← HWA.out]
  refine HM.out.mono ?_
  rintro e w1 ⟨rfl, hb1⟩
  have HB1 := Lib.hid hb1
  have HF1 := Lib.hid (HF.out w1 hb1)
  clear hb1
  go_wp2_with fail
  refine HF1.out.mono ?_
  rintro e w2 ⟨rfl, hb2⟩
  have HB2 := Lib.hid (HBL.out.trans ((HB1.out.trans (hb2.mono HB1.out.size)).mono HBL.out.size))
  clear hb2
  go_wp2_with fail
  exact bodyPost_ret (v := .int .i64 r) (by simp [results, go_sem]) rfl ⟨rfl, HB2.out⟩

set_option maxHeartbeats 4000000 in
set_option maxRecDepth 100000 in
theorem geoC6 {a : Nat} {m : MG} (hm : m.kind = 6) : CtlC 41 (.bx a m) := fun S w h => by
  rw [MG.In] at h
  obtain ⟨-, -, hblk, hin⟩ := h
  rw [hm] at hblk
  rw [MG.plain]
  obtain ⟨d, A, c, kids, rfl⟩ := MG.is_mu (S := S) (w := w) (k := 6) hm (by decide) (by decide) (by decide)
  have hblk : Blk w a 80 #[.slice A kids.length c, .int .u8 d] := hblk
  show Calls Tryz.prog 41 #[.agg #[.int .i64 6, .iface 144 (.pointer (some ⟨a, 0, none⟩))]] w _
  obtain ⟨wA, hwA⟩ : ∃ wA, wA = w.alloc (.cells #[.int .i64 6, .iface 144 (.pointer (some ⟨a, 0, none⟩))] 39) := ⟨_, rfl⟩
  have hbl : Below w.heap.size w wA := by rw [hwA]; exact (Below.refl _ _).alloc (Nat.le_refl _) _
  have HM := Lib.hid (must6 (hblk.below hbl hblk.lt))
  have HBL := Lib.hid hbl
  have HWA := Lib.hid hwA
  have HF := Lib.hid (fun w' hb => ctl6 S w' (MG.up hb (MG.up hbl hin)))
  obtain ⟨r, hr⟩ : ∃ r, r = (MG.mu 6 d A c kids).plain.ctl := ⟨_, rfl⟩
  rw [← hr] at HF ⊢
  clear hbl hwA hblk hin hm hr
  go_enter Tryz.func41, Tryz.ntmps41
  go_wp2_with fail
  rw [← HWA.out]
  refine HM.out.mono ?_
  rintro e w1 ⟨rfl, hb1⟩
  have HB1 := Lib.hid hb1
  have HF1 := Lib.hid (HF.out w1 hb1)
  clear hb1
  go_wp2_with fail
  refine HF1.out.mono ?_
  rintro e w2 ⟨rfl, hb2⟩
  have HB2 := Lib.hid (HBL.out.trans ((HB1.out.trans (hb2.mono HB1.out.size)).mono HBL.out.size))
  clear hb2
  go_wp2_with fail
  exact bodyPost_ret (v := .int .i64 r) (by simp [results, go_sem]) rfl ⟨rfl, HB2.out⟩

theorem fieldGC (A : Option Addr) (n c : Nat) (d : Int) (w : World) : (Instr.field 84 (.agg #[.slice A n c, .int .u8 d]) 0).run Tryz.prog w = .ok (.slice A n c) w := by kernel_rfl
set_option maxHeartbeats 8000000 in
set_option maxRecDepth 100000 in
theorem geoC0 {a : Nat} {m : MG} (hm : m.kind = 0) (hC : ∀ d A c kids, m = .mu 0 d A c kids → ∀ g ∈ kids, g.kind = 7 → CtlC 41 g) : CtlC 41 (.bx a m) := fun S w h => by
  rw [MG.In] at h
  obtain ⟨-, -, hblk, hin⟩ := h
  rw [hm] at hblk
  rw [MG.plain]
  obtain ⟨d, A, c, kids, rfl⟩ := MG.is_mu (S := S) (w := w) (k := 0) hm (by decide) (by decide) (by decide)
  have hblk : Blk w a 84 #[.slice A kids.length c, .int .u8 d] := hblk
  rw [MG.In] at hin
  obtain ⟨hd4, -, hkb, hA, hkid0⟩ := hin
  have hesz : ∀ g ∈ kids, g.enc.length = 2 := MG.enc_esz hkid0 (by decide)
  have hkid := MG.inL_iff.1 hkid0
  rw [ctl_mu (by decide)]
  show Calls Tryz.prog 41 #[.agg #[.int .i64 0, .iface 148 (.pointer (some ⟨a, 0, none⟩))]] w _
  obtain ⟨wA, hwA⟩ : ∃ wA, wA = w.alloc (.cells #[.int .i64 0, .iface 148 (.pointer (some ⟨a, 0, none⟩))] 39) := ⟨_, rfl⟩
  have hbl : Below w.heap.size w wA := by rw [hwA]; exact (Below.refl _ _).alloc (Nat.le_refl _) _
  have HM := Lib.hid (must0 (hblk.below hbl hblk.lt))
  have HC := Lib.hid (hC d A c kids rfl)
  obtain ⟨n, hn⟩ : ∃ n, n = kids.length := ⟨_, rfl⟩
  have HA := Lib.hid (hA.1.up hbl)
  have HKID := Lib.hid (fun g hg w' (hb : Below wA.heap.size wA w') => (⟨(hkid g hg).1, MG.up hb (MG.up hbl (hkid g hg).2)⟩ : g.kind = 7 ∧ g.In S w'))
  have HESZ := Lib.hid hesz
  have HBL := Lib.hid hbl
  have HWA := Lib.hid hwA
  have HN := Lib.hid hn
  rw [← hn] at HM hkb
  unfold kbig at hkb
  clear hA hkid0 hesz hkid hbl hwA hn hblk hm hC
  go_enter Tryz.func41, Tryz.ntmps41
  go_wp2_with fail
  rw [← HWA.out]
  refine HM.out.mono ?_
  rintro e w1 ⟨rfl, hb1⟩
  have HB1 := Lib.hid hb1
  have hfd := fieldGC A n c d
  clear hb1
  go_wp2_with fail
  go_loopg [3, 19] n (fun q sv ci wr => ∃ (i : Nat), i + q = n ∧ ci = .int .i64 (i : Nat) ∧ sv = .int .i64 ((kids.take i).foldl (fun a g => addW a g.plain.ctl) 0) ∧ Below wA.heap.size wA wr)
  case atStart => exact ⟨0, by omega, by go_num, rfl, HB1.out⟩
  case round =>
    obtain ⟨i, hi', rfl, rfl, hbl⟩ := hrel
    have HIL := Lib.hid hi'
    have HBL2 := Lib.hid hbl
    have hin : i ≤ n := by omega
    have sr := hbl.size
    clear hi' hbl
    by_cases hlt : i < n
    · have hik : i < kids.length := by rw [← HN.out]; exact hlt
      obtain ⟨g, hg⟩ : ∃ g, kids[i]? = some g := ⟨kids[i], List.getElem?_eq_getElem hik⟩
      have HFT := Lib.hid (fold_take hg)
      have hmem := List.mem_of_getElem? hg
      obtain ⟨hkk, hgin⟩ := HKID.out g hmem _ HBL2.out
      obtain ⟨b, off, hAe, hbo, hcell⟩ := sl_part HA.out HESZ.out (by omega)
      subst hAe
      obtain ⟨a2, m2, rfl⟩ := MG.is_bx hkk hgin
      have hba : ∀ o, Below wr.heap.size wr (wr.alloc o) := fun o => (Below.refl _ _).alloc (Nat.le_refl _) _
      have d0 := (HBL2.out.cell (p := ⟨b, off + (i * 2 + 0), none⟩) hbo).trans (hcell i _ hg 0 _ rfl)
      have d1 := (HBL2.out.cell (p := ⟨b, off + (i * 2 + 1), none⟩) hbo).trans (hcell i _ hg 1 _ rfl)
      rw [Nat.add_zero] at d0
      rw [← Nat.add_assoc] at d1
      obtain ⟨s, hs⟩ : ∃ s, s = (kids.take i).foldl (fun a g => addW a g.plain.ctl) 0 := ⟨_, rfl⟩
      rw [← hs] at HFT ⊢
      have HBA := Lib.hid (fun o => HBL2.out.trans ((hba o).mono HBL2.out.size))
      have hltI : (i : Int) < (n : Int) := by omega
      have HCC := Lib.hid (show ∀ o, Calls Tryz.prog 41 #[.agg #[.int .i64 m2.kind, .iface (pT m2.kind) (.pointer (some ⟨a2, 0, none⟩))]] (wr.alloc o) (Gives (wr.alloc o) (.int .i64 (MG.bx a2 m2).plain.ctl)) from fun o => HC.out _ hmem hkk S (wr.alloc o) (MG.up (hba o) hgin))
      obtain ⟨r, hr⟩ : ∃ r, r = (MG.bx a2 m2).plain.ctl := ⟨_, rfl⟩
      rw [← hr] at HCC HFT
      clear hg hmem hkk hgin hcell hba hs hr hik
      go_wp2_with fail
      refine (HCC.out _).mono ?_
      rintro e w4 ⟨rfl, hb4⟩
      have HB4 := Lib.hid ((HBA.out _).trans (hb4.mono (HBA.out _).size))
      clear hb4 d0 d1
      go_wp2_with fail
      go_roundg (n - (i + 1))
      case measure => have := HIL.out; omega
      case rel => exact ⟨i + 1, by omega, by go_num, by rw [HFT.out]; unfold addW; rw [wrapEq], HB4.out⟩
    · obtain rfl : i = n := by omega
      have htk : kids.take i = kids := List.take_of_length_le (by rw [← HN.out]; exact Nat.le_refl _)
      rw [htk]
      obtain ⟨s, hs⟩ : ∃ s, s = kids.foldl (fun a g => addW a g.plain.ctl) 0 := ⟨_, rfl⟩
      rw [← hs]
      have HS := Lib.hid hs
      have hltI : (i : Int) ≤ (i : Int) := Int.le_refl _
      clear htk hs
      go_wp2_with fail
      exact bodyPost_ret (v := .int .i64 s) (by simp [results, go_sem]) rfl ⟨by rw [HS.out], HBL.out.trans (HBL2.out.mono HBL.out.size)⟩

theorem geoCtl_all : ∀ m : MG, (∀ a, CtlC 41 (.bx a m)) ∧ (m.kind = 7 → CtlC 41 m) := by
  intro m
  induction m using MG.ind with
  | h1 d full p => exact ⟨fun a => geoC1 rfl, fun h => by cases h⟩
  | h2 d A c ns => exact ⟨fun a => geoC2 rfl, fun h => by cases h⟩
  | h3 k d A c kids ih =>
    refine ⟨fun a S w h => ?_, fun h7 S w h => ?_⟩
    · have hk : k < 7 ∧ pk k < 8 := by
        rw [MG.In] at h
        obtain ⟨h1, -, -, h2⟩ := h
        rw [MG.In] at h2
        exact ⟨h1, h2.2.1⟩
      obtain rfl | rfl | rfl | rfl | rfl | rfl | rfl : k = 0 ∨ k = 1 ∨ k = 2 ∨ k = 3 ∨ k = 4 ∨ k = 5 ∨ k = 6 := by omega
      · exact geoC0 rfl (fun d' A' c' kids' e g hg hk => by injection e with _ _ _ _ e5; subst e5; exact (ih g hg).2 hk) S w h
      · exact absurd hk.2 (by decide)
      · exact absurd hk.2 (by decide)
      · exact geoC3 rfl S w h
      · exact geoC4 rfl S w h
      · exact geoC5 rfl S w h
      · exact geoC6 rfl S w h
    · obtain ⟨a, g, e⟩ := MG.is_bx h7 h
      cases e
  | h4 a g ih =>
    refine ⟨fun a' S w h => ?_, fun _ => ih.1 a⟩
    rw [MG.In] at h
    exact absurd h.1 (by show ¬ (7 : Nat) < 7; omega)

set_option maxHeartbeats 4000000 in
theorem door_calls {g : MG} (hk : g.kind = 7) : CtlC 20 g := fun S w h => by
  obtain ⟨a, m, rfl⟩ := MG.is_bx hk h
  have HC := Lib.hid (show ∀ o, Calls Tryz.prog 41 #[.agg #[.int .i64 m.kind, .iface (pT m.kind) (.pointer (some ⟨a, 0, none⟩))]] (w.alloc o) (Gives (w.alloc o) (.int .i64 (MG.bx a m).plain.ctl)) from fun o => (geoCtl_all (.bx a m)).2 rfl S (w.alloc o) (MG.up ((Below.refl _ _).alloc (Nat.le_refl _) _) h))
  show Calls Tryz.prog 20 #[.agg #[.int .i64 m.kind, .iface (pT m.kind) (.pointer (some ⟨a, 0, none⟩))]] w _
  obtain ⟨r, hr⟩ : ∃ r, r = (MG.bx a m).plain.ctl := ⟨_, rfl⟩
  rw [← hr] at HC ⊢
  clear h hr hk
  go_enter Tryz.func20, Tryz.ntmps20
  go_wp2_with fail
  refine (HC.out _).mono ?_
  rintro e w1 ⟨rfl, hb1⟩
  have HB1 := Lib.hid (((Below.refl _ _).alloc (Nat.le_refl _) _).trans (hb1.mono (by simp)))
  clear hb1
  go_wp2_with fail
  exact bodyPost_ret (v := .int .i64 r) (by simp [results, go_sem]) rfl ⟨rfl, HB1.out⟩
set_option maxHeartbeats 4000000 in
theorem implControl_calls (g : IG) {S : Nat → Prop} {w : World} (h : g.In S w) (hs : g.plain.small) : Calls Tryz.prog 8 #[.agg g.enc.toArray] w (Gives w (.int .i64 g.plain.new.ctl)) := by
  obtain ⟨k, d, A, ca, ns, B, cb, kids⟩ := g
  have HG := Lib.hid (show ∀ o, Calls Tryz.prog 21 #[.agg #[.int .i64 k, .int .i64 d, .slice A ns.length ca, .slice B kids.length cb]] (w.alloc o) (MadePost (w.alloc o) 7 (IG.mk k d A ca ns B cb kids).plain) from fun o => geometry_calls _ S (w.alloc o) (IG.up ((Below.refl _ _).alloc (Nat.le_refl _) _) h) hs)
  show Calls Tryz.prog 8 #[.agg #[.int .i64 k, .int .i64 d, .slice A ns.length ca, .slice B kids.length cb]] w _
  obtain ⟨pg, hpg⟩ : ∃ pg, pg = (IG.mk k d A ca ns B cb kids).plain := ⟨_, rfl⟩
  rw [← hpg] at HG ⊢
  obtain ⟨n, hn⟩ : ∃ n, n = kids.length := ⟨_, rfl⟩
  obtain ⟨m, hm⟩ : ∃ m, m = ns.length := ⟨_, rfl⟩
  rw [← hn, ← hm] at HG ⊢
  clear h hs hpg hn hm
  go_enter Tryz.func8, Tryz.ntmps8
  go_wp2_with fail
  refine (HG.out _).mono ?_
  rintro e w1 ⟨g2, rfl, h2, hk2, hp2, hb1⟩
  obtain ⟨a2, m2, rfl⟩ := MG.is_bx hk2 h2
  have HD := Lib.hid (show Calls Tryz.prog 20 #[.agg #[.int .i64 m2.kind, .iface (pT m2.kind) (.pointer (some ⟨a2, 0, none⟩))]] w1 (Gives w1 (.int .i64 pg.new.ctl)) from by
    have := door_calls (g := .bx a2 m2) rfl _ w1 h2
    rw [hp2] at this
    exact this)
  rw [show (MG.bx a2 m2).enc.toArray = #[.int .i64 m2.kind, .iface (pT m2.kind) (.pointer (some ⟨a2, 0, none⟩))] from rfl]
  have HB1 := Lib.hid (((Below.refl _ _).alloc (Nat.le_refl _) _).trans (hb1.mono (by simp)))
  obtain ⟨r, hr⟩ : ∃ r, r = pg.new.ctl := ⟨_, rfl⟩
  rw [← hr] at HD
  have HR := Lib.hid hr
  clear hb1 h2 hk2 hp2 hr
  go_wp2_with fail
  refine HD.out.mono ?_
  rintro e w2 ⟨rfl, hb2⟩
  have HB2 := Lib.hid (HB1.out.trans (hb2.mono HB1.out.size))
  clear hb2
  go_wp2_with fail
  exact bodyPost_ret (v := .int .i64 r) (by simp [results, go_sem]) rfl ⟨by rw [HR.out], HB2.out⟩
end Go.Proofs.YtplphaaeibeheaaGreat.geo
