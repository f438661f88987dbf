/-
  The laws' own comparisons: kSameAll.
-/
import Derived.Test.YtflaklceejokhaaDoorTreeKE
namespace Go.Proofs.YtflaklceejokhaaDoor.tree
open Go.ChangeShapes Go.WideShapes Go.ChangeAt Go.RowKit
open Go.Proofs.YtflaklceejokhaaDoor.mem Go.Proofs.YtflaklceejokhaaDoor.flt Ieee
set_option linter.unusedVariables false
set_option linter.unusedSimpArgs false

/-- The answers in a slice. -/
def ToldR (w : World) (A : Option Addr) (n : Nat) (an : Nat → An) : Prop :=
  0 < n → ∃ (g off : Nat) (vs : Nat → Value), A = some ⟨g, off, none⟩ ∧ g < w.heap.size ∧ ∀ i, i < n → (∀ c u, (anA (vs i) (an i))[c]? = some u → w.cell? ⟨g, off + i * 10 + c, none⟩ = some u) ∧ IdR w (vs i) (an i).ids
theorem ToldR.below {w w' : World} {A : Option Addr} {n : Nat} {an : Nat → An} (h : ToldR w A n an) (hb : Below w.heap.size w w') : ToldR w' A n an := fun hn => by
  obtain ⟨g, off, vs, e, hg, hc⟩ := h hn
  exact ⟨g, off, vs, e, Nat.lt_of_lt_of_le hg hb.size, fun i hi => ⟨fun c u hu => (hb.cell (p := ⟨g, off + i * 10 + c, none⟩) hg).trans ((hc i hi).1 c u hu), (hc i hi).2.below hb⟩⟩
theorem catF_get {α : Type} {g : Nat → List α} {k : Nat} (h : ∀ i, (g i).length = k) : ∀ n i c, i < n → c < k → (catF g n)[i * k + c]? = (g i)[c]?
  | 0, i, c, hi, _ => absurd hi (by omega)
  | n + 1, i, c, hi, hc => by
    have hl : ∀ n, (catF g n).length = n * k := by
      intro n
      induction n with
      | zero => simp [catF]
      | succ n ih => show (catF g n ++ g n).length = _; rw [List.length_append, ih, h, Nat.succ_mul]
    show (catF g n ++ g n)[i * k + c]? = _
    by_cases e : i = n
    · subst e
      rw [List.getElem?_append_right (by rw [hl]; omega), hl, Nat.add_sub_cancel_left]
    · have : i * k + k ≤ n * k := by rw [← Nat.succ_mul]; exact Nat.mul_le_mul_right _ (by omega)
      rw [List.getElem?_append_left (by rw [hl]; omega)]
      exact catF_get h n i c (by omega) hc
theorem ToldR.of_own {w : World} {B B' n k : Nat} {A : Option Addr} {vs : Nat → Value} {an : Nat → An} (h : w.ownsRow B 38 10 (.slice A n k) n (anL vs an n)) (he : ∀ j, j < n → w.ownsRow B' 3 1 (vs j) (an j).ids.length (idVs (an j).ids)) : ToldR w A n an := fun hn => by
  have hs := Sl.of_own h
  obtain ⟨g, off, e, hg, hc⟩ := hs.2.2 hn
  refine ⟨g, off, vs, e, hg, fun i hi => ⟨fun c u hu => ?_, IdR.of_own (he i hi)⟩⟩
  rw [Nat.add_assoc]
  refine hc (i * 10 + c) u ?_
  have hc10 : c < 10 := by
    rcases Nat.lt_or_ge c 10 with h | h
    · exact h
    · rw [Array.getElem?_eq_none (by simp [anA]; exact h)] at hu; cases hu
  unfold anL
  rw [catF_get (fun i => by simp [anA]) n i c hi hc10]
  simpa using hu
theorem ToldR.part {w : World} {g off n : Nat} {an : Nat → An} (h : ToldR w (some ⟨g, off, none⟩) n an) (a m : Nat) (hm : a + m ≤ n) : ToldR w (some ⟨g, off + a * 10, none⟩) m (fun i => an (a + i)) := fun hn => by
  obtain ⟨g', off', vs, e, hg, hc⟩ := h (by omega)
  cases e
  refine ⟨_, _, fun i => vs (a + i), rfl, hg, fun i hi => ⟨fun c u hu => ?_, (hc (a + i) (by omega)).2⟩⟩
  have := (hc (a + i) (by omega)).1 c u hu
  rw [show off + (a + i) * 10 + c = off + a * 10 + i * 10 + c by omega] at this
  exact this

theorem told_cells {w : World} {g o : Nat} {v : Value} {a : An} (d : ∀ c x, (anA v a)[c]? = some x → w.cell? ⟨g, o + c, none⟩ = some x) :
    w.cell? ⟨g, o, none⟩ = some v ∧ w.cell? ⟨g, o + 1, none⟩ = some (.bool a.err) ∧ w.cell? ⟨g, o + 2, none⟩ = some (.bool a.own) ∧ w.cell? ⟨g, o + 3, none⟩ = some (.bool a.found) ∧ w.cell? ⟨g, o + 4, none⟩ = some (.int .i64 a.id) ∧ w.cell? ⟨g, o + 5, none⟩ = some (.float .f64 a.b.x0) ∧
    w.cell? ⟨g, o + 6, none⟩ = some (.float .f64 a.b.y0) ∧ w.cell? ⟨g, o + 7, none⟩ = some (.float .f64 a.b.x1) ∧ w.cell? ⟨g, o + 8, none⟩ = some (.float .f64 a.b.y1) ∧ w.cell? ⟨g, o + 9, none⟩ = some (.int .i64 a.cnt) :=
  ⟨d 0 _ rfl, d 1 _ rfl, d 2 _ rfl, d 3 _ rfl, d 4 _ rfl, d 5 _ rfl, d 6 _ rfl, d 7 _ rfl, d 8 _ rfl, d 9 _ rfl⟩

def OkAn (a : An) : Prop := EqB a.b ∧ a.ids.length ≤ 100000

set_option maxRecDepth 100000 in
set_option maxHeartbeats 16000000 in
theorem kSameAll_calls (A1 A2 : Option Addr) (n k1 k2 : Nat) (an : Nat → An) (hn : n ≤ 100000) (hok : ∀ i, i < n → OkAn (an i)) (w : World) (h1 : ToldR w A1 n an) (h2 : ToldR w A2 n an) :
    Calls Tryd.prog 8 #[.slice A1 n k1, .slice A2 n k2] w fun e w' => e = .returned (.bool true) ∧ Below w.heap.size w w' := by
  have H1 := Lib.hid h1
  have H2 := Lib.hid h2
  have HOK := Lib.hid hok
  clear h1 h2 hok
  go_enter Tryd.func8, Tryd.ntmps8
  go_wp2_with fail
  go_loopg [14] n (fun q ci wr => ∃ (i : Nat), i + q = n ∧ ci = .int .i64 (i : Nat) ∧ Below w.heap.size w wr)
  case atStart => exact ⟨0, by omega, by go_num, Below.refl _ _⟩
  case round =>
    obtain ⟨i, hi', rfl, hbl⟩ := hrel
    have HI := Lib.hid hi'
    have HBL := Lib.hid hbl
    have hin : i ≤ n := by omega
    clear hi' hbl
    by_cases hlt : i < n
    · have hltI : (i : Int) < (n : Int) := by omega
      obtain ⟨g1, o1, vs1, rfl, hg1, hc1⟩ := H1.out (by omega)
      obtain ⟨g2, o2, vs2, rfl, hg2, hc2⟩ := H2.out (by omega)
      obtain ⟨c1, id1⟩ := hc1 i hlt
      obtain ⟨c2, id2⟩ := hc2 i hlt
      obtain ⟨a, ha⟩ : ∃ a, an i = a := ⟨_, rfl⟩
      obtain ⟨u, hu⟩ : ∃ u, vs1 i = u := ⟨_, rfl⟩
      obtain ⟨v, hv⟩ : ∃ v, vs2 i = v := ⟨_, rfl⟩
      have hoki := HOK.out i hlt
      rw [ha] at c1 id1 c2 id2 hoki
      rw [hu] at c1 id1
      rw [hv] at c2 id2
      have d1 : ∀ c x, (anA u a)[c]? = some x → wr.cell? ⟨g1, o1 + i * 10 + c, none⟩ = some x := fun c x hx => (HBL.out.cell (p := ⟨g1, o1 + i * 10 + c, none⟩) hg1).trans (c1 c x hx)
      have d2 : ∀ c x, (anA v a)[c]? = some x → wr.cell? ⟨g2, o2 + i * 10 + c, none⟩ = some x := fun c x hx => (HBL.out.cell (p := ⟨g2, o2 + i * 10 + c, none⟩) hg2).trans (c2 c x hx)
      have ID1 := Lib.hid (id1.below HBL.out)
      have ID2 := Lib.hid (id2.below HBL.out)
      have OKI := Lib.hid hoki
      have hws := HBL.out.size
      obtain ⟨Au, ku, hu2, -⟩ := id1
      subst hu2
      obtain ⟨Av, kv, hv2, -⟩ := id2
      subst hv2
      obtain ⟨x0, x1, x2, x3, x4, x5, x6, x7, x8, x9⟩ := told_cells d1
      obtain ⟨y0, y1, y2, y3, y4, y5, y6, y7, y8, y9⟩ := told_cells d2
      have lg2 : g2 < wr.heap.size := by omega
      clear hc1 hc2 c1 c2 ha hu hv hoki d1 d2
      have hks := kSame_calls (.slice Au a.ids.length ku) (.slice Av a.ids.length kv) a OKI.out.1 OKI.out.2
      have HKS := Lib.hid hks
      clear hks
      go_wp2_with fail
      have hbE : Below wr.heap.size wr (wr.alloc (.cells #[.slice Au a.ids.length ku, .bool a.err, .bool a.own, .bool a.found, .int .i64 a.id, .float .f64 a.b.x0, .float .f64 a.b.y0, .float .f64 a.b.x1, .float .f64 a.b.y1, .int .i64 a.cnt] 38)) := (Below.refl _ _).alloc (Nat.le_refl _) _
      have hN : Blk (wr.alloc (.cells #[.slice Au a.ids.length ku, .bool a.err, .bool a.own, .bool a.found, .int .i64 a.id, .float .f64 a.b.x0, .float .f64 a.b.y0, .float .f64 a.b.x1, .float .f64 a.b.y1, .int .i64 a.cnt] 38)) wr.heap.size 38 #[.slice Au a.ids.length ku, .bool a.err, .bool a.own, .bool a.found, .int .i64 a.id, .float .f64 a.b.x0, .float .f64 a.b.y0, .float .f64 a.b.x1, .float .f64 a.b.y1, .int .i64 a.cnt] := Blk.new _ _ _
      obtain ⟨wB, hwB⟩ : ∃ wB, wB = wr.alloc (.cells #[.slice Au a.ids.length ku, .bool a.err, .bool a.own, .bool a.found, .int .i64 a.id, .float .f64 a.b.x0, .float .f64 a.b.y0, .float .f64 a.b.x1, .float .f64 a.b.y1, .int .i64 a.cnt] 38) := ⟨_, rfl⟩
      rw [← hwB] at hbE hN ⊢
      obtain ⟨n0, n1, n2, n3, n4, n5, n6, n7, n8, n9, ln⟩ := cells10 hN
      have m0 := (hbE.cell (p := ⟨g2, o2 + i * 10, none⟩) lg2).trans y0
      have m1 := (hbE.cell (p := ⟨g2, o2 + i * 10 + 1, none⟩) lg2).trans y1
      have m2 := (hbE.cell (p := ⟨g2, o2 + i * 10 + 2, none⟩) lg2).trans y2
      have m3 := (hbE.cell (p := ⟨g2, o2 + i * 10 + 3, none⟩) lg2).trans y3
      have m4 := (hbE.cell (p := ⟨g2, o2 + i * 10 + 4, none⟩) lg2).trans y4
      have m5 := (hbE.cell (p := ⟨g2, o2 + i * 10 + 5, none⟩) lg2).trans y5
      have m6 := (hbE.cell (p := ⟨g2, o2 + i * 10 + 6, none⟩) lg2).trans y6
      have m7 := (hbE.cell (p := ⟨g2, o2 + i * 10 + 7, none⟩) lg2).trans y7
      have m8 := (hbE.cell (p := ⟨g2, o2 + i * 10 + 8, none⟩) lg2).trans y8
      have m9 := (hbE.cell (p := ⟨g2, o2 + i * 10 + 9, none⟩) lg2).trans y9
      have hbD := hbE.trans ((Below.refl wB.heap.size wB).drew.mono hbE.size)
      have hcall := HKS.out wB.drew (ID1.out.below hbD) (ID2.out.below hbD)
      unfold anA at hcall
      have HCALL := Lib.hid hcall
      have HBD := Lib.hid (HBL.out.trans (hbD.mono HBL.out.size))
      clear x0 x1 x2 x3 x4 x5 x6 x7 x8 x9 y0 y1 y2 y3 y4 y5 y6 y7 y8 y9 hbE hN hwB hbD hcall
      go_still_tail 5, (by kernel_rfl)
      change wpList _ _ _ _ _ wB.drew
      go_wp2_with fail
      refine HCALL.out.mono ?_
      rintro e w2 ⟨rfl, hb2⟩
      have HB2 := Lib.hid (HBD.out.trans (hb2.mono HBD.out.size))
      clear hb2 n0 n1 n2 n3 n4 n5 n6 n7 n8 n9 m0 m1 m2 m3 m4 m5 m6 m7 m8 m9
      go_wp2_with fail
      go_roundg (n - (i + 1))
      case measure => have := HI.out; omega
      case rel => exact ⟨i + 1, by omega, by go_num, HB2.out⟩
    · have hin2 : i = n := by omega
      have hltI : (n : Int) ≤ (i : Int) := by omega
      clear hin2
      go_wp2_with fail
      exact bodyPost_ret (v := .bool true) (by simp [results, go_sem]) rfl ⟨rfl, HBL.out⟩
end Go.Proofs.YtflaklceejokhaaDoor.tree
