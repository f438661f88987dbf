/-
  The walk of impl.TreePlay.
-/
import Derived.Test.YtflaklceejokhaaDoorTreeS7
import Derived.Test.YtflaklceejokhaaDoorTreeS8
import Derived.Deep.AppendLies
import Derived.Deep.RegionHeld3
namespace Go.Proofs.YtflaklceejokhaaDoor.tree
open Go.ChangeShapes Go.WideShapes Go.ChangeAt Go.RowKit
open Go.Proofs.YtflaklceejokhaaDoor.mem Go.Proofs.YtflaklceejokhaaDoor.flt Ieee
set_option linter.unusedVariables false
set_option linter.unusedSimpArgs false

theorem catch_idle (p q : Addr) (w : World) :
    CallsD Tryd.prog 12 #[.pointer (some p), .pointer (some q)] .returning w fun e u' w' => e = .returned (.tuple #[]) ∧ u' = .returning ∧ w = w' := by
  refine callsD_of_wpS Tryd.func12 rfl fun c₀ cs hu => ?_
  apply wpS_seq
  apply wpS_region
  simp [wpOpsS, go_sem, recoverD, hu, Tryd.ntmps12, Exit.thenS]
  refine wpS_cond (t := false) (by simp [Act.eval, Array.replicate]) ?_
  simp only [Bool.false_eq_true, if_false]
  refine wpS_of_wp (wp_skip ?_)
  cases c₀
  simp_all [bodyPostS, results, Tryd.results12]

/-- The questions of an argument. -/
def AskR (w : World) (A : Option Addr) (m : Nat) (qs : Nat → Ask) : Prop :=
  0 < m → ∃ g off, A = some ⟨g, off, none⟩ ∧ g < w.heap.size ∧ ∀ i, i < m → ∀ c u, (askA (qs i))[c]? = some u → w.cell? ⟨g, off + i * 7 + c, none⟩ = some u

def zTold : Array Value := #[.slice none 0 0, .bool false, .bool false, .bool false, .int .i64 0, .float .f64 0, .float .f64 0, .float .f64 0, .float .f64 0, .int .i64 0]
theorem infoT : (Tryd.prog.info? 38).map (fun i => (i.zero, i.size, i.bytes)) = some (some (.agg zTold), 10, 80) := by kernel_rfl

theorem an_one (A : Option Addr) (m k : Nat) (a : An) : ∀ u ∈ (anA (.slice A m k) a).toList, u.oneCell' = true := by
  intro u hu
  simp [anA] at hu
  rcases hu with rfl | rfl | rfl | rfl | rfl | rfl | rfl | rfl | rfl | rfl <;> rfl
/-- The cells of the answers. -/
def anL (vs : Nat → Value) (an : Nat → An) (i : Nat) : List Value := catF (fun j => (anA (vs j) (an j)).toList) i
theorem anL_len (vs : Nat → Value) (an : Nat → An) : ∀ i, (anL vs an i).length = i * 10
  | 0 => rfl
  | i + 1 => by
    have := anL_len vs an i
    show (anL vs an i ++ (anA (vs i) (an i)).toList).length = _
    rw [List.length_append, this]
    simp [anA]
    omega

/-- i answers stand: v is their row, vs j are the rows of the numbers in them. -/
structure PL (w w0 wr : World) (i : Nat) (v : Value) (vs : Nat → Value) (an : Nat → An) : Prop where
  keep : Keep (w.heap.size + 2) w0 wr
  bl : Blk wr w.heap.size 26 #[v]
  bo : Blk wr (w.heap.size + 1) 4 #[.bool false]
  row : wr.ownsRow w0.heap.size 38 10 v i (anL vs an i)
  each : ∀ j, j < i → wr.ownsRow w0.heap.size 3 1 (vs j) (an j).ids.length (idVs (an j).ids) ∧ ∀ k, (vs j).ownBlock = some k → v.ownBlock ≠ some k
  below : Below w.heap.size w wr

theorem own_set {w : World} {B b : Nat} {e : TypeId} {s n : Nat} {v : Value} {xs : List Value} (h : w.ownsRow B e s v n xs) (hv : ∀ k, v.ownBlock = some k → k ≠ b) (o : Nat) (u : Value) : (w.setCell ⟨b, o, none⟩ u).ownsRow B e s v n xs :=
  h.kept (grown_set w ⟨b, o, none⟩ u) (by cases hu : v.ownBlock with
    | none => exact .inl rfl
    | some k => exact .inr (fun e => hv k hu (Option.some.inj e)))

theorem PL.next {w w0 wr w4 w8 : World} {i : Nat} {v v' u : Value} {vs : Nat → Value} {an : Nat → An} {t : TypeId} {cs : Array Value} (h : PL w w0 wr i v vs an) (hw0 : w.heap.size + 2 ≤ w0.heap.size)
    (hb : Below wr.heap.size wr w4) (ho : w4.ownsRow wr.heap.size 3 1 u (an i).ids.length (idVs (an i).ids))
    (hg : (w4.alloc (.cells cs t)).grownBy w8 v.ownBlock) (hr : w8.ownsRow w0.heap.size 38 10 v' (i + 1) (anL vs an i ++ (anA u (an i)).toList)) (hat : v'.ownBlock = v.ownBlock ∨ v'.ownBlock = some (w4.heap.size + 1)) :
    PL w w0 (w8.setCell ⟨w.heap.size, 0, none⟩ v') (i + 1) v' (fun j => if j = i then u else vs j) an := by
  have hsz := h.keep.1
  have hs4 := hb.size
  have hbA : Below wr.heap.size wr (w4.alloc (.cells cs t)) := hb.alloc (by omega) _
  have hgw : wr.grownBy w8 v.ownBlock := grown_trans ⟨hbA.os, hbA.tape, hbA.output, hbA.size, fun k hk _ => hbA.block k hk⟩ hg
  have hvl : ∀ k, v.ownBlock = some k → w0.heap.size ≤ k ∧ k < wr.heap.size := h.row.lt
  have hvl' : ∀ k, v'.ownBlock = some k → w0.heap.size ≤ k := fun k hk => (hr.lt k hk).1
  have hkeep : Keep (w.heap.size + 2) w0 w8 := ⟨Nat.le_trans hsz hgw.size, fun c h1 h2 => (hgw.block c (by omega) (fun e => by have := (hvl c e.symm).1; omega)).trans (h.keep.2 c h1 h2)⟩
  · refine ⟨hkeep.trans (Keep.set w8 (by omega) _ _), ?_, (h.bo.grown hgw (fun e => by have := (hvl _ e.symm).1; omega)).far (by show w.heap.size + 1 ≠ w.heap.size; omega) _, ?_, ?_, ?_⟩
    · have := (h.bl.grown hgw (fun e => by have := (hvl _ e.symm).1; omega)).set_ 0 v'
      simpa using this
    · have e : anL vs an i ++ (anA u (an i)).toList = anL (fun j => if j = i then u else vs j) an (i + 1) := by
        show _ = catF (fun j => (anA (if j = i then u else vs j) (an j)).toList) i ++ (anA (if i = i then u else vs i) (an i)).toList
        rw [if_pos rfl]
        congr 1
        unfold anL
        have : ∀ n, n ≤ i → catF (fun j => (anA (vs j) (an j)).toList) n = catF (fun j => (anA (if j = i then u else vs j) (an j)).toList) n := by
          intro n
          induction n with
          | zero => intro _; rfl
          | succ n ih =>
            intro hn
            show catF _ n ++ (anA (vs n) (an n)).toList = catF _ n ++ (anA (if n = i then u else vs n) (an n)).toList
            rw [ih (by omega), if_neg (by omega)]
        exact this i (Nat.le_refl _)
      rw [e] at hr
      exact own_set hr (fun k hk => by have := hvl' k hk; omega) 0 v'
    · intro j hj
      by_cases e : j = i
      · subst e
        simp only [if_true]
        have hul := ho.lt
        have nv : u.ownBlock = none ∨ u.ownBlock ≠ v.ownBlock := by
          cases hu : u.ownBlock with
          | none => exact .inl rfl
          | some k => exact .inr (fun e => by have := (hvl k e.symm).2; have := (hul k hu).1; omega)
        have h8 := own_set ((ho.alloc (.cells cs t)).kept hg nv) (fun k hk => by have := (hul k hk).1; omega : ∀ k, u.ownBlock = some k → k ≠ w.heap.size) 0 v'
        refine ⟨own_rebase h8 (fun k hk => by have := (hul k hk).1; omega), fun k hk e => ?_⟩
        have h1 := (hul k hk)
        rcases hat with h2 | h2
        · rw [h2] at e; have := (hvl k e).2; omega
        · rw [h2] at e; have := Option.some.inj e; omega
      · simp only [e, if_false]
        obtain ⟨e1, e2⟩ := h.each j (by omega)
        have hjl := e1.lt
        refine ⟨own_set (e1.kept hgw (by cases hu : (vs j).ownBlock with
          | none => exact .inl rfl
          | some k => exact .inr (fun e => e2 k hu e.symm))) (fun k hk => by have := (hjl k hk).1; omega : ∀ k, (vs j).ownBlock = some k → k ≠ w.heap.size) 0 v', fun k hk e => ?_⟩
        have h1 := hjl k hk
        rcases hat with h2 | h2
        · rw [h2] at e; exact e2 k hk e
        · rw [h2] at e; have := Option.some.inj e; omega
    · exact (h.below.grown hgw h.below.size (fun k hk => by have := (hvl k hk).1; omega)).setCell (Nat.le_refl _) _

theorem PL.later {w w0 wr wr' : World} {i : Nat} {v : Value} {vs : Nat → Value} {an : Nat → An} (h : PL w w0 wr i v vs an) (hb : Below wr.heap.size wr wr') : PL w w0 wr' i v vs an :=
  ⟨h.keep.trans (Keep.of_below hb), h.bl.below hb h.bl.lt, h.bo.below hb h.bo.lt, h.row.kept (grown_below hb) (own_row v), fun j hj => ⟨(h.each j hj).1.kept (grown_below hb) (own_row _), (h.each j hj).2⟩, h.below.trans (hb.mono h.below.size)⟩

theorem PL.fin {w w0 wr : World} {m k : Nat} {A : Option Addr} {vs : Nat → Value} {an : Nat → An} (h : PL w w0 wr m (.slice A m k) vs an) (hw0 : w.heap.size + 2 ≤ w0.heap.size) (u u' : Value) :
    ((wr.setCell ⟨w.heap.size, 0, none⟩ u).setCell ⟨w.heap.size + 1, 0, none⟩ u').ownsRow w.heap.size 38 10 (.slice A m k) m (anL vs an m) ∧ (∀ j, j < m → ((wr.setCell ⟨w.heap.size, 0, none⟩ u).setCell ⟨w.heap.size + 1, 0, none⟩ u').ownsRow w.heap.size 3 1 (vs j) (an j).ids.length (idVs (an j).ids)) ∧
      Below w.heap.size w ((wr.setCell ⟨w.heap.size, 0, none⟩ u).setCell ⟨w.heap.size + 1, 0, none⟩ u') := by
  have hr := h.row.lt
  refine ⟨own_rebase (own_set (own_set h.row (fun k hk => by have := (hr k hk).1; omega) 0 u) (fun k hk => by have := (hr k hk).1; omega) 0 u') (fun k hk => by have := (hr k hk).1; omega), fun j hj => ?_, (h.below.setCell (Nat.le_refl _) _).setCell (by show w.heap.size ≤ w.heap.size + 1; omega) _⟩
  have he := (h.each j hj).1.lt
  exact own_rebase (own_set (own_set (h.each j hj).1 (fun k hk => by have := (he k hk).1; omega) 0 u) (fun k hk => by have := (he k hk).1; omega) 0 u') (fun k hk => by have := (he k hk).1; omega)

def PlayPost (w : World) (m : Nat) (an : Nat → An) (e : Ending) (w' : World) : Prop :=
  ∃ A k vs, e = .returned (.tuple #[.slice A m k, .bool true]) ∧ w'.ownsRow w.heap.size 38 10 (.slice A m k) m (anL vs an m) ∧ (∀ j, j < m → w'.ownsRow w.heap.size 3 1 (vs j) (an j).ids.length (idVs (an j).ids)) ∧ Below w.heap.size w w'

/-- Each question is answered. -/
def Answers (L : Nat) (S : Addr) (w0 : World) (t m : Nat) (qs : Nat → Ask) (an : Nat → An) : Prop :=
  ∀ i, i < m → ∀ w, Keep L w0 w → GV w S → Calls Tryd.prog 14 #[.pointer (some ⟨t, 0, none⟩), .agg (askA (qs i))] w (ToldPost w (an i))

set_option maxRecDepth 100000 in
set_option maxHeartbeats 16000000 in
theorem play_calls (A Aq : Option Addr) (n c m cq : Nat) (f : Nat → It) (qs : Nat → Ask) (an : Nat → An) (S : Addr) (hn2 : n ≤ 400) (hm2 : m ≤ 400) (hG : ∀ i, i < n → Gd (f i).b) (w : World) (hR : Rd w A n f) (hQ : AskR w Aq m qs) (hgv : GV w S) (h0 : 0 < w.heap.size)
    (hans : ∀ w0 t, RT (w.heap.size + 2) w0 t n (bq n n f) → 0 < w0.heap.size → Answers (w.heap.size + 2) S w0 t m qs an) :
    Calls Tryd.prog 7 #[.slice A n c, .slice Aq m cq] w (PlayPost w m an) := by
  obtain ⟨i0, hi0, hz0, hz1, hz2⟩ := info_parts infoT
  have HR := Lib.hid hR
  have HQ := Lib.hid hQ
  have HGV := Lib.hid hgv
  have HANS := Lib.hid hans
  have HG := Lib.hid hG
  obtain ⟨wA, hwA⟩ : ∃ wA, wA = (w.alloc (.cells #[.slice none 0 0] 26)).alloc (.cells #[.bool false] 4) := ⟨_, rfl⟩
  have hbA : Below w.heap.size w wA := by rw [hwA]; exact ((Below.refl _ _).alloc (Nat.le_refl _) _).alloc (by simp) _
  have hsA : wA.heap.size = w.heap.size + 2 := by rw [hwA]; simp
  have hlA : Blk wA w.heap.size 26 #[.slice none 0 0] := by rw [hwA]; exact (Blk.new _ _ _).alloc _
  have hoA : Blk wA (w.heap.size + 1) 4 #[.bool false] := by
    rw [hwA]
    have := Blk.new (w.alloc (.cells #[.slice none 0 0] 26)) 4 #[.bool false]
    rw [show (w.alloc (.cells #[.slice none 0 0] 26)).heap.size = w.heap.size + 1 by simp] at this
    exact this
  have HWA := Lib.hid hwA
  have HBA := Lib.hid hbA
  have HLA := Lib.hid hlA
  have HOA := Lib.hid hoA
  clear hR hQ hgv hans hG hwA hbA hlA hoA
  go_enter_defers Tryd.func7, Tryd.ntmps7
  go_wp2_with fail
  rw [← HWA.out]
  refine (tree_calls A n c f hn2 HG.out wA (HR.out.below HBA.out)).mono ?_
  rintro e w0 ⟨t, rfl, hrt, hb0⟩
  rw [hsA] at hrt
  have hw0s : w.heap.size + 2 ≤ w0.heap.size := by have := hb0.size; omega
  have hpl0 : PL w w0 w0 0 (.slice none 0 0) (fun _ => .nilIface) an := ⟨Keep.refl _ _, HLA.out.below hb0 HLA.out.lt, HOA.out.below hb0 HOA.out.lt, World.ownsRow_nil _ _ _ _, fun j hj => absurd hj (by omega), HBA.out.trans (hb0.mono HBA.out.size)⟩
  have HPL0 := Lib.hid hpl0
  have hA := HANS.out w0 t hrt (by omega)
  have HA := Lib.hid hA
  clear hrt hb0 hpl0 hA
  go_wp2_with fail
  go_loopg [14] m (fun q ci wr => ∃ i v vs, i + q = m ∧ ci = .int .i64 (i : Nat) ∧ PL w w0 wr i v vs an)
  case atStart => exact ⟨0, _, _, by omega, by go_num, HPL0.out⟩
  case round =>
    obtain ⟨i, v, vs, hi', rfl, hpl⟩ := hrel
    have HI := Lib.hid hi'
    have HPL := Lib.hid hpl
    have hin : i ≤ m := by omega
    obtain ⟨A0, k0, hv⟩ := own_slice hpl.row
    have HV := Lib.hid hv
    have c0 : wr.cell? ⟨w.heap.size, 0, none⟩ = some v := hpl.bl.cell 0
    rw [hv] at c0
    have f0 : wr.frozen? ⟨w.heap.size, 0, none⟩ = false := hpl.bl.frozen 0 (show 0 < 1 by omega)
    have lw : w.heap.size < wr.heap.size := hpl.bl.lt
    clear hi' hpl hv
    by_cases hlt : i < m
    · obtain ⟨g, off, hAq, hg, hcells⟩ := HQ.out (by omega)
      have hbl := HPL.out.below
      have d : ∀ cc u, (askA (qs i))[cc]? = some u → wr.cell? ⟨g, off + i * 7 + cc, none⟩ = some u := fun cc u hu => (hbl.cell (p := ⟨g, off + i * 7 + cc, none⟩) hg).trans (hcells i hlt cc u hu)
      have hTold := HA.out i hlt
      have HTOLD := Lib.hid hTold
      obtain ⟨⟨a0, ⟨a1, a2, a3, a4⟩, a5, a6⟩, hq⟩ : ∃ q, qs i = q := ⟨_, rfl⟩
      rw [hq] at d
      have d0 : wr.cell? ⟨g, off + i * 7, none⟩ = some (.int .i64 a0) := d 0 _ rfl
      have d1 : wr.cell? ⟨g, off + i * 7 + 1, none⟩ = some (.float .f64 a1) := d 1 _ rfl
      have d2 : wr.cell? ⟨g, off + i * 7 + 2, none⟩ = some (.float .f64 a2) := d 2 _ rfl
      have d3 : wr.cell? ⟨g, off + i * 7 + 3, none⟩ = some (.float .f64 a3) := d 3 _ rfl
      have d4 : wr.cell? ⟨g, off + i * 7 + 4, none⟩ = some (.float .f64 a4) := d 4 _ rfl
      have d5 : wr.cell? ⟨g, off + i * 7 + 5, none⟩ = some (.int .i64 a5) := d 5 _ rfl
      have d6 : wr.cell? ⟨g, off + i * 7 + 6, none⟩ = some (.int .i64 a6) := d 6 _ rfl
      subst hAq
      have HQE := Lib.hid hq
      have hltI : (i : Int) < (m : Int) := by omega
      clear hcells d hTold hq hbl
      go_wp2_with fail
      have hN : Blk (wr.alloc (.cells #[.int .i64 a0, .float .f64 a1, .float .f64 a2, .float .f64 a3, .float .f64 a4, .int .i64 a5, .int .i64 a6] 34)) wr.heap.size 34 #[.int .i64 a0, .float .f64 a1, .float .f64 a2, .float .f64 a3, .float .f64 a4, .int .i64 a5, .int .i64 a6] := Blk.new _ _ _
      have hbB : Below wr.heap.size wr (wr.alloc (.cells #[.int .i64 a0, .float .f64 a1, .float .f64 a2, .float .f64 a3, .float .f64 a4, .int .i64 a5, .int .i64 a6] 34)) := (Below.refl _ _).alloc (Nat.le_refl _) _
      obtain ⟨wB, hwB⟩ : ∃ wB, wB = wr.alloc (.cells #[.int .i64 a0, .float .f64 a1, .float .f64 a2, .float .f64 a3, .float .f64 a4, .int .i64 a5, .int .i64 a6] 34) := ⟨_, rfl⟩
      rw [← hwB] at hN hbB ⊢
      have hplB := HPL.out.later hbB
      have HPLB := Lib.hid hplB
      have hplD := hplB.later (Below.refl _ wB).drew
      have hgD : GV wB.drew S := by
        have hg0 := HGV.out
        unfold GV at hg0 ⊢
        exact (hplD.below.cell (p := ⟨0, 0, none⟩) h0).trans hg0
      have htold := HTOLD.out wB.drew hplD.keep hgD
      rw [HQE.out] at htold
      unfold askA at htold
      simp only at htold
      have HTD := Lib.hid htold
      have x0 : wB.cell? ⟨wr.heap.size, 0, none⟩ = some (.int .i64 a0) := hN.cell 0
      have x1 : wB.cell? ⟨wr.heap.size, 1, none⟩ = some (.float .f64 a1) := hN.cell 1
      have x2 : wB.cell? ⟨wr.heap.size, 2, none⟩ = some (.float .f64 a2) := hN.cell 2
      have x3 : wB.cell? ⟨wr.heap.size, 3, none⟩ = some (.float .f64 a3) := hN.cell 3
      have x4 : wB.cell? ⟨wr.heap.size, 4, none⟩ = some (.float .f64 a4) := hN.cell 4
      have x5 : wB.cell? ⟨wr.heap.size, 5, none⟩ = some (.int .i64 a5) := hN.cell 5
      have x6 : wB.cell? ⟨wr.heap.size, 6, none⟩ = some (.int .i64 a6) := hN.cell 6
      have cB : wB.cell? ⟨w.heap.size, 0, none⟩ = some (.slice A0 i k0) := (hbB.cell (p := ⟨w.heap.size, 0, none⟩) lw).trans c0
      have fB : wB.frozen? ⟨w.heap.size, 0, none⟩ = false := (hbB.frozen (p := ⟨w.heap.size, 0, none⟩) lw).trans f0
      have lB : w.heap.size < wB.heap.size := Nat.lt_of_lt_of_le lw hbB.size
      have hx0 : (Value.slice A0 i k0).ownBlock ≠ some w.heap.size := fun e => by
        have h1 := hplB.row.lt
        rw [HV.out] at h1
        have := (h1 _ e).1
        omega
      have HX0 := Lib.hid hx0
      clear d0 d1 d2 d3 d4 d5 d6 c0 f0 hN hwB hplB hplD hgD htold hx0
      have hw0r : w0.heap.size ≤ wr.heap.size := HPL.out.keep.1
      refine wp_region_noPanic ?_
      go_region_law (first
        | (go_simp; go_at_call 14; refine HTD.out.mono ?_; rintro e w4 ⟨u, rfl, ho4, hb4'⟩
           have hb4 := (Below.refl wB.heap.size wB).drew.trans hb4'
           have y0 : w4.cell? ⟨w.heap.size, 0, none⟩ = some (.slice A0 i k0) := (hb4.cell (p := ⟨w.heap.size, 0, none⟩) lB).trans cB
           have y1 : w4.frozen? ⟨w.heap.size, 0, none⟩ = false := (hb4.frozen (p := ⟨w.heap.size, 0, none⟩) lB).trans fB
           have l4 : w.heap.size < w4.heap.size := Nat.lt_of_lt_of_le lB hb4.size
           obtain ⟨A5, k5, hu5⟩ := own_slice ho4
           subst hu5
           unfold anA)
        | (refine step_append_lies _ (by rfl) _ _ _ (by rfl) w0.heap.size 38 i0 _ 10 80 Tryd.underlying26 hi0 hz0 hz1 hz2 rfl (by omega) (.slice A0 i k0) i (anL vs an i) (by rfl) (HV.out ▸ ((HPLB.out.later hb4).row.alloc _))
            ⟨w4.heap.size, 0, none⟩ 1 1 (anA (.slice A5 (an i).ids.length k5) (an i)).toList (by rfl) (by rfl) (World.news_of_block (cs := anA (.slice A5 (an i).ids.length k5) (an i)) (t := 38) (fr := (0, 0)) (heap_alloc_new w4 _)) (an_one _ _ _ _)
            (by omega) (by unfold maxLen; omega) (by omega) (by have h1 := hb4.size; have h2 := hbB.size; simp; omega) (w4.heap.size + 1) (by simp) ?_; intro gg cap w8 hown' hgrow hat hlt'
           have y3 : w8.cell? ⟨w.heap.size, 0, none⟩ = some (.slice A0 i k0) := (hgrow.cell_far _ (by simp; omega) (Ne.symm HX0.out)).trans ((((Below.refl w4.heap.size w4).alloc (Nat.le_refl _) _).cell (p := ⟨w.heap.size, 0, none⟩) l4).trans y0)
           have y4 : w8.frozen? ⟨w.heap.size, 0, none⟩ = false := (hgrow.frozen_far _ (by simp; omega) (Ne.symm HX0.out)).trans ((((Below.refl w4.heap.size w4).alloc (Nat.le_refl _) _).frozen (p := ⟨w.heap.size, 0, none⟩) l4).trans y1)
           have hfin := HPL.out.next (v' := .slice (some ⟨gg, 0, none⟩) (i + 1) cap) hw0s (hbB.trans (hb4.mono hbB.size)) (own_rebase ho4 (fun k hk => Nat.le_trans hbB.size (ho4.lt k hk).1)) (HV.out ▸ hgrow) hown' (HV.out ▸ (hat.elim (fun h => .inl h.symm) (fun h => .inr (by rw [h]; rfl))))
           have HFIN := Lib.hid hfin
           clear hown' hgrow hat hlt' hfin))
      all_goals
        refine NoPanic.normal ?_
        go_wp2_with fail
        go_roundg (m - (i + 1))
        case measure => have := HI.out; omega
        case rel => exact ⟨i + 1, _, _, by omega, by go_num, HFIN.out⟩
    · have hin2 : i = m := by omega
      have HIN := Lib.hid hin2
      have hltI : (m : Int) ≤ (i : Int) := by omega
      have e0 : wr.cell? ⟨w.heap.size + 1, 0, none⟩ = some (.bool false) := HPL.out.bo.cell 0
      have g0 : wr.frozen? ⟨w.heap.size + 1, 0, none⟩ = false := HPL.out.bo.frozen 0 (show 0 < 1 by omega)
      have el := HPL.out.bo.lt
      clear hin2
      go_wp2_with fail
      refine leaves_cons (f := 12) (args := #[.pointer (some ⟨w.heap.size, 0, none⟩), .pointer (some ⟨w.heap.size + 1, 0, none⟩)]) (by simp) (by simp [go_sem]) ?_
      refine (catch_idle _ _ _).mono ?_
      rintro e u' w'' ⟨rfl, rfl, rfl⟩
      have hpl := HPL.out
      rw [HV.out, HIN.out] at hpl
      rw [HIN.out] at c0
      have hfin := hpl.fin hw0s (.slice A0 m k0) (.bool true)
      have HFIN := Lib.hid hfin
      clear hpl hfin
      simp [Leaves, settle, results, Tryd.results7, go_sem, HIN.out, c0, e0, lw, el]
      exact ⟨A0, k0, vs, rfl, HFIN.out⟩
end Go.Proofs.YtflaklceejokhaaDoor.tree
