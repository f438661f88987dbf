/-
  A tree is made of items: the walks of impl.box, BulkLoad, impl.tree.
-/
import Derived.Test.YtflaklceejokhaaDoorTreeL1
import Derived.Test.YtflaklceejokhaaDoorTreeS1
import Derived.Deep.RegionHeld3
import Derived.Laws.MakeOwn
namespace Go.Proofs.YtflaklceejokhaaDoor.tree
open Go.ChangeShapes Go.WideShapes Go.ChangeAt Go.RowKit
open Go.Proofs.YtflaklceejokhaaDoor.mem Go.Proofs.YtflaklceejokhaaDoor.flt Ieee
set_option linter.unusedVariables false
set_option linter.unusedSimpArgs false

set_option maxRecDepth 100000 in
set_option maxHeartbeats 4000000 in
theorem box_calls (b : Bx) (w : World) : Calls Tryd.prog 16 #[.agg (bxA b)] w fun e w' => e = .returned (.agg (bxA b)) ∧ Below w.heap.size w w' := by
  unfold bxA
  obtain ⟨x0, y0, x1, y1⟩ := b
  go_enter Tryd.func16, Tryd.ntmps16
  go_wp2_with fail
  exact bodyPost_ret (v := .agg #[.float .f64 x0, .float .f64 y0, .float .f64 x1, .float .f64 y1]) (by simp [results, Tryd.results16, go_sem]) rfl ⟨rfl, ((Below.refl _ _).alloc (Nat.le_refl _) _).alloc (by simp) _⟩

def LoadPost (L : Nat) (w : World) (h n : Nat) (K : Nat × (Nat → Q)) (e : Ending) (w' : World) : Prop :=
  ∃ t, e = .returned (.pointer (some ⟨t, 0, none⟩)) ∧ RT L w' t n K ∧ w.grownBy w' (some h)

set_option maxRecDepth 100000 in
set_option maxHeartbeats 8000000 in
theorem load_calls (h n : Nat) (f : Nat → It) (hn2 : n ≤ 400) (hG : ∀ i, i < n → Gd (f i).b) (w : World) (hR : Row w h 0 n f) :
    Calls Tryd.prog 17 #[.slice (some ⟨h, 0, none⟩) n n] w (LoadPost h w h n (bq n n f)) := by
  have hgw := hR.1
  by_cases h0 : n = 0
  · subst h0
    have hb : Below w.heap.size w (w.alloc (.cells #[.pointer none, .int .i64 0] 74)) := (Below.refl _ _).alloc (Nat.le_refl _) _
    have hq : Blk (w.alloc (.cells #[.pointer none, .int .i64 0] 74)) w.heap.size 74 #[.pointer none, .int .i64 0] := Blk.new _ _ _
    have hrt : RT h (w.alloc (.cells #[.pointer none, .int .i64 0] 74)) w.heap.size 0 (bq 0 0 f) := ⟨hq.lt, by omega, hq.cell 1, .inl ⟨rfl, hq.cell 0⟩⟩
    have HRT := Lib.hid hrt
    have HB := Lib.hid hb
    clear hb hq hrt hR
    go_enter Tryd.func17, Tryd.ntmps17
    go_wp2_with fail
    exact bodyPost_ret (v := .pointer (some ⟨w.heap.size, 0, none⟩)) (by simp [results, Tryd.results17, go_sem]) rfl ⟨_, rfl, HRT.out, HB.out.os, HB.out.tape, HB.out.output, HB.out.size, fun i hi _ => HB.out.block i hi⟩
  · have t0 : ((n : Int) == 0) = false := by simp; omega
    have HR := Lib.hid hR
    have hcall := bulk_calls n n h 0 n f (by omega) (Nat.le_refl _) hn2 (Nat.le_refl _) hG w hR
    have HCALL := Lib.hid hcall
    have HO := Lib.hid (bq_ok n n f (by omega) (Nat.le_refl _) hG)
    have hcn : (Q.sub (bq n n f).1 (bq n n f).2).cnt ≤ 1000 := by rw [bq_cnt n n f (by omega) (Nat.le_refl _)]; omega
    have HCN := Lib.hid hcn
    have hn0 : 0 < n := by omega
    clear hR hcall hcn h0
    go_enter Tryd.func17, Tryd.ntmps17
    go_wp2_with fail
    refine HCALL.out.mono ?_
    rintro e w1 ⟨r, rfl, hN, hC⟩
    have hb : Below w1.heap.size w1 (w1.alloc (.cells #[.pointer (some ⟨r, 0, none⟩), .int .i64 n] 74)) := (Below.refl _ _).alloc (Nat.le_refl _) _
    have hq : Blk (w1.alloc (.cells #[.pointer (some ⟨r, 0, none⟩), .int .i64 n] 74)) w1.heap.size 74 #[.pointer (some ⟨r, 0, none⟩), .int .i64 n] := Blk.new _ _ _
    have hsz := hC.1.size
    have hN2 : NodeAt (w1.alloc (.cells #[.pointer (some ⟨r, 0, none⟩), .int .i64 n] 74)) h r (bq n n f).1 (bq n n f).2 := (hN.keep (Keep.of_below hb)).more (by omega)
    have hrt : RT h (w1.alloc (.cells #[.pointer (some ⟨r, 0, none⟩), .int .i64 n] 74)) w1.heap.size n (bq n n f) := ⟨hq.lt, by omega, hq.cell 1, .inr ⟨hn0, r, hq.cell 0, hN2, HO.out, HCN.out⟩⟩
    have HRT := Lib.hid hrt
    have HGR := Lib.hid (grown_trans hC.1 ⟨hb.os, hb.tape, hb.output, hb.size, fun i hi _ => hb.block i hi⟩)
    clear hN hC hb hq hN2 hrt
    go_wp2_with fail
    exact bodyPost_ret (v := .pointer (some ⟨w1.heap.size, 0, none⟩)) (by simp [results, Tryd.results17, go_sem]) rfl ⟨_, rfl, HRT.out, HGR.out⟩

/-- The items of an argument: the slice value .slice A n c reads as the items f 0 .. f (n - 1), below block B. -/
def Rd (w : World) (A : Option Addr) (n : Nat) (f : Nat → It) : Prop :=
  0 < n → ∃ g off, A = some ⟨g, off, none⟩ ∧ g < w.heap.size ∧ ∀ i, i < n → ∀ c, c < 5 → w.cell? ⟨g, off + i * 5 + c, none⟩ = some (itC (f i) c)
theorem Rd.below {w w' : World} {A : Option Addr} {n : Nat} {f : Nat → It} (h : Rd w A n f) (hb : Below w.heap.size w w') : Rd w' A n f := fun hn => by
  obtain ⟨g, off, e, hg, hc⟩ := h hn
  exact ⟨g, off, e, Nat.lt_of_lt_of_le hg hb.size, fun i hi c hcc => (hb.cell (p := ⟨g, off + i * 5 + c, none⟩) hg).trans (hc i hi c hcc)⟩

def zIt : It := ⟨⟨0, 0, 0, 0⟩, 0⟩
def zC : Array Value := #[.float .f64 0, .float .f64 0, .float .f64 0, .float .f64 0, .int .i64 0]
theorem infoB : (Tryd.prog.info? 55).map (fun i => (i.zero, i.size, i.bytes)) = some (some (.agg zC), 5, 40) := by kernel_rfl
theorem made_row (w : World) (n : Nat) (t : TypeId) : 0 < n → Row (w.alloc (.cells (madeCells zC (n * 5)) t)) w.heap.size 0 n (fun _ => zIt) := by
  intro hn
  have hs : (madeCells zC (n * 5)).size = n * 5 := by simp [madeCells]
  have hB := Blk.new w t (madeCells zC (n * 5))
  refine ⟨hB.lt, fun i hi c hc => ⟨?_, hB.frozen _ (by rw [hs]; omega)⟩⟩
  rw [hB.cell]
  have hlt : 0 + i * 5 + c < n * 5 := by omega
  have e : (madeCells zC (n * 5))[0 + i * 5 + c]? = some (zC[(0 + i * 5 + c) % zC.size]!) := by
    unfold madeCells
    rw [Array.getElem?_map, Array.getElem?_range, if_pos hlt]
    rfl
  rw [e]
  have e2 : (0 + i * 5 + c) % zC.size = c := by show (0 + i * 5 + c) % 5 = c; omega
  rw [e2]
  obtain rfl | rfl | rfl | rfl | rfl : c = 0 ∨ c = 1 ∨ c = 2 ∨ c = 3 ∨ c = 4 := by omega
  all_goals rfl
/-- The items as far as they are taken over. -/
def upTo (f : Nat → It) (i : Nat) : Nat → It := fun k => if k < i then f k else zIt
theorem upTo_succ (f : Nat → It) (i : Nat) : upd (upTo f i) i (f i) = upTo f (i + 1) := by
  funext k
  unfold upd upTo
  by_cases e : k = i
  · subst e; simp
  · by_cases h : k < i
    · simp [e, h, show k < i + 1 by omega]
    · simp [e, h, show ¬ k < i + 1 by omega]
theorem Row.congr {w : World} {g off n : Nat} {f f' : Nat → It} (h : Row w g off n f) (e : ∀ i, i < n → f i = f' i) : Row w g off n f' := ⟨h.1, fun i hi c hc => by rw [← e i hi]; exact h.2 i hi c hc⟩

def TreePost (w : World) (n : Nat) (f : Nat → It) (e : Ending) (w' : World) : Prop :=
  ∃ t, e = .returned (.pointer (some ⟨t, 0, none⟩)) ∧ RT w.heap.size w' t n (bq n n f) ∧ Below w.heap.size w w'

set_option maxRecDepth 100000 in
set_option maxHeartbeats 8000000 in
theorem tree_calls (A : Option Addr) (n c : Nat) (f : Nat → It) (hn2 : n ≤ 400) (hG : ∀ i, i < n → Gd (f i).b) (w : World) (hR : Rd w A n f) :
    Calls Tryd.prog 13 #[.slice A n c] w (TreePost w n f) := by
  obtain ⟨i0, hi0, hz0, hz1, hz2⟩ := info_parts infoB
  have HR := Lib.hid hR
  have HG := Lib.hid hG
  have hmk : (Instr.makeSlice 51 (.int .i64 (n : Int)) (.int .i64 (n : Int))).run Tryd.prog w = .ok (.slice (some ⟨w.heap.size, 0, none⟩) n n) (w.alloc (.cells (madeCells zC (n * 5)) 55)) := by
    have := run_make (P := Tryd.prog) w 51 55 i0 (.agg zC) Tryd.underlying51 hi0 hz0 .i64 .i64 (n : Int) (n : Int) (by omega) (Int.le_refl _) (by rw [hz2]; omega) (by omega)
    rw [hz1, show (Value.agg zC).cells = zC from rfl] at this
    simpa using this
  have hr0 : 0 < n → Row (w.alloc (.cells (madeCells zC (n * 5)) 55)) w.heap.size 0 n (fun _ => zIt) := made_row w n _
  have hb0 : Below w.heap.size w (w.alloc (.cells (madeCells zC (n * 5)) 55)) := (Below.refl _ _).alloc (Nat.le_refl _) _
  have hl0 : w.heap.size < (w.alloc (.cells (madeCells zC (n * 5)) 55)).heap.size := by simp
  obtain ⟨wA, hwA⟩ : ∃ wA, wA = w.alloc (.cells (madeCells zC (n * 5)) 55) := ⟨_, rfl⟩
  rw [← hwA] at hmk hr0 hb0 hl0
  have hR0 : Row wA w.heap.size 0 n (upTo f 0) := by
    by_cases hn0 : n = 0
    · subst hn0; exact ⟨hl0, fun i hi => absurd hi (by omega)⟩
    · exact (hr0 (by omega)).congr fun i hi => by unfold upTo; rw [if_neg (by omega)]
  have HR0 := Lib.hid hR0
  have HB0 := Lib.hid hb0
  clear hR hG hr0 hb0 hwA hR0 hi0 hz0 hz1 hz2
  go_enter Tryd.func13, Tryd.ntmps13
  go_wp2_with fail
  clear hmk
  go_loopg [11] n (fun q ci wr => ∃ i, i + q = n ∧ ci = .int .i64 (i : Nat) ∧ Row wr w.heap.size 0 n (upTo f i) ∧ Below w.heap.size w wr)
  case atStart => exact ⟨0, by omega, by go_num, HR0.out, HB0.out⟩
  case round =>
    obtain ⟨i, hi', rfl, hrow, hbl⟩ := hrel
    have HI := Lib.hid hi'
    have HROW := Lib.hid hrow
    have HBL := Lib.hid hbl
    have hin : i ≤ n := by omega
    have hrr := hrow.1
    clear hi' hrow hbl
    by_cases hlt : i < n
    · obtain ⟨g, off, hA, hg, hcells⟩ := HR.out (by omega)
      have d0 := (HBL.out.cell (p := ⟨g, off + i * 5 + 0, none⟩) hg).trans (hcells i hlt 0 (by omega))
      have d1 := (HBL.out.cell (p := ⟨g, off + i * 5 + 1, none⟩) hg).trans (hcells i hlt 1 (by omega))
      have d2 := (HBL.out.cell (p := ⟨g, off + i * 5 + 2, none⟩) hg).trans (hcells i hlt 2 (by omega))
      have d3 := (HBL.out.cell (p := ⟨g, off + i * 5 + 3, none⟩) hg).trans (hcells i hlt 3 (by omega))
      have d4 := (HBL.out.cell (p := ⟨g, off + i * 5 + 4, none⟩) hg).trans (hcells i hlt 4 (by omega))
      rw [Nat.add_zero] at d0
      simp only [itC] at d0 d1 d2 d3 d4
      obtain ⟨q, hfi⟩ : ∃ q, f i = q := ⟨_, rfl⟩
      rw [hfi] at d0 d1 d2 d3 d4
      have HFI := Lib.hid hfi
      subst hA
      have hltI : (i : Int) < (n : Int) := by omega
      have hne : g ≠ w.heap.size := by omega
      clear hfi hcells
      go_wp2_with fail
      have hN : Blk (wr.alloc (.cells #[.float .f64 q.b.x0, .float .f64 q.b.y0, .float .f64 q.b.x1, .float .f64 q.b.y1, .int .i64 q.id] 43)) wr.heap.size 43 (itA q) := Blk.new _ _ _
      have hbB : Below wr.heap.size wr (wr.alloc (.cells #[.float .f64 q.b.x0, .float .f64 q.b.y0, .float .f64 q.b.x1, .float .f64 q.b.y1, .int .i64 q.id] 43)) := (Below.refl _ _).alloc (Nat.le_refl _) _
      obtain ⟨wB, hwB⟩ : ∃ wB, wB = wr.alloc (.cells #[.float .f64 q.b.x0, .float .f64 q.b.y0, .float .f64 q.b.x1, .float .f64 q.b.y1, .int .i64 q.id] 43) := ⟨_, rfl⟩
      rw [← hwB] at hN hbB ⊢
      have HROW2 := Lib.hid (HROW.out.below hbB)
      have HBL2 := Lib.hid (HBL.out.trans (hbB.mono HBL.out.size))
      have hNl := hN.lt
      have HBX := Lib.hid (box_calls q.b)
      have hbox := box_calls q.b
      unfold bxA at hbox
      have HBOX := Lib.hid hbox
      have SF : ∀ w', Below wB.heap.size wB w' → w'.cell? ⟨wr.heap.size, 0, none⟩ = some (.float .f64 q.b.x0) ∧ w'.cell? ⟨wr.heap.size, 1, none⟩ = some (.float .f64 q.b.y0) ∧ w'.cell? ⟨wr.heap.size, 2, none⟩ = some (.float .f64 q.b.x1) ∧ w'.cell? ⟨wr.heap.size, 3, none⟩ = some (.float .f64 q.b.y1) ∧ w'.cell? ⟨wr.heap.size, 4, none⟩ = some (.int .i64 q.id) := fun w' h =>
        ⟨(h.cell (p := ⟨wr.heap.size, 0, none⟩) hNl).trans (hN.cell 0), (h.cell (p := ⟨wr.heap.size, 1, none⟩) hNl).trans (hN.cell 1), (h.cell (p := ⟨wr.heap.size, 2, none⟩) hNl).trans (hN.cell 2), (h.cell (p := ⟨wr.heap.size, 3, none⟩) hNl).trans (hN.cell 3), (h.cell (p := ⟨wr.heap.size, 4, none⟩) hNl).trans (hN.cell 4)⟩
      have SFH := Lib.hid SF
      have hne2 : w.heap.size ≠ wr.heap.size := by omega
      clear d0 d1 d2 d3 d4 hN hbB hwB hbox SF
      go_region_held3 (fun w' => w'.cell? ⟨wr.heap.size, 0, none⟩ = some (.float .f64 q.b.x0) ∧ w'.cell? ⟨wr.heap.size, 1, none⟩ = some (.float .f64 q.b.y0) ∧ w'.cell? ⟨wr.heap.size, 2, none⟩ = some (.float .f64 q.b.x1) ∧ w'.cell? ⟨wr.heap.size, 3, none⟩ = some (.float .f64 q.b.y1) ∧ w'.cell? ⟨wr.heap.size, 4, none⟩ = some (.int .i64 q.id))
        (first
          | (exact SFH.out _ hb4)
          | (exact SFH.out _ (Below.refl _ _).drew)
          | go_keep)
        (first
          | (go_at_call 16; refine (HBOX.out _).mono ?_; rintro e w4 ⟨rfl, hb4'⟩; have hb4 := (Below.refl wB.heap.size wB).drew.trans hb4'
             obtain ⟨x0, x1, x2, x3, x4⟩ := (HROW2.out.below hb4).at hlt
             obtain ⟨y0, y1, y2, y3, y4⟩ := (HROW2.out.below hb4).fr hlt
             simp only [Nat.zero_add] at x0 x1 x2 x3 x4 y0 y1 y2 y3 y4))
      have hrow4 := (HROW2.out.below hb4).set hlt (f i)
      rw [upTo_succ, HFI.out] at hrow4
      unfold setIt at hrow4
      simp only [Nat.zero_add] at hrow4
      have HROW4 := Lib.hid hrow4
      have HB4 := Lib.hid (HBL2.out.trans (hb4.mono HBL2.out.size))
      clear hrow4 x0 x1 x2 x3 x4 y0 y1 y2 y3 y4
      go_wp2_with fail
      go_roundg (n - (i + 1))
      case measure => have := HI.out; omega
      case rel => exact ⟨i + 1, by omega, by go_num, HROW4.out, ((((HB4.out.setCell (Nat.le_refl _) _).setCell (Nat.le_refl _) _).setCell (Nat.le_refl _) _).setCell (Nat.le_refl _) _).setCell (Nat.le_refl _) _⟩
    · have hin2 : i = n := by omega
      have HIN := Lib.hid hin2
      have hltI : (n : Int) ≤ (i : Int) := by omega
      have hrow : Row wr w.heap.size 0 n f := by
        have := HROW.out
        rw [hin2] at this
        exact this.congr fun j hj => by unfold upTo; rw [if_pos hj]
      have hcall := load_calls w.heap.size n f hn2 HG.out wr hrow
      have HCALL := Lib.hid hcall
      clear hin2 hrow hcall
      go_wp2_with fail
      refine HCALL.out.mono ?_
      rintro e w5 ⟨t, rfl, hrt, hgr⟩
      have HRT := Lib.hid hrt
      have HB5 := Lib.hid (HBL.out.grown hgr HBL.out.size (fun q hq => by have : w.heap.size = q := Option.some.inj hq; omega))
      clear hrt hgr
      go_wp2_with fail
      exact bodyPost_ret (v := .pointer (some ⟨t, 0, none⟩)) (by simp [results, Tryd.results13, go_sem]) rfl ⟨t, rfl, HRT.out, HB5.out⟩
end Go.Proofs.YtflaklceejokhaaDoor.tree
