/-
  Contract of the reference's writer: the form of the empty collection. Contract of the reference's writer: the form of the empty collection, whole.
-/
import Derived.Test.YtbacakdpfiiblaaGreatRdM
import Derived.Test.YtbacakdpfiiblaaGreatRdD
import Derived.Deep.DeepCutAuto
namespace Go.Proofs.YtbacakdpfiiblaaGreat.geo
open Go.ChangeShapes Go.WideShapes Go.ChangeAt Go.RowKit
open Go.Proofs.YtbacakdpfiiblaaGreat.mem
set_option linter.unusedVariables false
set_option linter.unusedSimpArgs false

/-- The writer: block B; the bytes so far, a row of its own. -/
def WBI (B base : Nat) (l : List Nat) (wx : World) : Prop := ∃ A c, Blk wx B 154 #[.slice A l.length c, .slice none 0 0] ∧ wx.ownsRow base 5 1 (.slice A l.length c) l.length (BL l)
/-- All below but the writer's block is as it was. -/
def WBF (B base : Nat) (w w' : World) : Prop := w'.os = w.os ∧ w'.tape = w.tape ∧ w'.output = w.output ∧ w.heap.size ≤ w'.heap.size ∧ ∀ j, j < base → j ≠ B → w'.heap[j]? = w.heap[j]?
theorem WBF.refl (B base : Nat) (w : World) : WBF B base w w := ⟨rfl, rfl, rfl, Nat.le_refl _, fun _ _ _ => rfl⟩
theorem WBF.trans {B base : Nat} {a b c : World} (h : WBF B base a b) (k : WBF B base b c) : WBF B base a c :=
  ⟨k.1.trans h.1, k.2.1.trans h.2.1, k.2.2.1.trans h.2.2.1, Nat.le_trans h.2.2.2.1 k.2.2.2.1, fun j hj hn => (k.2.2.2.2 j hj hn).trans (h.2.2.2.2 j hj hn)⟩
theorem WBF.drew {B base : Nat} {a b : World} (h : WBF B base a b) : WBF B base a b.drew := h.trans ⟨rfl, rfl, rfl, Nat.le_refl _, fun _ _ _ => rfl⟩
theorem WBF.blk {B base g : Nat} {t : TypeId} {cs : Array Value} {w w' : World} (h : WBF B base w w') (hb : Blk w g t cs) (hg : g < base) (hn : g ≠ B) : Blk w' g t cs := hb.of_heap (h.2.2.2.2 g hg hn)
/-- The writer wrote. -/
def WBPost (w : World) (B base : Nat) (l : List Nat) (e : Ending) (w' : World) : Prop := e = .returned (.tuple #[]) ∧ WBI B base l w' ∧ WBF B base w w'
/-- A byte more. -/
theorem WBI.next {B base v : Nat} {m : List Nat} {w w8 : World} {A A8 : Option Addr} {c c8 : Nat} {ob : Obj} (hB : B < base) (hbs : base ≤ w.heap.size) (h : Blk w B 154 #[.slice A m.length c, .slice none 0 0]) (ho : w.ownsRow base 5 1 (.slice A m.length c) m.length (BL m))
    (ho8 : w8.ownsRow base 5 1 (.slice A8 (m.length + 1) c8) (m.length + 1) (BL m ++ [.int .u8 (v : Nat)])) (hg8 : (w.alloc ob).grownBy w8 (Value.slice A m.length c).ownBlock) :
    Blk w8 B 154 #[.slice A m.length c, .slice none 0 0] ∧ WBI B base (m ++ [v]) (w8.setCell ⟨B, 0, none⟩ (.slice A8 (m.length + 1) c8)) ∧ WBF B base w (w8.setCell ⟨B, 0, none⟩ (.slice A8 (m.length + 1) c8)) := by
  have hne : some B ≠ (Value.slice A m.length c).ownBlock := fun e => by have h1 := (ho.lt _ e.symm).1; omega
  have hb8 : Blk w8 B 154 #[.slice A m.length c, .slice none 0 0] := (h.alloc ob).grown hg8 hne
  have hlt := h.lt
  have hlt8 := hb8.lt
  have h1 : Below w.heap.size w (w.alloc ob) := (Below.refl _ _).alloc (Nat.le_refl _) _
  refine ⟨hb8, ⟨A8, c8, ?_, ?_⟩, ⟨hg8.os, hg8.tape, hg8.output, by have := hg8.size; have := h1.size; simp at *; omega, fun j hj hjn => ?_⟩⟩
  · have := hb8.set_ 0 (.slice A8 (m.length + 1) c8)
    simpa using this
  · have h3 : (BL (m ++ [v])) = BL m ++ [.int .u8 (v : Nat)] := by simp [BL]
    rw [h3, List.length_append]
    refine ho8.kept (grown_set w8 ⟨B, 0, none⟩ _) (.inr (fun e => ?_))
    have h4 := (ho8.lt _ e).1
    have h5 : base ≤ B := h4
    omega
  · rw [Below.heap_setCell _ ⟨B, 0, none⟩ _ j hjn]
    refine (hg8.block j (by have := h1.size; omega) (fun e => ?_)).trans (h1.block j (by omega))
    have h2 := (ho.lt _ e.symm).1
    omega
theorem WBI.drew {B base : Nat} {l : List Nat} {w : World} (h : WBI B base l w) : WBI B base l w.drew := by
  obtain ⟨A, c, h1, h2⟩ := h
  refine ⟨A, c, h1.below (Below.refl _ _).drew h1.lt, h2.kept (grown_below (row := none) (Below.refl w.heap.size w).drew) ?_⟩
  rcases ho : (Value.slice A l.length c).ownBlock with _ | q
  · exact .inl rfl
  · exact .inr (fun e => by cases e)
/-- What byte of a number. -/
def byteAt (x i : Nat) : Nat := if i = 0 then x else 0
theorem bytes_snoc (x i : Nat) (l : List Nat) : l ++ (List.range (i + 1)).map (byteAt x) = (l ++ (List.range i).map (byteAt x)) ++ [byteAt x i] := by
  rw [List.range_succ, List.map_append, List.append_assoc]; rfl
set_option maxHeartbeats 8000000 in
set_option maxRecDepth 100000 in
theorem wuint_calls {w : World} {B base : Nat} {l : List Nat} {x : Nat} (hx : x = 7 ∨ x = 0) (hl : l.length ≤ 100) (hB : B < base) (hbs : base ≤ w.heap.size) (h : WBI B base l w) :
    Calls Tryz.prog 151 #[.pointer (some ⟨B, 0, none⟩), .int .u64 (x : Nat), .int .i64 4, .bool false] w (WBPost w B base (l ++ (List.range 4).map (byteAt x))) := by
  obtain ⟨i1, hi1, hz11, hz12, hz13⟩ := info_parts infoB
  have HH := Lib.hid h
  clear h
  go_enter Tryz.func151, Tryz.ntmps151
  go_wp2_with fail
  go_loopg [10] 4 (fun q cc wr => ∃ i, i + q = 4 ∧ cc = .int .i64 (i : Nat) ∧ WBI B base (l ++ (List.range i).map (byteAt x)) wr ∧ WBF B base w wr ∧ base ≤ wr.heap.size)
  case atStart => exact ⟨0, by omega, by go_num, by simpa using HH.out, WBF.refl _ _ _, hbs⟩
  case round =>
    obtain ⟨i, hi', rfl, hI, hbl, hbr⟩ := hrel
    have HIL := Lib.hid hi'
    have HBL := Lib.hid hbl
    have hin : i ≤ 4 := by omega
    obtain ⟨m, hm⟩ : ∃ m, m = l ++ (List.range i).map (byteAt x) := ⟨_, rfl⟩
    have HM2 := Lib.hid (show l ++ (List.range (i + 1)).map (byteAt x) = m ++ [byteAt x i] by rw [hm]; exact bytes_snoc x i l)
    have HM := Lib.hid hm
    have hml : m.length ≤ 104 := by rw [hm]; simp; omega
    rw [← hm] at hI
    clear hi' hbl hm
    by_cases hlt : i < 4
    · obtain ⟨A, c, hBk, hown⟩ := hI
      obtain ⟨c0, c1, y0, y1, cl⟩ := cells2 hBk
      obtain ⟨v, hv⟩ : ∃ v, v = byteAt x i := ⟨_, rfl⟩
      have HBK := Lib.hid hBk
      have HOW := Lib.hid hown
      rw [← hv] at HM2
      have HNX := Lib.hid (fun A8 c8 w8 ob => WBI.next (A8 := A8) (c8 := c8) (w8 := w8) (ob := ob) (v := v) hB hbr hBk hown)
      clear hBk hown
      have h4 : i = 0 ∨ i = 1 ∨ i = 2 ∨ i = 3 := by omega
      rcases hx with rfl | rfl <;> rcases h4 with rfl | rfl | rfl | rfl
      · obtain rfl : v = 7 := hv
        have s0 : Op.shift .shr .u64 7 .i64 (IntKind.i64.wrap 0) = pure (.int .u64 7) := by rfl
        have s1 : Op.shift .shr .u64 7 .i64 (IntKind.i64.wrap 8) = pure (.int .u64 0) := by rfl
        have s2 : Op.shift .shr .u64 7 .i64 (IntKind.i64.wrap 16) = pure (.int .u64 0) := by rfl
        have s3 : Op.shift .shr .u64 7 .i64 (IntKind.i64.wrap 24) = pure (.int .u64 0) := by rfl
        go_upto_region 5 with fail
        go_region_law (first
          | (refine step_append_sl _ (by rfl) _ _ _ (by rfl) base 5 i1 _ 1 1 Tryz.underlying34 hi1 hz11 hz12 hz13 rfl (by decide) (.slice A m.length c) m.length (BL m) (by rfl) (HOW.out.alloc (.cells #[.int .u8 7] 5)) (wr.alloc (.cells #[.int .u8 7] 5)).heap.size (some ⟨wr.heap.size, 0, none⟩) 1 1 [.int .u8 7] (by rfl) (slBlk (n := 1) (c := 1) (heap_alloc_new wr _) rfl (by unfold maxLen; omega)) (BL_one [7]) (by unfold maxLen; omega) (by omega) (by simp; omega) ?_; intro A8 c8 w8 ho8 hg8d ha8
             have hg8 : (wr.alloc (.cells #[.int .u8 7] 5)).grownBy w8 (Value.slice A m.length c).ownBlock := by first | exact hg8d | exact ⟨hg8d.os, hg8d.tape, hg8d.output, hg8d.size, hg8d.block⟩
             obtain ⟨hb8, hw8, hbe8⟩ := HNX.out A8 c8 w8 _ ho8 hg8
             obtain ⟨e0, e1, p0, p1, el⟩ := cells2 hb8
             have HW8 := Lib.hid hw8
             have HBE8 := Lib.hid hbe8
             clear ho8 hg8 hg8d ha8 hb8 hw8 hbe8))
        all_goals
          go_wp2_with fail
          go_roundg (4 - (0 + 1))
          case measure => have := HIL.out; omega
          case rel =>
            refine ⟨0 + 1, by have := HIL.out; omega, by go_num, ?_, ?_, ?_⟩
            · rw [HM2.out]
              first | exact HW8.out | exact HW8.out.drew
            · exact HBL.out.trans (by first | exact HBE8.out | exact HBE8.out.drew)
            · have h1 := HBE8.out.2.2.2.1
              exact Nat.le_trans hbr h1
      · obtain rfl : v = 0 := hv
        have s0 : Op.shift .shr .u64 7 .i64 (IntKind.i64.wrap 0) = pure (.int .u64 7) := by rfl
        have s1 : Op.shift .shr .u64 7 .i64 (IntKind.i64.wrap 8) = pure (.int .u64 0) := by rfl
        have s2 : Op.shift .shr .u64 7 .i64 (IntKind.i64.wrap 16) = pure (.int .u64 0) := by rfl
        have s3 : Op.shift .shr .u64 7 .i64 (IntKind.i64.wrap 24) = pure (.int .u64 0) := by rfl
        go_upto_region 5 with fail
        go_region_law (first
          | (refine step_append_sl _ (by rfl) _ _ _ (by rfl) base 5 i1 _ 1 1 Tryz.underlying34 hi1 hz11 hz12 hz13 rfl (by decide) (.slice A m.length c) m.length (BL m) (by rfl) (HOW.out.alloc (.cells #[.int .u8 0] 5)) (wr.alloc (.cells #[.int .u8 0] 5)).heap.size (some ⟨wr.heap.size, 0, none⟩) 1 1 [.int .u8 0] (by rfl) (slBlk (n := 1) (c := 1) (heap_alloc_new wr _) rfl (by unfold maxLen; omega)) (BL_one [0]) (by unfold maxLen; omega) (by omega) (by simp; omega) ?_; intro A8 c8 w8 ho8 hg8d ha8
             have hg8 : (wr.alloc (.cells #[.int .u8 0] 5)).grownBy w8 (Value.slice A m.length c).ownBlock := by first | exact hg8d | exact ⟨hg8d.os, hg8d.tape, hg8d.output, hg8d.size, hg8d.block⟩
             obtain ⟨hb8, hw8, hbe8⟩ := HNX.out A8 c8 w8 _ ho8 hg8
             obtain ⟨e0, e1, p0, p1, el⟩ := cells2 hb8
             have HW8 := Lib.hid hw8
             have HBE8 := Lib.hid hbe8
             clear ho8 hg8 hg8d ha8 hb8 hw8 hbe8))
        all_goals
          go_wp2_with fail
          go_roundg (4 - (1 + 1))
          case measure => have := HIL.out; omega
          case rel =>
            refine ⟨1 + 1, by have := HIL.out; omega, by go_num, ?_, ?_, ?_⟩
            · rw [HM2.out]
              first | exact HW8.out | exact HW8.out.drew
            · exact HBL.out.trans (by first | exact HBE8.out | exact HBE8.out.drew)
            · have h1 := HBE8.out.2.2.2.1
              exact Nat.le_trans hbr h1
      · obtain rfl : v = 0 := hv
        have s0 : Op.shift .shr .u64 7 .i64 (IntKind.i64.wrap 0) = pure (.int .u64 7) := by rfl
        have s1 : Op.shift .shr .u64 7 .i64 (IntKind.i64.wrap 8) = pure (.int .u64 0) := by rfl
        have s2 : Op.shift .shr .u64 7 .i64 (IntKind.i64.wrap 16) = pure (.int .u64 0) := by rfl
        have s3 : Op.shift .shr .u64 7 .i64 (IntKind.i64.wrap 24) = pure (.int .u64 0) := by rfl
        go_upto_region 5 with fail
        go_region_law (first
          | (refine step_append_sl _ (by rfl) _ _ _ (by rfl) base 5 i1 _ 1 1 Tryz.underlying34 hi1 hz11 hz12 hz13 rfl (by decide) (.slice A m.length c) m.length (BL m) (by rfl) (HOW.out.alloc (.cells #[.int .u8 0] 5)) (wr.alloc (.cells #[.int .u8 0] 5)).heap.size (some ⟨wr.heap.size, 0, none⟩) 1 1 [.int .u8 0] (by rfl) (slBlk (n := 1) (c := 1) (heap_alloc_new wr _) rfl (by unfold maxLen; omega)) (BL_one [0]) (by unfold maxLen; omega) (by omega) (by simp; omega) ?_; intro A8 c8 w8 ho8 hg8d ha8
             have hg8 : (wr.alloc (.cells #[.int .u8 0] 5)).grownBy w8 (Value.slice A m.length c).ownBlock := by first | exact hg8d | exact ⟨hg8d.os, hg8d.tape, hg8d.output, hg8d.size, hg8d.block⟩
             obtain ⟨hb8, hw8, hbe8⟩ := HNX.out A8 c8 w8 _ ho8 hg8
             obtain ⟨e0, e1, p0, p1, el⟩ := cells2 hb8
             have HW8 := Lib.hid hw8
             have HBE8 := Lib.hid hbe8
             clear ho8 hg8 hg8d ha8 hb8 hw8 hbe8))
        all_goals
          go_wp2_with fail
          go_roundg (4 - (2 + 1))
          case measure => have := HIL.out; omega
          case rel =>
            refine ⟨2 + 1, by have := HIL.out; omega, by go_num, ?_, ?_, ?_⟩
            · rw [HM2.out]
              first | exact HW8.out | exact HW8.out.drew
            · exact HBL.out.trans (by first | exact HBE8.out | exact HBE8.out.drew)
            · have h1 := HBE8.out.2.2.2.1
              exact Nat.le_trans hbr h1
      · obtain rfl : v = 0 := hv
        have s0 : Op.shift .shr .u64 7 .i64 (IntKind.i64.wrap 0) = pure (.int .u64 7) := by rfl
        have s1 : Op.shift .shr .u64 7 .i64 (IntKind.i64.wrap 8) = pure (.int .u64 0) := by rfl
        have s2 : Op.shift .shr .u64 7 .i64 (IntKind.i64.wrap 16) = pure (.int .u64 0) := by rfl
        have s3 : Op.shift .shr .u64 7 .i64 (IntKind.i64.wrap 24) = pure (.int .u64 0) := by rfl
        go_upto_region 5 with fail
        go_region_law (first
          | (refine step_append_sl _ (by rfl) _ _ _ (by rfl) base 5 i1 _ 1 1 Tryz.underlying34 hi1 hz11 hz12 hz13 rfl (by decide) (.slice A m.length c) m.length (BL m) (by rfl) (HOW.out.alloc (.cells #[.int .u8 0] 5)) (wr.alloc (.cells #[.int .u8 0] 5)).heap.size (some ⟨wr.heap.size, 0, none⟩) 1 1 [.int .u8 0] (by rfl) (slBlk (n := 1) (c := 1) (heap_alloc_new wr _) rfl (by unfold maxLen; omega)) (BL_one [0]) (by unfold maxLen; omega) (by omega) (by simp; omega) ?_; intro A8 c8 w8 ho8 hg8d ha8
             have hg8 : (wr.alloc (.cells #[.int .u8 0] 5)).grownBy w8 (Value.slice A m.length c).ownBlock := by first | exact hg8d | exact ⟨hg8d.os, hg8d.tape, hg8d.output, hg8d.size, hg8d.block⟩
             obtain ⟨hb8, hw8, hbe8⟩ := HNX.out A8 c8 w8 _ ho8 hg8
             obtain ⟨e0, e1, p0, p1, el⟩ := cells2 hb8
             have HW8 := Lib.hid hw8
             have HBE8 := Lib.hid hbe8
             clear ho8 hg8 hg8d ha8 hb8 hw8 hbe8))
        all_goals
          go_wp2_with fail
          go_roundg (4 - (3 + 1))
          case measure => have := HIL.out; omega
          case rel =>
            refine ⟨3 + 1, by have := HIL.out; omega, by go_num, ?_, ?_, ?_⟩
            · rw [HM2.out]
              first | exact HW8.out | exact HW8.out.drew
            · exact HBL.out.trans (by first | exact HBE8.out | exact HBE8.out.drew)
            · have h1 := HBE8.out.2.2.2.1
              exact Nat.le_trans hbr h1
      · obtain rfl : v = 0 := hv
        have s0 : Op.shift .shr .u64 0 .i64 (IntKind.i64.wrap 0) = pure (.int .u64 0) := by rfl
        have s1 : Op.shift .shr .u64 0 .i64 (IntKind.i64.wrap 8) = pure (.int .u64 0) := by rfl
        have s2 : Op.shift .shr .u64 0 .i64 (IntKind.i64.wrap 16) = pure (.int .u64 0) := by rfl
        have s3 : Op.shift .shr .u64 0 .i64 (IntKind.i64.wrap 24) = pure (.int .u64 0) := by rfl
        go_upto_region 5 with fail
        go_region_law (first
          | (refine step_append_sl _ (by rfl) _ _ _ (by rfl) base 5 i1 _ 1 1 Tryz.underlying34 hi1 hz11 hz12 hz13 rfl (by decide) (.slice A m.length c) m.length (BL m) (by rfl) (HOW.out.alloc (.cells #[.int .u8 0] 5)) (wr.alloc (.cells #[.int .u8 0] 5)).heap.size (some ⟨wr.heap.size, 0, none⟩) 1 1 [.int .u8 0] (by rfl) (slBlk (n := 1) (c := 1) (heap_alloc_new wr _) rfl (by unfold maxLen; omega)) (BL_one [0]) (by unfold maxLen; omega) (by omega) (by simp; omega) ?_; intro A8 c8 w8 ho8 hg8d ha8
             have hg8 : (wr.alloc (.cells #[.int .u8 0] 5)).grownBy w8 (Value.slice A m.length c).ownBlock := by first | exact hg8d | exact ⟨hg8d.os, hg8d.tape, hg8d.output, hg8d.size, hg8d.block⟩
             obtain ⟨hb8, hw8, hbe8⟩ := HNX.out A8 c8 w8 _ ho8 hg8
             obtain ⟨e0, e1, p0, p1, el⟩ := cells2 hb8
             have HW8 := Lib.hid hw8
             have HBE8 := Lib.hid hbe8
             clear ho8 hg8 hg8d ha8 hb8 hw8 hbe8))
        all_goals
          go_wp2_with fail
          go_roundg (4 - (0 + 1))
          case measure => have := HIL.out; omega
          case rel =>
            refine ⟨0 + 1, by have := HIL.out; omega, by go_num, ?_, ?_, ?_⟩
            · rw [HM2.out]
              first | exact HW8.out | exact HW8.out.drew
            · exact HBL.out.trans (by first | exact HBE8.out | exact HBE8.out.drew)
            · have h1 := HBE8.out.2.2.2.1
              exact Nat.le_trans hbr h1
      · obtain rfl : v = 0 := hv
        have s0 : Op.shift .shr .u64 0 .i64 (IntKind.i64.wrap 0) = pure (.int .u64 0) := by rfl
        have s1 : Op.shift .shr .u64 0 .i64 (IntKind.i64.wrap 8) = pure (.int .u64 0) := by rfl
        have s2 : Op.shift .shr .u64 0 .i64 (IntKind.i64.wrap 16) = pure (.int .u64 0) := by rfl
        have s3 : Op.shift .shr .u64 0 .i64 (IntKind.i64.wrap 24) = pure (.int .u64 0) := by rfl
        go_upto_region 5 with fail
        go_region_law (first
          | (refine step_append_sl _ (by rfl) _ _ _ (by rfl) base 5 i1 _ 1 1 Tryz.underlying34 hi1 hz11 hz12 hz13 rfl (by decide) (.slice A m.length c) m.length (BL m) (by rfl) (HOW.out.alloc (.cells #[.int .u8 0] 5)) (wr.alloc (.cells #[.int .u8 0] 5)).heap.size (some ⟨wr.heap.size, 0, none⟩) 1 1 [.int .u8 0] (by rfl) (slBlk (n := 1) (c := 1) (heap_alloc_new wr _) rfl (by unfold maxLen; omega)) (BL_one [0]) (by unfold maxLen; omega) (by omega) (by simp; omega) ?_; intro A8 c8 w8 ho8 hg8d ha8
             have hg8 : (wr.alloc (.cells #[.int .u8 0] 5)).grownBy w8 (Value.slice A m.length c).ownBlock := by first | exact hg8d | exact ⟨hg8d.os, hg8d.tape, hg8d.output, hg8d.size, hg8d.block⟩
             obtain ⟨hb8, hw8, hbe8⟩ := HNX.out A8 c8 w8 _ ho8 hg8
             obtain ⟨e0, e1, p0, p1, el⟩ := cells2 hb8
             have HW8 := Lib.hid hw8
             have HBE8 := Lib.hid hbe8
             clear ho8 hg8 hg8d ha8 hb8 hw8 hbe8))
        all_goals
          go_wp2_with fail
          go_roundg (4 - (1 + 1))
          case measure => have := HIL.out; omega
          case rel =>
            refine ⟨1 + 1, by have := HIL.out; omega, by go_num, ?_, ?_, ?_⟩
            · rw [HM2.out]
              first | exact HW8.out | exact HW8.out.drew
            · exact HBL.out.trans (by first | exact HBE8.out | exact HBE8.out.drew)
            · have h1 := HBE8.out.2.2.2.1
              exact Nat.le_trans hbr h1
      · obtain rfl : v = 0 := hv
        have s0 : Op.shift .shr .u64 0 .i64 (IntKind.i64.wrap 0) = pure (.int .u64 0) := by rfl
        have s1 : Op.shift .shr .u64 0 .i64 (IntKind.i64.wrap 8) = pure (.int .u64 0) := by rfl
        have s2 : Op.shift .shr .u64 0 .i64 (IntKind.i64.wrap 16) = pure (.int .u64 0) := by rfl
        have s3 : Op.shift .shr .u64 0 .i64 (IntKind.i64.wrap 24) = pure (.int .u64 0) := by rfl
        go_upto_region 5 with fail
        go_region_law (first
          | (refine step_append_sl _ (by rfl) _ _ _ (by rfl) base 5 i1 _ 1 1 Tryz.underlying34 hi1 hz11 hz12 hz13 rfl (by decide) (.slice A m.length c) m.length (BL m) (by rfl) (HOW.out.alloc (.cells #[.int .u8 0] 5)) (wr.alloc (.cells #[.int .u8 0] 5)).heap.size (some ⟨wr.heap.size, 0, none⟩) 1 1 [.int .u8 0] (by rfl) (slBlk (n := 1) (c := 1) (heap_alloc_new wr _) rfl (by unfold maxLen; omega)) (BL_one [0]) (by unfold maxLen; omega) (by omega) (by simp; omega) ?_; intro A8 c8 w8 ho8 hg8d ha8
             have hg8 : (wr.alloc (.cells #[.int .u8 0] 5)).grownBy w8 (Value.slice A m.length c).ownBlock := by first | exact hg8d | exact ⟨hg8d.os, hg8d.tape, hg8d.output, hg8d.size, hg8d.block⟩
             obtain ⟨hb8, hw8, hbe8⟩ := HNX.out A8 c8 w8 _ ho8 hg8
             obtain ⟨e0, e1, p0, p1, el⟩ := cells2 hb8
             have HW8 := Lib.hid hw8
             have HBE8 := Lib.hid hbe8
             clear ho8 hg8 hg8d ha8 hb8 hw8 hbe8))
        all_goals
          go_wp2_with fail
          go_roundg (4 - (2 + 1))
          case measure => have := HIL.out; omega
          case rel =>
            refine ⟨2 + 1, by have := HIL.out; omega, by go_num, ?_, ?_, ?_⟩
            · rw [HM2.out]
              first | exact HW8.out | exact HW8.out.drew
            · exact HBL.out.trans (by first | exact HBE8.out | exact HBE8.out.drew)
            · have h1 := HBE8.out.2.2.2.1
              exact Nat.le_trans hbr h1
      · obtain rfl : v = 0 := hv
        have s0 : Op.shift .shr .u64 0 .i64 (IntKind.i64.wrap 0) = pure (.int .u64 0) := by rfl
        have s1 : Op.shift .shr .u64 0 .i64 (IntKind.i64.wrap 8) = pure (.int .u64 0) := by rfl
        have s2 : Op.shift .shr .u64 0 .i64 (IntKind.i64.wrap 16) = pure (.int .u64 0) := by rfl
        have s3 : Op.shift .shr .u64 0 .i64 (IntKind.i64.wrap 24) = pure (.int .u64 0) := by rfl
        go_upto_region 5 with fail
        go_region_law (first
          | (refine step_append_sl _ (by rfl) _ _ _ (by rfl) base 5 i1 _ 1 1 Tryz.underlying34 hi1 hz11 hz12 hz13 rfl (by decide) (.slice A m.length c) m.length (BL m) (by rfl) (HOW.out.alloc (.cells #[.int .u8 0] 5)) (wr.alloc (.cells #[.int .u8 0] 5)).heap.size (some ⟨wr.heap.size, 0, none⟩) 1 1 [.int .u8 0] (by rfl) (slBlk (n := 1) (c := 1) (heap_alloc_new wr _) rfl (by unfold maxLen; omega)) (BL_one [0]) (by unfold maxLen; omega) (by omega) (by simp; omega) ?_; intro A8 c8 w8 ho8 hg8d ha8
             have hg8 : (wr.alloc (.cells #[.int .u8 0] 5)).grownBy w8 (Value.slice A m.length c).ownBlock := by first | exact hg8d | exact ⟨hg8d.os, hg8d.tape, hg8d.output, hg8d.size, hg8d.block⟩
             obtain ⟨hb8, hw8, hbe8⟩ := HNX.out A8 c8 w8 _ ho8 hg8
             obtain ⟨e0, e1, p0, p1, el⟩ := cells2 hb8
             have HW8 := Lib.hid hw8
             have HBE8 := Lib.hid hbe8
             clear ho8 hg8 hg8d ha8 hb8 hw8 hbe8))
        all_goals
          go_wp2_with fail
          go_roundg (4 - (3 + 1))
          case measure => have := HIL.out; omega
          case rel =>
            refine ⟨3 + 1, by have := HIL.out; omega, by go_num, ?_, ?_, ?_⟩
            · rw [HM2.out]
              first | exact HW8.out | exact HW8.out.drew
            · exact HBL.out.trans (by first | exact HBE8.out | exact HBE8.out.drew)
            · have h1 := HBE8.out.2.2.2.1
              exact Nat.le_trans hbr h1
    · obtain rfl : i = 4 := by omega
      have HI := Lib.hid hI
      clear hI
      go_wp2_with fail
      exact bodyPost_ret (v := .tuple #[]) (by simp [results, go_sem]) rfl ⟨rfl, by rw [← HM.out]; exact HI.out, HBL.out⟩
end Go.Proofs.YtbacakdpfiiblaaGreat.geo

namespace Go.Proofs.YtbacakdpfiiblaaGreat.geo
open Go.ChangeShapes Go.WideShapes Go.ChangeAt Go.RowKit
open Go.Proofs.YtbacakdpfiiblaaGreat.mem
set_option linter.unusedVariables false
set_option linter.unusedSimpArgs false

/-- The bytes of the empty collection. -/
def emB : List Nat := [1, 7, 0, 0, 0, 0, 0, 0, 0]
theorem own_lower {w : World} {b b' : Nat} {e : TypeId} {size : Nat} {v : Value} {n : Nat} {xs : List Value} (h : w.ownsRow b e size v n xs) (hb : b' ≤ b) : w.ownsRow b' e size v n xs :=
  ⟨h.1, h.2.imp id (fun ⟨g, cap, cur, hv, hg, r⟩ => ⟨g, cap, cur, hv, Nat.le_trans hb hg, r⟩)⟩
theorem code0_calls (w : World) : Calls Tryz.prog 152 #[.int .i64 0] w (fun e w' => e = .returned (.int .i64 7) ∧ w' = w) := by
  go_enter Tryz.func152, Tryz.ntmps152
  go_wp2_with fail
  exact bodyPost_ret (v := .int .i64 7) (by simp [results, go_sem]) rfl ⟨rfl, rfl⟩
set_option maxHeartbeats 8000000 in
set_option maxRecDepth 100000 in
theorem wgeom_calls {w : World} {B : Nat} (h : Blk w B 154 #[.slice none 0 0, .slice none 0 0]) :
    Calls Tryz.prog 105 #[.pointer (some ⟨B, 0, none⟩), .agg #[.int .i64 0, .int .i64 0, .slice none 0 0, .slice none 0 0]] w (WBPost w B w.heap.size emB) := by
  obtain ⟨i1, hi1, hz11, hz12, hz13⟩ := info_parts infoB
  obtain ⟨w1, hw1⟩ : ∃ w1, w1 = w.alloc (.cells #[.int .i64 0, .int .i64 0, .slice none 0 0, .slice none 0 0] 25) := ⟨_, rfl⟩
  have hb1 : Below w.heap.size w w1 := by rw [hw1]; exact (Below.refl _ _).alloc (Nat.le_refl _) _
  have hs1 : w1.heap.size = w.heap.size + 1 := by rw [hw1]; simp
  have hX : Blk w1 w.heap.size 25 #[.int .i64 0, .int .i64 0, .slice none 0 0, .slice none 0 0] := by rw [hw1]; exact Blk.new _ _ _
  have hBk := h.below hb1 h.lt
  have hBlt := h.lt
  have HNX := Lib.hid (fun A8 c8 w8 ob => WBI.next (B := B) (base := w.heap.size + 1) (m := []) (A := none) (c := 0) (A8 := A8) (c8 := c8) (w8 := w8) (ob := ob) (v := 1) (by omega) (by omega) hBk (World.ownsRow_nil _ _ _ _))
  obtain ⟨c0, c1, y0, y1, cl⟩ := cells2 hBk
  obtain ⟨x0, x1, x2, x3, -, -, -, -, xl⟩ := cells4 hX
  have HX := Lib.hid hX
  have HB1 := Lib.hid hb1
  have HW1 := Lib.hid hw1
  have HS1 := Lib.hid hs1
  clear hw1 hb1 hX hBk h hs1
  go_enter Tryz.func105, Tryz.ntmps105
  go_upto_region 1 with fail
  rw [← HW1.out]
  go_wp2_with (at_builtin; refine wpList_append_sl _ rfl (.tmp 33) (.tmp 35) 34 rfl (w.heap.size + 1) 5 i1 _ 1 1 Tryz.underlying34 hi1 hz11 hz12 hz13 rfl (by decide) (.slice none 0 0) 0 [] rfl (World.ownsRow_nil _ _ _ _) (w1.alloc (.cells #[.int .u8 1] 5)).heap.size (some ⟨w1.heap.size, 0, none⟩) 1 1 [.int .u8 1] rfl (slBlk (n := 1) (c := 1) (heap_alloc_new w1 _) rfl (by unfold maxLen; omega)) (BL_one [1]) (by unfold maxLen; omega) (by omega) (by simp [HS1.out]) ?_; intro A8 c8 w8 ho8 hg8 ha8
               obtain ⟨hb8, hw8, hbe8⟩ := HNX.out A8 c8 w8 _ ho8 hg8
               obtain ⟨e0, e1, p0, p1, el⟩ := cells2 hb8
               have HW8 := Lib.hid hw8
               have HBE8 := Lib.hid hbe8
               clear ho8 hg8 ha8 hb8 hw8 hbe8 c0 c1 y0 y1 cl)
  obtain ⟨w2, hw2⟩ : ∃ w2, w2 = w8.setCell ⟨B, 0, none⟩ (.slice A8 1 c8) := ⟨_, rfl⟩
  have HI2 := Lib.hid (show WBI B (w.heap.size + 1) [1] w2 by rw [hw2]; exact HW8.out)
  have hf2 : WBF B (w.heap.size + 1) w1 w2 := by rw [hw2]; exact HBE8.out
  have HF2 := Lib.hid hf2
  have hs2 : w.heap.size + 1 ≤ w2.heap.size := by rw [← HS1.out]; exact hf2.2.2.2.1
  have HX2 := Lib.hid (hf2.blk HX.out (Nat.lt_succ_self _) (by omega))
  rw [← hw2]
  clear hw2 hf2 e0 e1 p0 p1 el HW8 HBE8 x0 x1 x2 x3 xl
  obtain ⟨x0, x1, x2, x3, -, -, -, -, xl⟩ := cells4 HX2.out
  have x0d : w2.drew.cell? ⟨w.heap.size, 0, none⟩ = some (.int .i64 0) := x0
  have x1d : w2.drew.cell? ⟨w.heap.size, 1, none⟩ = some (.int .i64 0) := x1
  have HC0 := Lib.hid code0_calls
  have HU := Lib.hid (show ∀ w', WBI B (w.heap.size + 1) [1] w' → w.heap.size + 1 ≤ w'.heap.size → Calls Tryz.prog 151 #[.pointer (some ⟨B, 0, none⟩), .int .u64 7, .int .i64 4, .bool false] w' (WBPost w' B (w.heap.size + 1) [1, 7, 0, 0, 0]) from fun w' h1 h2 => wuint_calls (x := 7) (l := [1]) (.inl rfl) (by simp) (by omega) h2 h1)
  have HU2 := Lib.hid (show ∀ w', WBI B (w.heap.size + 1) [1, 7, 0, 0, 0] w' → w.heap.size + 1 ≤ w'.heap.size → Calls Tryz.prog 151 #[.pointer (some ⟨B, 0, none⟩), .int .u64 0, .int .i64 4, .bool false] w' (WBPost w' B (w.heap.size + 1) emB) from fun w' h1 h2 => wuint_calls (x := 0) (l := [1, 7, 0, 0, 0]) (.inr rfl) (by simp) (by omega) h2 h1)
  have u0 : IntKind.i64.wrap 0 = 0 := rfl
  have u7 : IntKind.i64.wrap 7 = 7 := rfl
  have v7 : IntKind.u64.wrap 7 = 7 := rfl
  have v0 : IntKind.u64.wrap 0 = 0 := rfl
  go_region_law (first
    | (go_simp; go_at_call 152; refine (HC0.out _).mono ?_
       rintro e5 w5 ⟨rfl, hw5⟩
       obtain rfl := hw5.symm
       clear hw5)
    | (go_simp; go_at_call 151; (first | refine (HU.out w2.drew HI2.out.drew hs2).mono ?_ | refine (HU.out w2 HI2.out hs2).mono ?_)
       rintro e6 w6 ⟨rfl, hI6, hF6⟩
       have HI6 := Lib.hid hI6
       have HF6 := Lib.hid (HF2.out.trans (by first | exact hF6 | exact (WBF.drew (WBF.refl B _ w2)).trans hF6))
       clear hI6 hF6))
  all_goals
    have hs6 : w.heap.size + 1 ≤ w6.heap.size := Nat.le_trans (Nat.le_of_eq HS1.out.symm) HF6.out.2.2.2.1
    obtain ⟨x0, x1, x2, x3, -, -, -, -, xl⟩ := cells4 (HF6.out.blk HX.out (Nat.lt_succ_self _) (by omega))
    go_wp2_with fail
    refine (HU2.out _ HI6.out hs6).mono ?_
    rintro e7 w7 ⟨rfl, hI7, hF7⟩
    have HI7 := Lib.hid hI7
    have HF7 := Lib.hid (HF6.out.trans hF7)
    clear hI7 hF7
    obtain ⟨x0, x1, x2, x3, -, -, -, -, xl⟩ := cells4 (HF7.out.blk HX.out (Nat.lt_succ_self _) (by omega))
    go_wp2_with fail
    go_loopg [60] 0 (fun q ci wr => ci = .int .i64 0 ∧ wr = w7)
    case atStart => exact ⟨by go_num, rfl⟩
    case round =>
      obtain ⟨rfl, rfl⟩ := hrel
      go_wp2_with fail
      refine bodyPost_ret (v := .tuple #[]) (by simp [results, go_sem]) rfl ⟨rfl, ?_, ?_⟩
      · obtain ⟨A9, c9, h1, h2⟩ := HI7.out
        exact ⟨A9, c9, h1, own_lower h2 (by omega)⟩
      · have h1 := HF7.out
        have hb := HB1.out
        exact ⟨h1.1.trans hb.os, h1.2.1.trans hb.tape, h1.2.2.1.trans hb.output, Nat.le_trans hb.size h1.2.2.2.1, fun j hj hn => (h1.2.2.2.2 j (by omega) hn).trans (hb.block j hj)⟩
/-- The bytes of the empty collection were written. -/
def WKPost (w : World) (e : Ending) (w' : World) : Prop := ∃ A c, e = .returned (.slice A emB.length c) ∧ emB.length ≤ c ∧ SlS (fun a => w.heap.size ≤ a) w' A emB.length 1 (BL emB) ∧ Below w.heap.size w w'
set_option maxHeartbeats 4000000 in
theorem wAs_calls (w : World) : Calls Tryz.prog 50 #[.agg #[.int .i64 0, .int .i64 0, .slice none 0 0, .slice none 0 0], .slice none 0 0] w (WKPost w) := by
  obtain ⟨w1, hw1⟩ : ∃ w1, w1 = w.alloc (.cells #[.int .i64 0, .int .i64 0, .slice none 0 0, .slice none 0 0] 25) := ⟨_, rfl⟩
  have hs1 : w1.heap.size = w.heap.size + 1 := by rw [hw1]; simp
  have hX : Blk w1 w.heap.size 25 #[.int .i64 0, .int .i64 0, .slice none 0 0, .slice none 0 0] := by rw [hw1]; exact Blk.new _ _ _
  obtain ⟨w2, hw2⟩ : ∃ w2, w2 = w1.alloc (.cells #[.slice none 0 0, .slice none 0 0] 154) := ⟨_, rfl⟩
  have hs2 : w2.heap.size = w.heap.size + 2 := by rw [hw2]; simp [hs1]
  have hB : Blk w2 (w.heap.size + 1) 154 #[.slice none 0 0, .slice none 0 0] := by rw [hw2, ← hs1]; exact Blk.new _ _ _
  have hX2 : Blk w2 w.heap.size 25 #[.int .i64 0, .int .i64 0, .slice none 0 0, .slice none 0 0] := by rw [hw2]; exact hX.alloc _
  have hb2 : Below w.heap.size w w2 := by rw [hw2, hw1]; exact ((Below.refl _ _).alloc (Nat.le_refl _) _).alloc (by simp) _
  have HG := Lib.hid (wgeom_calls hB)
  obtain ⟨x0, x1, x2, x3, -, -, -, -, xl⟩ := cells4 hX2
  have HW1 := Lib.hid hw1
  have HW2 := Lib.hid hw2
  have HB2 := Lib.hid hb2
  have HS2 := Lib.hid hs2
  clear hw1 hX hw2 hB hX2 hb2 hs2
  go_enter Tryz.func50, Tryz.ntmps50
  go_upto_region 1 with fail
  rw [← HW1.out]
  go_upto_region 2 with fail
  rw [← HW2.out]
  go_wp2_with fail
  refine HG.out.mono ?_
  rintro e w3 ⟨rfl, ⟨A, c, hB3, hown⟩, hF⟩
  obtain ⟨c0, c1, -, -, cl⟩ := cells2 hB3
  have HOWN := Lib.hid hown
  have HF := Lib.hid hF
  clear hB3 hown hF x0 x1 x2 x3
  go_wp2_with fail
  refine bodyPost_ret (v := .slice A emB.length c) (by simp [results, go_sem]) rfl ⟨A, c, rfl, own_capR HOWN.out, ?_, ?_⟩
  · exact SlS.less (own_sls HOWN.out) (fun a ha => by have h1 : w2.heap.size ≤ a := ha; have h2 := HS2.out; show w.heap.size ≤ a; omega)
  · have h1 := HF.out
    have hb := HB2.out
    exact ⟨h1.1.trans hb.os, h1.2.1.trans hb.tape, h1.2.2.1.trans hb.output, Nat.le_trans hb.size h1.2.2.2.1, fun j hj => (h1.2.2.2.2 j (by have := HS2.out; omega) (by omega)).trans (hb.block j hj)⟩
set_option maxHeartbeats 4000000 in
theorem wkb_calls (w : World) : Calls Tryz.prog 20 #[.agg #[.int .i64 0, .int .i64 0, .slice none 0 0, .slice none 0 0]] w (WKPost w) := by
  obtain ⟨w1, hw1⟩ : ∃ w1, w1 = w.alloc (.cells #[.int .i64 0, .int .i64 0, .slice none 0 0, .slice none 0 0] 25) := ⟨_, rfl⟩
  have hb1 : Below w.heap.size w w1 := by rw [hw1]; exact (Below.refl _ _).alloc (Nat.le_refl _) _
  have hX : Blk w1 w.heap.size 25 #[.int .i64 0, .int .i64 0, .slice none 0 0, .slice none 0 0] := by rw [hw1]; exact Blk.new _ _ _
  obtain ⟨x0, x1, x2, x3, -, -, -, -, xl⟩ := cells4 hX
  have HB1 := Lib.hid hb1
  have HW1 := Lib.hid hw1
  clear hw1 hb1 hX
  go_enter Tryz.func20, Tryz.ntmps20
  go_upto_region 1 with fail
  rw [← HW1.out]
  go_wp2_with fail
  refine (wAs_calls w1).mono ?_
  rintro e w3 ⟨A, c, rfl, hc, hs, hb⟩
  have HC := Lib.hid hc
  have HSS := Lib.hid hs
  have HB := Lib.hid hb
  clear hc hs hb
  go_wp2_with fail
  exact bodyPost_ret (v := .slice A emB.length c) (by simp [results, go_sem]) rfl ⟨A, c, rfl, HC.out, SlS.less HSS.out (fun a ha => Nat.le_trans HB1.out.size ha), HB1.out.trans (HB.out.mono HB1.out.size)⟩
end Go.Proofs.YtbacakdpfiiblaaGreat.geo
