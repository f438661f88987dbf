/-
  Contracts of the package's reader: a byte, a number, a double.
-/
import Derived.Test.YtbacakdpfiiblaaGreatRdC
import Derived.Test.YtbacakdpfiiblaaGreatRdB
import Derived.Lib.QuietBelow
import Derived.Deep.DeepCutAuto
namespace Go.Proofs.YtbacakdpfiiblaaGreat.geo
open Go.ChangeShapes Go.WideShapes Go.ChangeAt Go.RowKit
open Go.Proofs.YtbacakdpfiiblaaGreat.mem
set_option linter.unusedVariables false
set_option linter.unusedSimpArgs false

/-- The package's reader: block P; the order of bytes; the bytes that are left. -/
def WPs (S : Nat → Prop) (w : World) (P : Nat) (big : Bool) (l : List Nat) : Prop :=
  (∀ a, S a → a < P) ∧ ∃ A n c, Blk w P 148 #[.slice A n c, .int .u8 (if big then 0 else 1), .bool (!big)] ∧ l.length = n ∧ n ≤ c ∧ n ≤ 2000 ∧ Byt l ∧ SlS S w A n 1 (BL l)
section
variable {S : Nat → Prop} {w w' : World} {P : Nat} {big : Bool} {l : List Nat}
theorem WPs.lt (h : WPs S w P big l) : P < w.heap.size := by obtain ⟨_, _, _, _, h, _⟩ := h; exact h.lt
theorem WPs.below (h : WPs S w P big l) (hb : Below w.heap.size w w') : WPs S w' P big l := by
  obtain ⟨h0, A, n, c, h1, h2, h3, h4, h5, h6⟩ := h
  exact ⟨h0, A, n, c, h1.below hb h1.lt, h2, h3, h4, h5, h6.keep (.of_below hb)⟩
theorem WPs.grown {row : Option Nat} (h : WPs S w P big l) (hb : w.grownBy w' row) (hq : ∀ q, row = some q → P < q) : WPs S w' P big l := by
  obtain ⟨h0, A, n, c, h1, h2, h3, h4, h5, h6⟩ := h
  exact ⟨h0, A, n, c, h1.grown hb (fun e => Nat.lt_irrefl _ (hq _ e.symm)), h2, h3, h4, h5, h6.keep (.grown hb (fun r hr hs => by have := hq r hr; have := h0 r hs; omega))⟩
theorem WPs.byt (h : WPs S w P big l) : Byt l ∧ l.length ≤ 2000 := by
  obtain ⟨_, A, n, c, _, h2, _, h4, h5, _⟩ := h
  exact ⟨h5, by omega⟩
theorem WPs.far (h : WPs S w P big l) {g i : Nat} (hg : P < g) (u : Value) : WPs S (w.setCell ⟨g, i, none⟩ u) P big l := by
  obtain ⟨h0, A, n, c, h1, h2, h3, h4, h5, h6⟩ := h
  exact ⟨h0, A, n, c, h1.far (p := ⟨g, i, none⟩) (show P ≠ g by omega) u, h2, h3, h4, h5, h6.keep (Keeps.set (p := ⟨g, i, none⟩) (fun h => by have h' : g < P := h0 g h; omega) _)⟩
end
/-- The reader after m bytes. -/
theorem WPs.step {S : Nat → Prop} {w : World} {P : Nat} {big : Bool} {l : List Nat} {A A2 : Option Addr} {n c m : Nat} (h0 : ∀ a, S a → a < P) (h1 : Blk w P 148 #[.slice A n c, .int .u8 (if big then 0 else 1), .bool (!big)]) (h2 : l.length = n) (h3 : n ≤ c) (h4 : n ≤ 2000) (h5 : Byt l) (hm : m ≤ n) (h6 : SlS S w A2 (n - m) 1 ((BL l).drop m)) :
    WPs S (w.setCell ⟨P, 0, none⟩ (.slice A2 (n - m) (c - m))) P big (l.drop m) := by
  refine ⟨h0, A2, n - m, c - m, ?_, by rw [List.length_drop, h2], by omega, by omega, h5.drop m, ?_⟩
  · have := h1.set_ 0 (.slice A2 (n - m) (c - m))
    simpa using this
  · rw [BL_drop]
    exact h6.keep (Keeps.set (p := ⟨P, 0, none⟩) (fun h => Nat.lt_irrefl _ (h0 P h)) _)
theorem info_byte : ∃ i : TypeInfo, Tryz.prog.info? 5 = some i ∧ i.size = 1 := by
  have h0 : (Tryz.prog.info? 5).map (·.size) = some 1 := by kernel_rfl
  cases hh : Tryz.prog.info? 5 with
  | none => rw [hh] at h0; cases h0
  | some i => rw [hh] at h0; exact ⟨i, rfl, Option.some.inj h0⟩
theorem cells3 {w : World} {g : Nat} {t : TypeId} {a b c : Value} (h : Blk w g t #[a, b, c]) :
    w.cell? ⟨g, 0, none⟩ = some a ∧ w.cell? ⟨g, 1, none⟩ = some b ∧ w.cell? ⟨g, 2, none⟩ = some c ∧
    w.frozen? ⟨g, 0, none⟩ = false ∧ w.frozen? ⟨g, 1, none⟩ = false ∧ w.frozen? ⟨g, 2, none⟩ = false ∧ g < w.heap.size :=
  ⟨h.cell 0, h.cell 1, h.cell 2, h.frozen 0 (show 0 < 3 by omega), h.frozen 1 (show 1 < 3 by omega), h.frozen 2 (show 2 < 3 by omega), h.lt⟩
/-- A reader, whatever it holds. -/
def Bod (w : World) (P : Nat) : Prop := ∃ A n c u v, Blk w P 148 #[.slice A n c, u, v]
section
variable {S : Nat → Prop} {w w' : World} {P : Nat} {big : Bool} {l : List Nat}
theorem WPs.bod (h : WPs S w P big l) : Bod w P := by
  obtain ⟨_, A, n, c, h1, _⟩ := h
  exact ⟨A, n, c, _, _, h1⟩
theorem Bod.below (h : Bod w P) (hb : Below w.heap.size w w') : Bod w' P := by
  obtain ⟨A, n, c, u, v, h1⟩ := h
  exact ⟨A, n, c, u, v, h1.below hb h1.lt⟩
theorem Bod.far (h : Bod w P) {g i : Nat} (hg : P < g) (x : Value) : Bod (w.setCell ⟨g, i, none⟩ x) P := by
  obtain ⟨A, n, c, u, v, h1⟩ := h
  exact ⟨A, n, c, u, v, h1.far (p := ⟨g, i, none⟩) (show P ≠ g by omega) x⟩
theorem Bod.set1 (h : Bod w P) (x : Value) : Bod (w.setCell ⟨P, 1, none⟩ x) P := by
  obtain ⟨A, n, c, u, v, h1⟩ := h
  refine ⟨A, n, c, x, v, ?_⟩
  have := h1.set_ 1 x
  simpa using this
end
/-- What reads a value of some bytes: an error, or the value. -/
def WUPost (S : Nat → Prop) (w : World) (P : Nat) (big : Bool) (V : Nat → Value) (o : Option (Nat × List Nat)) (e : Ending) (w' : World) : Prop :=
  w.grownBy w' (some P) ∧ match o with
    | none => Bod w' P ∧ ∃ T x, e = .returned (.tuple #[V 0, .iface T x])
    | some (y, r) => e = .returned (.tuple #[V y, .nilIface]) ∧ WPs S w' P big r
set_option maxHeartbeats 4000000 in
set_option maxRecDepth 100000 in
theorem readByte_calls {S : Nat → Prop} {w : World} {P : Nat} {big : Bool} {l : List Nat} (h : WPs S w P big l) :
    Calls Tryz.prog 162 #[.pointer (some ⟨P, 0, none⟩)] w (WUPost S w P big (fun y => .int .u8 (y : Nat)) (rdU 1 false l)) := by
  obtain ⟨h0, A, n, c, hB, hlen, hc, h2000, hbyt, hA⟩ := h
  obtain ⟨c0, c1, c2, f0, f1, f2, hlt⟩ := cells3 hB
  have HB := Lib.hid hB
  have HA := Lib.hid hA
  have HBY := Lib.hid hbyt
  clear hB hA hbyt
  by_cases hs : n < 1
  · obtain rfl : n = 0 := by omega
    have hnone : rdU 1 false l = none := by unfold rdU; rw [if_pos (by omega)]
    rw [hnone]
    go_enter Tryz.func162, Tryz.ntmps162
    go_wp2_with fail
    refine bodyPost_ret (v := .tuple #[.int .u8 0, .iface 207 ?_]) (by simp [results, go_sem]; rfl) rfl ⟨World.grownBy.refl w _, ⟨_, _, _, _, _, HB.out⟩, _, _, rfl⟩
  · have hn0 : ((n : Int) == 0) = false := beq_eq_false_iff_ne.2 (by omega)
    obtain ⟨i1, hi1, hz1⟩ := info_byte
    obtain ⟨A2, hA2e⟩ : ∃ A2, A2 = if c = 1 then A else A.map (·.add (1 * 1)) := ⟨_, rfl⟩
    have hsl : ∀ w, (Instr.slice 34 (.slice A n c) (some (.int .i64 1)) none none).run Tryz.prog w = .ok (.slice A2 (n - 1) (c - 1)) w := fun w => by
      rw [hA2e]
      exact run_from (P := Tryz.prog) Tryz.underlying34 hi1 hz1 A n c 1 (by omega) hc w
    have hA2 := HA.out.from1 (show 1 ≤ n by omega) hc
    rw [← hA2e] at hA2
    have HA2 := Lib.hid hA2
    clear hA2 hA2e
    obtain ⟨bb, off, rfl, hbb, hcell⟩ := HA.out.1.2.2 (by omega)
    have hcc := hcell 0 _ (BL_get (by omega))
    rw [Nat.add_zero] at hcc
    have hn1 : (0 : Int) < (n : Int) := by omega
    have hsome : rdU 1 false l = some (l.getD 0 0, l.drop 1) := by
      unfold rdU
      rw [if_neg (by omega)]
      match l, hlen with
      | b :: l, _ => simp [bV, leV]
      | [], h => simp at h; omega
    rw [hsome]
    obtain ⟨b0, hb0⟩ : ∃ b0, b0 = l.getD 0 0 := ⟨_, rfl⟩
    rw [← hb0] at hcc ⊢
    have hstep := WPs.step (w := w) (m := 1) h0 HB.out hlen hc h2000 HBY.out (by omega) HA2.out
    obtain ⟨r, hr⟩ : ∃ r, r = l.drop 1 := ⟨_, rfl⟩
    rw [← hr] at hstep ⊢
    have HST := Lib.hid hstep
    clear hb0 hsome hcell hr hstep
    go_enter Tryz.func162, Tryz.ntmps162
    go_wp2_with fail
    exact bodyPost_ret (v := .tuple #[.int .u8 b0, .nilIface]) (by simp [results, go_sem]) rfl ⟨grown_set w ⟨P, 0, none⟩ _, rfl, HST.out⟩
theorem rdU_lt1 {n : Nat} {big : Bool} {bs r : List Nat} {x : Nat} (hb : Byt bs) (h : rdU n big bs = some (x, r)) : x < 256 ^ n := by
  rw [(rdU_len h).2.2]
  exact bV_take_lt hb n
/-- Bytes one by one. -/
theorem bytes_at {S : Nat → Prop} {w : World} {A : Option Addr} {n m : Nat} {l : List Nat} (hA : SlS S w A n 1 (BL l)) (hlen : l.length = n) (hm : m ≤ n) (h0 : 0 < n) :
    ∃ bb off, A = some ⟨bb, off, none⟩ ∧ bb < w.heap.size ∧ ∀ i, i < m → w.cell? ⟨bb, off + i, none⟩ = some (.int .u8 (l.getD i 0 : Nat)) := by
  obtain ⟨bb, off, rfl, hbb, hcell⟩ := hA.1.2.2 h0
  exact ⟨bb, off, rfl, hbb, fun i hi => hcell i _ (BL_get (by omega))⟩
theorem take4 {l : List Nat} (h : 4 ≤ l.length) : l.take 4 = [l.getD 0 0, l.getD 1 0, l.getD 2 0, l.getD 3 0] := by
  match l, h with
  | a :: b :: c :: d :: l, _ => rfl
theorem take8 {l : List Nat} (h : 8 ≤ l.length) : l.take 8 = [l.getD 0 0, l.getD 1 0, l.getD 2 0, l.getD 3 0, l.getD 4 0, l.getD 5 0, l.getD 6 0, l.getD 7 0] := by
  match l, h with
  | a :: b :: c :: d :: e :: f :: g :: i :: l, _ => rfl
/-- A number of four bytes, either order. -/
theorem bin32 (big : Bool) {g o n c : Nat} {l : List Nat} (hb : Byt l) (hn : 4 ≤ n) (hl : 4 ≤ l.length) (w : World) (hc : ∀ i, i < 4 → w.cell? ⟨g, o + i, none⟩ = some (.int .u8 (l.getD i 0 : Nat))) :
    Calls Tryz.prog (if big then 172 else 173) #[.agg #[], .slice (some ⟨g, o, none⟩) n c] w (Gives w (.int .u32 (bV big (l.take 4) : Nat))) := by
  have h0 := hc 0 (by omega)
  rw [Nat.add_zero] at h0
  unfold bV
  rw [take4 hl]
  cases big with
  | true => exact be32 g o n c _ _ _ _ hn (getD_lt hb 0) (getD_lt hb 1) (getD_lt hb 2) (getD_lt hb 3) w h0 (hc 1 (by omega)) (hc 2 (by omega)) (hc 3 (by omega))
  | false => exact le32 g o n c _ _ _ _ hn (getD_lt hb 0) (getD_lt hb 1) (getD_lt hb 2) (getD_lt hb 3) w h0 (hc 1 (by omega)) (hc 2 (by omega)) (hc 3 (by omega))
theorem bin64 (big : Bool) {g o n c : Nat} {l : List Nat} (hb : Byt l) (hn : 8 ≤ n) (hl : 8 ≤ l.length) (w : World) (hc : ∀ i, i < 8 → w.cell? ⟨g, o + i, none⟩ = some (.int .u8 (l.getD i 0 : Nat))) :
    Calls Tryz.prog (if big then 179 else 180) #[.agg #[], .slice (some ⟨g, o, none⟩) n c] w (Gives w (.int .u64 (bV big (l.take 8) : Nat))) := by
  have h0 := hc 0 (by omega)
  rw [Nat.add_zero] at h0
  unfold bV
  rw [take8 hl]
  cases big with
  | true => exact be64 g o n c _ _ _ _ _ _ _ _ hn (getD_lt hb 0) (getD_lt hb 1) (getD_lt hb 2) (getD_lt hb 3) (getD_lt hb 4) (getD_lt hb 5) (getD_lt hb 6) (getD_lt hb 7) w h0 (hc 1 (by omega)) (hc 2 (by omega)) (hc 3 (by omega)) (hc 4 (by omega)) (hc 5 (by omega)) (hc 6 (by omega)) (hc 7 (by omega))
  | false => exact le64 g o n c _ _ _ _ _ _ _ _ hn (getD_lt hb 0) (getD_lt hb 1) (getD_lt hb 2) (getD_lt hb 3) (getD_lt hb 4) (getD_lt hb 5) (getD_lt hb 6) (getD_lt hb 7) w h0 (hc 1 (by omega)) (hc 2 (by omega)) (hc 3 (by omega)) (hc 4 (by omega)) (hc 5 (by omega)) (hc 6 (by omega)) (hc 7 (by omega))
set_option maxHeartbeats 4000000 in
set_option maxRecDepth 100000 in
theorem parse32_calls {S : Nat → Prop} {w : World} {P : Nat} {big : Bool} {l : List Nat} (h : WPs S w P big l) :
    Calls Tryz.prog 163 #[.pointer (some ⟨P, 0, none⟩)] w (WUPost S w P big (fun y => .int .u32 (y : Nat)) (rdU 4 big l)) := by
  obtain ⟨h0, A, n, c, hB, hlen, hc, h2000, hbyt, hA⟩ := h
  obtain ⟨c0, c1, c2, f0, f1, f2, hlt⟩ := cells3 hB
  have HB := Lib.hid hB
  have HA := Lib.hid hA
  have HBY := Lib.hid hbyt
  clear hB hA hbyt
  by_cases hs : n < 4
  · have hsI : (n : Int) < 4 := by omega
    have hnone : rdU 4 big l = none := by unfold rdU; rw [if_pos (by omega)]
    rw [hnone]
    go_enter Tryz.func163, Tryz.ntmps163
    go_wp2_with fail
    refine bodyPost_ret (v := .tuple #[.int .u32 0, .iface 207 ?_]) (by simp [results, go_sem]; rfl) rfl ⟨World.grownBy.refl w _, ⟨_, _, _, _, _, HB.out⟩, _, _, rfl⟩
  · have hsI : ¬ (n : Int) < 4 := by omega
    obtain ⟨i1, hi1, hz1⟩ := info_byte
    obtain ⟨A2, hA2e⟩ : ∃ A2, A2 = if c = 4 then A else A.map (·.add (4 * 1)) := ⟨_, rfl⟩
    have hsl : ∀ w, (Instr.slice 34 (.slice A n c) (some (.int .i64 4)) none none).run Tryz.prog w = .ok (.slice A2 (n - 4) (c - 4)) w := fun w => by
      rw [hA2e]
      exact run_from (P := Tryz.prog) Tryz.underlying34 hi1 hz1 A n c 4 (by omega) hc w
    have hA2 := HA.out.from1 (show 4 ≤ n by omega) hc
    rw [← hA2e] at hA2
    have HA2 := Lib.hid hA2
    clear hA2 hA2e
    obtain ⟨bb, off, rfl, hbb, hcell⟩ := bytes_at HA.out hlen (show 4 ≤ n by omega) (by omega)
    have hsome : rdU 4 big l = some (bV big (l.take 4), l.drop 4) := by
      unfold rdU
      rw [if_neg (by omega)]
    rw [hsome]
    have HBIN := Lib.hid (fun w' (hb : Below w.heap.size w w') => bin32 big (c := c) HBY.out (show 4 ≤ n by omega) (show 4 ≤ l.length by omega) w' (fun i hi => (hb.cell (p := ⟨bb, off + i, none⟩) hbb).trans (hcell i hi)))
    obtain ⟨y, hy⟩ : ∃ y, y = bV big (l.take 4) := ⟨_, rfl⟩
    rw [← hy] at HBIN ⊢
    have hstep := fun w' (hb : Below w.heap.size w w') => WPs.step (w := w') (m := 4) h0 (HB.out.below hb HB.out.lt) hlen hc h2000 HBY.out (by omega) (HA2.out.keep (.of_below hb))
    obtain ⟨r, hr⟩ : ∃ r, r = l.drop 4 := ⟨_, rfl⟩
    rw [← hr] at hstep ⊢
    have HST := Lib.hid hstep
    have HC3 := Lib.hid (fun w' (hb : Below w.heap.size w w') => cells3 (HB.out.below hb HB.out.lt))
    clear hy hsome hcell hr hstep
    cases big with
    | true =>
      have c1' : w.cell? ⟨P, 1, none⟩ = some (.int .u8 0) := c1
      clear c1
      go_enter Tryz.func163, Tryz.ntmps163
      go_upto_region 5 with fail
      have q0 := cell_regrown c0
      have HQ := Lib.hid (fun d os => Calls.regrown_of (HBIN.out (Go.Sort.grow (redrawn w d) os) (below_regrown w d os)))
      clear HBIN
      refine wp_region_quiet_below (by kernel_rfl) (by kernel_rfl) ?_
      iterate 5 (go_big_quiet_step (fail))
      go_big_quiet_step (exact HQ.out _ _)
      go_big_quiet_step (fail)
      refine wpQuiet_nil ?_
      intro _ hw'
      obtain ⟨⟨dq, osq⟩, hw''⟩ := hw'
      subst hw''
      have hbq := below_regrown w dq osq
      obtain ⟨w2, hw2⟩ : ∃ w2, w2 = Go.Sort.grow (redrawn w dq) osq := ⟨_, rfl⟩
      have HBQ := Lib.hid (show Below w.heap.size w w2 by rw [hw2]; exact hbq)
      try dsimp only
      try rw [← hw2]
      clear hbq hw2 q0 c0 c2 f0 f1 f2 hlt
      obtain ⟨c0, c1x, c2, f0, f1, f2, hlt⟩ := HC3.out w2 HBQ.out
      go_wp2_with fail
      have hst := HST.out w2 HBQ.out
      exact bodyPost_ret (v := .tuple #[.int .u32 y, .nilIface]) (by simp [results, go_sem]) rfl ⟨grown_trans (grown_below (row := some P) HBQ.out) (grown_set w2 ⟨P, 0, none⟩ _), rfl, hst⟩
    | false =>
      have c1' : w.cell? ⟨P, 1, none⟩ = some (.int .u8 1) := c1
      clear c1
      go_enter Tryz.func163, Tryz.ntmps163
      go_upto_region 6 with fail
      have q0 := cell_regrown c0
      have HQ := Lib.hid (fun d os => Calls.regrown_of (HBIN.out (Go.Sort.grow (redrawn w d) os) (below_regrown w d os)))
      clear HBIN
      refine wp_region_quiet_below (by kernel_rfl) (by kernel_rfl) ?_
      iterate 5 (go_big_quiet_step (fail))
      go_big_quiet_step (exact HQ.out _ _)
      go_big_quiet_step (fail)
      refine wpQuiet_nil ?_
      intro _ hw'
      obtain ⟨⟨dq, osq⟩, hw''⟩ := hw'
      subst hw''
      have hbq := below_regrown w dq osq
      obtain ⟨w2, hw2⟩ : ∃ w2, w2 = Go.Sort.grow (redrawn w dq) osq := ⟨_, rfl⟩
      have HBQ := Lib.hid (show Below w.heap.size w w2 by rw [hw2]; exact hbq)
      try dsimp only
      try rw [← hw2]
      clear hbq hw2 q0 c0 c2 f0 f1 f2 hlt
      obtain ⟨c0, c1x, c2, f0, f1, f2, hlt⟩ := HC3.out w2 HBQ.out
      go_wp2_with fail
      have hst := HST.out w2 HBQ.out
      exact bodyPost_ret (v := .tuple #[.int .u32 y, .nilIface]) (by simp [results, go_sem]) rfl ⟨grown_trans (grown_below (row := some P) HBQ.out) (grown_set w2 ⟨P, 0, none⟩ _), rfl, hst⟩
set_option maxHeartbeats 4000000 in
set_option maxRecDepth 100000 in
theorem parse64_calls {S : Nat → Prop} {w : World} {P : Nat} {big : Bool} {l : List Nat} (h : WPs S w P big l) :
    Calls Tryz.prog 174 #[.pointer (some ⟨P, 0, none⟩)] w (WUPost S w P big (fun y => .float .f64 y) (rdU 8 big l)) := by
  obtain ⟨h0, A, n, c, hB, hlen, hc, h2000, hbyt, hA⟩ := h
  obtain ⟨c0, c1, c2, f0, f1, f2, hlt⟩ := cells3 hB
  have HB := Lib.hid hB
  have HA := Lib.hid hA
  have HBY := Lib.hid hbyt
  have hfb := run_frombits
  clear hB hA hbyt
  by_cases hs : n < 8
  · have hsI : (n : Int) < 8 := by omega
    have hnone : rdU 8 big l = none := by unfold rdU; rw [if_pos (by omega)]
    rw [hnone]
    go_enter Tryz.func174, Tryz.ntmps174
    go_wp2_with fail
    refine bodyPost_ret (v := .tuple #[.float .f64 0, .iface 207 ?_]) (by simp [results, go_sem]; rfl) rfl ⟨World.grownBy.refl w _, ⟨_, _, _, _, _, HB.out⟩, _, _, rfl⟩
  · have hsI : ¬ (n : Int) < 8 := by omega
    obtain ⟨i1, hi1, hz1⟩ := info_byte
    obtain ⟨A2, hA2e⟩ : ∃ A2, A2 = if c = 8 then A else A.map (·.add (8 * 1)) := ⟨_, rfl⟩
    have hsl : ∀ w, (Instr.slice 34 (.slice A n c) (some (.int .i64 8)) none none).run Tryz.prog w = .ok (.slice A2 (n - 8) (c - 8)) w := fun w => by
      rw [hA2e]
      exact run_from (P := Tryz.prog) Tryz.underlying34 hi1 hz1 A n c 8 (by omega) hc w
    have hA2 := HA.out.from1 (show 8 ≤ n by omega) hc
    rw [← hA2e] at hA2
    have HA2 := Lib.hid hA2
    clear hA2 hA2e
    obtain ⟨bb, off, rfl, hbb, hcell⟩ := bytes_at HA.out hlen (show 8 ≤ n by omega) (by omega)
    have hsome : rdU 8 big l = some (bV big (l.take 8), l.drop 8) := by
      unfold rdU
      rw [if_neg (by omega)]
    rw [hsome]
    have HBIN := Lib.hid (fun w' (hb : Below w.heap.size w w') => bin64 big (c := c) HBY.out (show 8 ≤ n by omega) (show 8 ≤ l.length by omega) w' (fun i hi => (hb.cell (p := ⟨bb, off + i, none⟩) hbb).trans (hcell i hi)))
    obtain ⟨y, hy⟩ : ∃ y, y = bV big (l.take 8) := ⟨_, rfl⟩
    rw [← hy] at HBIN ⊢
    have hstep := fun w' (hb : Below w.heap.size w w') => WPs.step (w := w') (m := 8) h0 (HB.out.below hb HB.out.lt) hlen hc h2000 HBY.out (by omega) (HA2.out.keep (.of_below hb))
    obtain ⟨r, hr⟩ : ∃ r, r = l.drop 8 := ⟨_, rfl⟩
    rw [← hr] at hstep ⊢
    have HST := Lib.hid hstep
    have HC3 := Lib.hid (fun w' (hb : Below w.heap.size w w') => cells3 (HB.out.below hb HB.out.lt))
    clear hy hsome hcell hr hstep
    cases big with
    | true =>
      have c1' : w.cell? ⟨P, 1, none⟩ = some (.int .u8 0) := c1
      clear c1
      go_enter Tryz.func174, Tryz.ntmps174
      go_upto_region 5 with fail
      have q0 := cell_regrown c0
      have HQ := Lib.hid (fun d os => Calls.regrown_of (HBIN.out (Go.Sort.grow (redrawn w d) os) (below_regrown w d os)))
      clear HBIN
      refine wp_region_quiet_below (by kernel_rfl) (by kernel_rfl) ?_
      iterate 5 (go_big_quiet_step (fail))
      go_big_quiet_step (exact HQ.out _ _)
      go_big_quiet_step (fail)
      refine wpQuiet_nil ?_
      intro _ hw'
      obtain ⟨⟨dq, osq⟩, hw''⟩ := hw'
      subst hw''
      have hbq := below_regrown w dq osq
      obtain ⟨w2, hw2⟩ : ∃ w2, w2 = Go.Sort.grow (redrawn w dq) osq := ⟨_, rfl⟩
      have HBQ := Lib.hid (show Below w.heap.size w w2 by rw [hw2]; exact hbq)
      try dsimp only
      try rw [← hw2]
      clear hbq hw2 q0 c0 c2 f0 f1 f2 hlt
      obtain ⟨c0, c1x, c2, f0, f1, f2, hlt⟩ := HC3.out w2 HBQ.out
      go_wp2_with fail
      have hst := HST.out w2 HBQ.out
      exact bodyPost_ret (v := .tuple #[.float .f64 y, .nilIface]) (by simp [results, go_sem]) rfl ⟨grown_trans (grown_below (row := some P) HBQ.out) (grown_set w2 ⟨P, 0, none⟩ _), rfl, hst⟩
    | false =>
      have c1' : w.cell? ⟨P, 1, none⟩ = some (.int .u8 1) := c1
      clear c1
      go_enter Tryz.func174, Tryz.ntmps174
      go_upto_region 6 with fail
      have q0 := cell_regrown c0
      have HQ := Lib.hid (fun d os => Calls.regrown_of (HBIN.out (Go.Sort.grow (redrawn w d) os) (below_regrown w d os)))
      clear HBIN
      refine wp_region_quiet_below (by kernel_rfl) (by kernel_rfl) ?_
      iterate 5 (go_big_quiet_step (fail))
      go_big_quiet_step (exact HQ.out _ _)
      go_big_quiet_step (fail)
      refine wpQuiet_nil ?_
      intro _ hw'
      obtain ⟨⟨dq, osq⟩, hw''⟩ := hw'
      subst hw''
      have hbq := below_regrown w dq osq
      obtain ⟨w2, hw2⟩ : ∃ w2, w2 = Go.Sort.grow (redrawn w dq) osq := ⟨_, rfl⟩
      have HBQ := Lib.hid (show Below w.heap.size w w2 by rw [hw2]; exact hbq)
      try dsimp only
      try rw [← hw2]
      clear hbq hw2 q0 c0 c2 f0 f1 f2 hlt
      obtain ⟨c0, c1x, c2, f0, f1, f2, hlt⟩ := HC3.out w2 HBQ.out
      go_wp2_with fail
      have hst := HST.out w2 HBQ.out
      exact bodyPost_ret (v := .tuple #[.float .f64 y, .nilIface]) (by simp [results, go_sem]) rfl ⟨grown_trans (grown_below (row := some P) HBQ.out) (grown_set w2 ⟨P, 0, none⟩ _), rfl, hst⟩
end Go.Proofs.YtbacakdpfiiblaaGreat.geo
