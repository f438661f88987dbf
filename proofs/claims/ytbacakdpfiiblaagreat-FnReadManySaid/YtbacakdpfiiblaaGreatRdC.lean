/-
  The reader's state in memory; contract: a number of some bytes.
-/
import Derived.Test.YtbacakdpfiiblaaGreatRdJ
import Derived.Test.YtbacakdpfiiblaaGreatGeoM
import Derived.Lib.EndianBits
namespace Go.Proofs.YtbacakdpfiiblaaGreat.geo
open Go.ChangeShapes Go.WideShapes Go.ChangeAt Go.RowKit
open Go.Proofs.YtbacakdpfiiblaaGreat.mem
set_option linter.unusedVariables false
set_option linter.unusedSimpArgs false

/-- Bytes as cells. -/
def BL (l : List Nat) : List Value := l.map (fun b => .int .u8 (b : Nat))
theorem BL_len (l : List Nat) : (BL l).length = l.length := by simp [BL]
theorem BL_get {l : List Nat} {i : Nat} (h : i < l.length) : (BL l)[i]? = some (.int .u8 (l.getD i 0 : Nat)) := by
  unfold BL
  rw [List.getElem?_map, List.getElem?_eq_getElem h, List.getD_eq_getElem?_getD, List.getElem?_eq_getElem h]
  rfl
theorem BL_drop (l : List Nat) (m : Nat) : BL (l.drop m) = (BL l).drop m := by simp [BL, List.map_drop]
theorem BL_take (l : List Nat) (m : Nat) : BL (l.take m) = (BL l).take m := by simp [BL, List.map_take]
theorem BL_one (l : List Nat) : ∀ v ∈ BL l, v.oneCell' = true := by
  intro v hv
  simp only [BL, List.mem_map] at hv
  obtain ⟨b, _, rfl⟩ := hv
  rfl
theorem getD_lt {l : List Nat} (h : Byt l) (i : Nat) : l.getD i 0 < 256 := by
  rw [List.getD_eq_getElem?_getD]
  by_cases hi : i < l.length
  · rw [List.getElem?_eq_getElem hi]; exact h _ (List.getElem_mem hi)
  · rw [List.getElem?_eq_none (by omega)]; decide
/-- xs[m:], whatever the capacity. -/
theorem run_from {P : Program} {t e : TypeId} {i : TypeInfo} {size : Nat} (ht : P.underlying t = some (.slice e)) (hi : P.info? e = some i) (hs : i.size = size) (A : Option Addr) (n c m : Nat) (h1 : m ≤ n) (hc : n ≤ c) (w : World) :
    (Instr.slice t (.slice A n c) (some (.int .i64 (m : Int))) none none).run P w = .ok (.slice (if c = m then A else A.map (·.add (m * size))) (n - m) (c - m)) w := by
  have h2 : (m : Int) ≤ (n : Int) := by omega
  have h3 : (0 : Int) ≤ (m : Int) := by omega
  simp [Instr.slice, run_underlying ht, Instr.sliceBounds, Instr.sliceBound, asIntOf, go_sem, sizeOf, typeInfo, hi, hs, h1, h2, h3]
theorem SlS.from1 {S : Nat → Prop} {w : World} {A : Option Addr} {n c m : Nat} {xs : List Value} (h : SlS S w A n 1 xs) (h1 : m ≤ n) (hc : n ≤ c) : SlS S w (if c = m then A else A.map (·.add (m * 1))) (n - m) 1 (xs.drop m) := by
  obtain ⟨⟨hl, hm, hs⟩, hS⟩ := h
  have key : 0 < n - m → (if c = m then A else A.map (·.add (m * 1))) = A.map (·.add (m * 1)) := fun h0 => if_neg (by omega)
  refine ⟨⟨by rw [List.length_drop]; omega, by omega, fun h0 => ?_⟩, fun h0 a ha => ?_⟩
  · rw [key h0]
    obtain ⟨b, off, rfl, hb, hcell⟩ := hs (by omega)
    refine ⟨b, off + m * 1, by simp [mem.add_plain], hb, fun j u hu => ?_⟩
    rw [List.getElem?_drop] at hu
    have := hcell _ _ hu
    rwa [show off + (m + j) = off + m * 1 + j by omega] at this
  · rw [key h0] at ha
    obtain ⟨b, off, rfl, hb, hcell⟩ := hs (by omega)
    have := hS (by omega) _ rfl
    simp [mem.add_plain] at ha
    subst ha
    exact this
theorem SlS.head1 {S : Nat → Prop} {w : World} {A : Option Addr} {n m : Nat} {xs : List Value} (h : SlS S w A n 1 xs) (h1 : m ≤ n) : SlS S w A m 1 (xs.take m) := by
  obtain ⟨⟨hl, hm, hs⟩, hS⟩ := h
  refine ⟨⟨by rw [List.length_take]; omega, by omega, fun h0 => ?_⟩, fun h0 a ha => hS (by omega) a ha⟩
  obtain ⟨b, off, rfl, hb, hcell⟩ := hs (by omega)
  refine ⟨b, off, rfl, hb, fun j u hu => hcell j u ?_⟩
  rw [List.getElem?_take] at hu
  split at hu
  · exact hu
  · cases hu

/-- The reader of the reference: block R; of no bytes any more that mean a thing, or of these. -/
def RS (S : Nat → Prop) (w : World) (R : Nat) (any : Bool) (st : Option (List Nat)) : Prop :=
  (∀ a, S a → a < R) ∧ ∃ A n c l gr, Blk w R 62 #[.slice A n c, .bool any, .bool st.isNone, .bool gr] ∧ l.length = n ∧ n ≤ c ∧ n ≤ 2000 ∧ Byt l ∧ SlS S w A n 1 (BL l) ∧ ∀ m, st = some m → l = m
section
variable {S : Nat → Prop} {w w' : World} {R : Nat} {any : Bool} {st : Option (List Nat)}
theorem RS.lt (h : RS S w R any st) : R < w.heap.size := by obtain ⟨_, _, _, _, _, _, h, _⟩ := h; exact h.lt
theorem RS.below (h : RS S w R any st) (hb : Below w.heap.size w w') : RS S w' R any st := by
  obtain ⟨h0, A, n, c, l, gr, h1, h2, h3, h4, h5, h6, h7⟩ := h
  exact ⟨h0, A, n, c, l, gr, h1.below hb h1.lt, h2, h3, h4, h5, h6.keep (.of_below hb), h7⟩
theorem RS.grown {row : Option Nat} (h : RS S w R any st) (hb : w.grownBy w' row) (hq : ∀ q, row = some q → R < q) : RS S w' R any st := by
  obtain ⟨h0, A, n, c, l, gr, h1, h2, h3, h4, h5, h6, h7⟩ := h
  exact ⟨h0, A, n, c, l, gr, h1.grown hb (fun e => Nat.lt_irrefl _ (hq _ e.symm)), h2, h3, h4, h5, h6.keep (.grown hb (fun r hr hs => by have := hq r hr; have := h0 r hs; omega)), h7⟩
end
/-- A number was read. -/
def UPost (S : Nat → Prop) (w : World) (R : Nat) (any : Bool) (o : Option (Nat × List Nat)) (e : Ending) (w' : World) : Prop :=
  ∃ x, e = .returned (.int .u64 (x : Nat)) ∧ w.grownBy w' (some R) ∧ match o with
    | none => x = 0 ∧ RS S w' R any none
    | some (y, r) => x = y ∧ RS S w' R any (some r)
theorem bV_next {big : Bool} {l : List Nat} {i : Nat} (h : i < l.length) : bV big (l.take (i + 1)) = if big then bV big (l.take i) * 256 + l.getD i 0 else bV big (l.take i) + 256 ^ i * l.getD i 0 := by
  have e : l.take (i + 1) = l.take i ++ [l.getD i 0] := by
    rw [List.take_add_one, List.getElem?_eq_getElem h, List.getD_eq_getElem?_getD, List.getElem?_eq_getElem h]; rfl
  rw [e]
  unfold bV
  cases big with
  | true => simp [beV_snoc]
  | false =>
    simp only [Bool.false_eq_true, if_false]
    rw [leV_snoc, List.length_take, Nat.min_eq_left (Nat.le_of_lt h)]
theorem bV_take_lt {big : Bool} {l : List Nat} (h : Byt l) (i : Nat) : bV big (l.take i) < 256 ^ i := by
  refine Nat.lt_of_lt_of_le (bV_lt (h.take i)) (Nat.pow_le_pow_right (by decide) ?_)
  rw [List.length_take]; omega
theorem or_lo {x b : Nat} (k : Nat) (hx : x < 2 ^ k) : x ||| (b <<< k) = x + 2 ^ k * b := by
  rw [Nat.shiftLeft_eq, Nat.mul_comm, Nat.or_comm, ← Nat.two_pow_add_eq_or_of_lt hx, Nat.add_comm]
theorem or_be {X b i : Nat} (hi : i < 8) (hX : X < 256 ^ i) (hb : b < 256) : bits .or .u64 (IntKind.u64.wrap ((X : Int) * 256)) (IntKind.u64.wrap (b : Int)) = ((X * 256 + b : Nat) : Int) := by
  have h7 : X < 72057594037927936 := Nat.lt_of_lt_of_le hX (Nat.le_trans (Nat.pow_le_pow_right (n := 256) (by decide) (show i ≤ 7 by omega)) (by decide))
  rw [u64_wrap_id _ (by omega) (by omega), u64_wrap_id _ (by omega) (by omega),
    bits_join .u64 64 (by decide) wraps_u64 8 ((X : Int) * 256) (b : Int) (by omega) (by omega) (by omega) (by omega) (by omega) (by omega)]
  omega
theorem or_le {X b i : Nat} (hi : i < 8) (hX : X < 256 ^ i) (hb : b < 256) : bits .or .u64 (X : Int) (IntKind.u64.wrap (IntKind.u64.wrap (b : Int) * 2 ^ (8 * i))) = ((X + 256 ^ i * b : Nat) : Int) := by
  rw [u64_wrap_id (b : Int) (by omega) (by omega)]
  obtain rfl | rfl | rfl | rfl | rfl | rfl | rfl | rfl : i = 0 ∨ i = 1 ∨ i = 2 ∨ i = 3 ∨ i = 4 ∨ i = 5 ∨ i = 6 ∨ i = 7 := by omega
  all_goals
    simp only [Nat.reduceMul, Nat.reducePow, Int.reducePow, Nat.mul_zero, Nat.pow_zero, Int.pow_zero, Nat.mul_one] at hX ⊢
    rw [u64_wrap_id _ (by omega) (by omega)]
  · rw [bits_join_low .u64 64 (by decide) wraps_u64 0 _ _ (by omega) (by omega) (by omega) (by omega) (by omega) (by omega)]; omega
  · rw [bits_join_low .u64 64 (by decide) wraps_u64 8 _ _ (by omega) (by omega) (by omega) (by omega) (by omega) (by omega)]; omega
  · rw [bits_join_low .u64 64 (by decide) wraps_u64 16 _ _ (by omega) (by omega) (by omega) (by omega) (by omega) (by omega)]; omega
  · rw [bits_join_low .u64 64 (by decide) wraps_u64 24 _ _ (by omega) (by omega) (by omega) (by omega) (by omega) (by omega)]; omega
  · rw [bits_join_low .u64 64 (by decide) wraps_u64 32 _ _ (by omega) (by omega) (by omega) (by omega) (by omega) (by omega)]; omega
  · rw [bits_join_low .u64 64 (by decide) wraps_u64 40 _ _ (by omega) (by omega) (by omega) (by omega) (by omega) (by omega)]; omega
  · rw [bits_join_low .u64 64 (by decide) wraps_u64 48 _ _ (by omega) (by omega) (by omega) (by omega) (by omega) (by omega)]; omega
  · rw [bits_join_low .u64 64 (by decide) wraps_u64 56 _ _ (by omega) (by omega) (by omega) (by omega) (by omega) (by omega)]; omega
/-- The reader after a number. -/
theorem uint_done {S : Nat → Prop} {w : World} {R : Nat} {any big : Bool} {A A2 : Option Addr} {m c n : Nat} {l : List Nat} {gr : Bool} (hSR : ∀ a, S a → a < R) (hB : Blk w R 62 #[.slice A m c, .bool any, .bool false, .bool gr]) (hl : l.length = m) (hc : m ≤ c) (hm : m ≤ 2000) (hb : Byt l) (hn : n ≤ m) (hA : SlS S w A2 (m - n) 1 ((BL l).drop n)) :
    UPost S w R any ((some l).bind (rdU n big)) (.returned (.int .u64 (bV big (l.take n) : Nat))) (w.setCell ⟨R, 0, none⟩ (.slice A2 (m - n) (c - n))) := by
  have e : (some l).bind (rdU n big) = some (bV big (l.take n), l.drop n) := by
    show rdU n big l = _
    unfold rdU
    rw [if_neg (by omega)]
  rw [e]
  refine ⟨_, rfl, grown_set w ⟨R, 0, none⟩ _, rfl, hSR, A2, m - n, c - n, l.drop n, gr, ?_, by rw [List.length_drop, hl], by omega, by omega, hb.drop n, ?_, fun _ h => Option.some.inj h⟩
  · have := hB.set_ 0 (.slice A2 (m - n) (c - n))
    simpa using this
  · rw [BL_drop]
    exact hA.keep (Keeps.set (p := ⟨R, 0, none⟩) (fun h => Nat.lt_irrefl _ (hSR R h)) _)
set_option maxHeartbeats 4000000 in
set_option maxRecDepth 100000 in
theorem uint_calls {S : Nat → Prop} {w : World} {R : Nat} {any : Bool} {st : Option (List Nat)} (h : RS S w R any st) (n : Nat) (hn : n ≤ 8) (big : Bool) :
    Calls Tryz.prog 101 #[.pointer (some ⟨R, 0, none⟩), .int .i64 n, .bool big] w (UPost S w R any (st.bind (rdU n big))) := by
  obtain ⟨hSR, A, m, c, l, gr, hB, hlen, hc, h2000, hbyt, hA, hst⟩ := h
  obtain ⟨c0, c1, c2, c3, f0, f1, f2, f3, hlt⟩ := cells4 hB
  have hm : m ≤ 2000 := h2000
  have HB := Lib.hid hB
  have HA := Lib.hid hA
  have HBY := Lib.hid hbyt
  have HLEN := Lib.hid hlen
  have HST := Lib.hid hst
  obtain ⟨bd, hbd⟩ : ∃ bd, bd = st.isNone := ⟨_, rfl⟩
  rw [← hbd] at c2
  have HBD := Lib.hid hbd
  clear hB hA hbyt hlen hst hbd
  have hbadpost : ∀ o : Option (Nat × List Nat), o = none → UPost S w R any o (.returned (.int .u64 0)) (w.setCell ⟨R, 2, none⟩ (.bool true)) := fun o ho => by
    subst ho
    refine ⟨0, rfl, grown_set w ⟨R, 2, none⟩ _, rfl, hSR, A, m, c, l, gr, ?_, HLEN.out, hc, h2000, HBY.out, HA.out.keep (Keeps.set (p := ⟨R, 2, none⟩) (fun h => Nat.lt_irrefl _ (hSR R h)) _), fun _ h => by cases h⟩
    have := HB.out.set_ 2 (.bool true)
    simpa using this
  have HBP := Lib.hid hbadpost
  clear hbadpost
  cases st with
  | none =>
    obtain rfl : bd = true := HBD.out
    go_enter Tryz.func101, Tryz.ntmps101
    go_wp2_with fail
    exact bodyPost_ret (v := .int .u64 0) (by simp [results, go_sem]) rfl (HBP.out _ rfl)
  | some l' =>
    obtain rfl : l = l' := HST.out _ rfl
    obtain rfl : bd = false := HBD.out
    by_cases hs : m < n
    · have hsI : ((m : Int) < (n : Int)) := by omega
      go_enter Tryz.func101, Tryz.ntmps101
      go_wp2_with fail
      refine bodyPost_ret (v := .int .u64 0) (by simp [results, go_sem]) rfl (HBP.out _ ?_)
      show rdU n big l = none
      unfold rdU
      rw [if_pos (by rw [HLEN.out]; exact hs)]
    · have hsI : ¬ ((m : Int) < (n : Int)) := by omega
      have hnl : n ≤ l.length := by rw [HLEN.out]; omega
      obtain ⟨i1, hi1, hz1⟩ : ∃ i : TypeInfo, Tryz.prog.info? 5 = some i ∧ i.size = 1 := by
        have h0 : (Tryz.prog.info? 5).map (·.size) = some 1 := by kernel_rfl
        cases hh : Tryz.prog.info? 5 with
        | none => rw [hh] at h0; cases h0
        | some i => rw [hh] at h0; exact ⟨i, rfl, Option.some.inj h0⟩
      have hsl := fun w => run_from (P := Tryz.prog) Tryz.underlying34 hi1 hz1 A m c n (by omega) hc w
      have hA2 := HA.out.from1 (show n ≤ m by omega) hc
      obtain ⟨A2, hA2e⟩ : ∃ A2, A2 = if c = n then A else A.map (·.add (n * 1)) := ⟨_, rfl⟩
      rw [← hA2e] at hA2
      simp only [← hA2e] at hsl
      have HA2 := Lib.hid hA2
      clear hA2 hA2e
      have HBN := Lib.hid (fun i (hi : i < l.length) => bV_next (big := big) hi)
      have HBT := Lib.hid (fun i => bV_take_lt (big := big) HBY.out i)
      cases big with
      | true =>
        go_enter Tryz.func101, Tryz.ntmps101
        go_wp2_with fail
        go_loopg [7, 26] n (fun q xv ci wr => ∃ i, i + q = n ∧ ci = .int .i64 (i : Nat) ∧ xv = .int .u64 (bV true (l.take i) : Nat) ∧ wr = w)
        case atStart => exact ⟨0, by omega, by go_num, by simp [bV, beV], rfl⟩
        case round =>
          obtain ⟨i, hi, rfl, rfl, rfl⟩ := hrel
          by_cases hlt2 : i < n
          · have hiI : (i : Int) < (n : Int) := by omega
            obtain ⟨bb, off, rfl, hbb, hcell⟩ := HA.out.1.2.2 (by omega)
            have hcc := hcell i _ (BL_get (by omega))
            go_wp2_with fail
            go_roundg (n - (i + 1))
            case measure => omega
            case rel =>
              refine ⟨i + 1, by omega, by go_num, ?_, ?_⟩
              · clear hsl
                have e1 := HBN.out i (by omega)
                rw [if_pos trivial] at e1
                rw [e1]
                congr 1
                rw [← List.getD_eq_getElem?_getD]
                exact or_be (by omega) (HBT.out i) (getD_lt HBY.out i)
              · rfl
          · obtain rfl : i = n := by omega
            have hiI : (i : Int) ≤ (i : Int) := Int.le_refl _
            go_wp2_with fail
            exact bodyPost_ret (v := .int .u64 (bV true (l.take i) : Nat)) (by simp [results, go_sem]) rfl (uint_done hSR HB.out HLEN.out hc hm HBY.out (by omega) HA2.out)
      | false =>
        go_enter Tryz.func101, Tryz.ntmps101
        go_wp2_with fail
        go_loopg [7, 26] n (fun q xv ci wr => ∃ i, i + q = n ∧ ci = .int .i64 (i : Nat) ∧ xv = .int .u64 (bV false (l.take i) : Nat) ∧ wr = w)
        case atStart => exact ⟨0, by omega, by go_num, by simp [bV, leV], rfl⟩
        case round =>
          obtain ⟨i, hi, rfl, rfl, rfl⟩ := hrel
          by_cases hlt2 : i < n
          · have hiI : (i : Int) < (n : Int) := by omega
            obtain ⟨bb, off, rfl, hbb, hcell⟩ := HA.out.1.2.2 (by omega)
            have hcc := hcell i _ (BL_get (by omega))
            go_wp2_with fail
            go_roundg (n - (i + 1))
            case measure => omega
            case rel =>
              refine ⟨i + 1, by omega, by go_num, ?_, ?_⟩
              · clear hsl
                have e1 := HBN.out i (by omega)
                rw [if_neg (by decide)] at e1
                rw [e1]
                congr 1
                rw [← List.getD_eq_getElem?_getD]
                exact or_le (by omega) (HBT.out i) (getD_lt HBY.out i)
              · rfl
          · obtain rfl : i = n := by omega
            have hiI : (i : Int) ≤ (i : Int) := Int.le_refl _
            go_wp2_with fail
            exact bodyPost_ret (v := .int .u64 (bV false (l.take i) : Nat)) (by simp [results, go_sem]) rfl (uint_done hSR HB.out HLEN.out hc hm HBY.out (by omega) HA2.out)
end Go.Proofs.YtbacakdpfiiblaaGreat.geo
