/-
  Contract: a double as a text, as bytes behind others.
-/
import Derived.Test.YtpfgdfgifdbijaaDoorFfJ
namespace Go.Proofs.YtpfgdfgifdbijaaDoor.ff
open Go.ChangeShapes Go.WideShapes Go.ChangeAt Go.RowKit
open Go.Proofs.YtpfgdfgifdbijaaDoor.mem
set_option linter.unusedVariables false
set_option linter.unusedSimpArgs false

theorem i64_and2047 (n : Int) : bits .and .i64 n 2047 = n % 2048 := by
  have h63 : (BitVec.ofInt 64 2047).toNat = 2 ^ 11 - 1 := by decide
  have key : (BitVec.ofInt 64 n &&& BitVec.ofInt 64 2047).toNat = (n % ((2 ^ 64 : Nat) : Int)).toNat % 2 ^ 11 := by
    rw [BitVec.toNat_and, BitVec.toNat_ofInt, h63, Nat.and_two_pow_sub_one_eq_mod]
  show IntKind.i64.wrap ((BitVec.ofInt 64 n &&& BitVec.ofInt 64 2047).toNat : Nat) = n % 2048
  rw [key, IntKind.wrap_i64]
  omega
theorem wr_range (z : Int) : 0 ≤ IntKind.u64.wrap z ∧ IntKind.u64.wrap z ≤ 18446744073709551615 := by rw [IntKind.wrap_u64]; omega
theorem and_range (a b : Int) : 0 ≤ bits .and .u64 a b ∧ bits .and .u64 a b ≤ 18446744073709551615 := wr_range _
theorem or_range (a b : Int) : 0 ≤ bits .or .u64 a b ∧ bits .or .u64 a b ≤ 18446744073709551615 := wr_range _
/-- The buffer, new. -/
abbrev zeros32 : Array Value := #[.int .u8 0, .int .u8 0, .int .u8 0, .int .u8 0, .int .u8 0, .int .u8 0, .int .u8 0, .int .u8 0, .int .u8 0, .int .u8 0, .int .u8 0, .int .u8 0, .int .u8 0, .int .u8 0, .int .u8 0, .int .u8 0, .int .u8 0, .int .u8 0, .int .u8 0, .int .u8 0, .int .u8 0, .int .u8 0, .int .u8 0, .int .u8 0, .int .u8 0, .int .u8 0, .int .u8 0, .int .u8 0, .int .u8 0, .int .u8 0, .int .u8 0, .int .u8 0]
theorem zeros32_at (j : Nat) (h : j < 32) : zeros32[j]? = some (.int .u8 0) := by
  have e : zeros32 = Array.replicate 32 (.int .u8 0) := rfl
  rw [e, Array.getElem?_replicate, if_pos h]
/-- The digits that are written. -/
def digS (d : Nat) : List Nat := (List.range (trimZ (dgt d) (ND d))).map (fun j => (dgt d j).toNat)
theorem digS_len (d : Nat) : (digS d).length = trimZ (dgt d) (ND d) := by simp [digS]
theorem digS_at (d j : Nat) (h : j < trimZ (dgt d) (ND d)) : (digS d).getD j 0 = (dgt d j).toNat := by
  simp [digS, List.getD_eq_getElem?_getD, h]
theorem txt_ok (neg : Bool) (d : Nat) (dp : Int) (h : (digS d).length ≤ 20) (hd : -450 ≤ dp ∧ dp ≤ 450) : (sgL neg ++ (ipL (digS d) dp ++ fpL (digS d) dp)).length ≤ 1000 ∧ ∀ b ∈ sgL neg ++ (ipL (digS d) dp ++ fpL (digS d) dp), b < 256 := by
  have hs : ∀ b ∈ digS d, b < 256 := fun b hb => by
    obtain ⟨j, _, rfl⟩ := List.mem_map.1 hb
    exact (dgt d j).toNat_lt
  constructor
  · unfold sgL ipL fpL
    simp only [List.length_append]
    have h1 : (if neg = true then [45] else ([] : List Nat)).length ≤ 1 := by split <;> simp
    have h2 : (if 0 < dp then (digS d).take (min (digS d).length dp.toNat) ++ List.replicate (dp.toNat - min (digS d).length dp.toNat) 48 else [48]).length ≤ 500 := by
      split
      · rw [List.length_append, List.length_take, List.length_replicate]; omega
      · simp
    have h3 : (if dp < (digS d).length then 46 :: (List.replicate (-dp).toNat 48 ++ (digS d).drop dp.toNat) else []).length ≤ 490 := by
      split
      · rw [List.length_cons, List.length_append, List.length_drop, List.length_replicate]; omega
      · simp
    omega
  · intro b hb
    rcases List.mem_append.1 hb with hb | hb
    · unfold sgL at hb
      split at hb
      · rw [List.mem_singleton.1 hb]; decide
      · cases hb
    · rcases List.mem_append.1 hb with hb | hb
      · unfold ipL at hb
        split at hb
        · rcases List.mem_append.1 hb with hb | hb
          · exact hs b (List.mem_of_mem_take hb)
          · rw [List.eq_of_mem_replicate hb]; decide
        · rw [List.mem_singleton.1 hb]; decide
      · unfold fpL at hb
        split at hb
        · rcases List.mem_cons.1 hb with rfl | hb
          · decide
          · rcases List.mem_append.1 hb with hb | hb
            · rw [List.eq_of_mem_replicate hb]; decide
            · exact hs b (List.mem_of_mem_drop hb)
        · cases hb
theorem low_grown {n : Nat} {w w1 w2 : World} {row : Option Nat} (hb : Below w.heap.size w w1) (hg : w1.grownBy w2 row) (hr : ∀ q, row = some q → n ≤ q) (hn : n ≤ w.heap.size) : Below n w w2 :=
  ⟨hg.os.trans hb.os, hg.tape.trans hb.tape, hg.output.trans hb.output, Nat.le_trans hb.size hg.size, fun j hj => (hg.block j (Nat.lt_of_lt_of_le (Nat.lt_of_lt_of_le hj hn) hb.size) (fun e => by have := hr j e.symm; omega)).trans (hb.block j (Nat.lt_of_lt_of_le hj hn))⟩
set_option maxHeartbeats 8000000 in
set_option maxRecDepth 100000 in
theorem ftoaN (T : Nat → Int) (x : Nat) (neg : Bool) (ex mt : Int) (hneg : ((x : Int) / 9223372036854775808 != 0) = neg) (hex : wrap64 ((x : Int) / 4503599627370496) % 2048 = ex) (hmt : bits .and .u64 (x : Int) 4503599627370495 = mt) (hxb : 0 ≤ ex ∧ ex < 2048) (hmb : 0 ≤ mt ∧ mt ≤ 18446744073709551615) (hE : ex = 2047) (hM : mt ≠ 0) : ∃ out : List Nat, (out.length ≤ 1000 ∧ ∀ b ∈ out, b < 256) ∧ ∀ (w : World) (base c : Nat) (A : Option Addr), Tab T w → P10 w → 3 < base → 2 < base → base ≤ w.heap.size → w.ownsRow base 5 1 (.slice A 0 c) 0 [] →
    Calls Tryd.prog 30 #[.slice A 0 c, .float .f64 x, .int .u8 102, .int .i64 (-1)] w (FEPost base w out) := by
  have hfb := run_fbits
  have hm := i64_and2047
  obtain ⟨i1, hi1, hz11, hz12, hz13⟩ := infoU
  refine ⟨[78, 97, 78], by simp, ?_⟩
  intro w base c A hT hP h1 h2 h3 hown
  have HT := Lib.hid hT
  have HP := Lib.hid hP
  have HO := Lib.hid hown
  clear hT hP hown
  go_enter Tryd.func30, Tryd.ntmps30
  go_upto_region 14 with fail
  go_quiet (fail)
  obtain ⟨w0, hw0⟩ : ∃ w0, w0 = w.drewN nq := ⟨_, rfl⟩
  have HB0 := Lib.hid (show Below w.heap.size w w0 by rw [hw0]; exact drewN_below _ _ _)
  have HS0 := Lib.hid (show w0.heap.size = w.heap.size by rw [hw0]; rfl)
  have HO0 := Lib.hid (show w0.ownsRow base 5 1 (.slice A 0 c) 0 [] by rw [hw0]; exact HO.out)
  try dsimp only
  rw [← hw0]
  clear hw0
  go_wp2_with (at_builtin; go_loud (refine Lib.wpList_append_own_string _ rfl (.tmp 70) (.const (.string ⟨#[78, 97, 78]⟩)) 52 9 rfl base 5 i1 Tryd.underlying52 Tryd.underlying9 hi1 hz11 hz12 hz13 (.slice A 0 c) 0 [] rfl HO0.out ⟨#[78, 97, 78]⟩ rfl (by decide) (by decide) (by rw [HS0.out]; exact h3) ?_); intro v' w8 ho8 hg8 hv8
               obtain ⟨A8, c8, rfl⟩ := own_slice ho8
               have HO8 := Lib.hid ho8
               have HG8 := Lib.hid hg8
               clear ho8 hg8 hv8)
  refine bodyPost_ret (v := .slice A8 (0 + (⟨#[78, 97, 78]⟩ : ByteArray).size) c8) (by simp [results, go_sem]) rfl ?_
  exact ⟨A8, c8, rfl, HO8.out, low_grown HB0.out HG8.out (fun q hq => (HO0.out.lt q hq).1) h3⟩
set_option maxHeartbeats 8000000 in
set_option maxRecDepth 100000 in
theorem ftoaM (T : Nat → Int) (x : Nat) (neg : Bool) (ex mt : Int) (hneg : ((x : Int) / 9223372036854775808 != 0) = neg) (hex : wrap64 ((x : Int) / 4503599627370496) % 2048 = ex) (hmt : bits .and .u64 (x : Int) 4503599627370495 = mt) (hxb : 0 ≤ ex ∧ ex < 2048) (hmb : 0 ≤ mt ∧ mt ≤ 18446744073709551615) (hE : ex = 2047) (hM : mt = 0) (hN : neg = true) : ∃ out : List Nat, (out.length ≤ 1000 ∧ ∀ b ∈ out, b < 256) ∧ ∀ (w : World) (base c : Nat) (A : Option Addr), Tab T w → P10 w → 3 < base → 2 < base → base ≤ w.heap.size → w.ownsRow base 5 1 (.slice A 0 c) 0 [] →
    Calls Tryd.prog 30 #[.slice A 0 c, .float .f64 x, .int .u8 102, .int .i64 (-1)] w (FEPost base w out) := by
  have hfb := run_fbits
  have hm := i64_and2047
  obtain ⟨i1, hi1, hz11, hz12, hz13⟩ := infoU
  refine ⟨[45, 73, 110, 102], by simp, ?_⟩
  intro w base c A hT hP h1 h2 h3 hown
  have HT := Lib.hid hT
  have HP := Lib.hid hP
  have HO := Lib.hid hown
  clear hT hP hown
  go_enter Tryd.func30, Tryd.ntmps30
  go_upto_region 14 with fail
  go_quiet (fail)
  obtain ⟨w0, hw0⟩ : ∃ w0, w0 = w.drewN nq := ⟨_, rfl⟩
  have HB0 := Lib.hid (show Below w.heap.size w w0 by rw [hw0]; exact drewN_below _ _ _)
  have HS0 := Lib.hid (show w0.heap.size = w.heap.size by rw [hw0]; rfl)
  have HO0 := Lib.hid (show w0.ownsRow base 5 1 (.slice A 0 c) 0 [] by rw [hw0]; exact HO.out)
  try dsimp only
  rw [← hw0]
  clear hw0
  go_wp2_with (at_builtin; go_loud (refine Lib.wpList_append_own_string _ rfl (.tmp 73) (.const (.string ⟨#[45, 73, 110, 102]⟩)) 52 9 rfl base 5 i1 Tryd.underlying52 Tryd.underlying9 hi1 hz11 hz12 hz13 (.slice A 0 c) 0 [] rfl HO0.out ⟨#[45, 73, 110, 102]⟩ rfl (by decide) (by decide) (by rw [HS0.out]; exact h3) ?_); intro v' w8 ho8 hg8 hv8
               obtain ⟨A8, c8, rfl⟩ := own_slice ho8
               have HO8 := Lib.hid ho8
               have HG8 := Lib.hid hg8
               clear ho8 hg8 hv8)
  refine bodyPost_ret (v := .slice A8 (0 + (⟨#[45, 73, 110, 102]⟩ : ByteArray).size) c8) (by simp [results, go_sem]) rfl ?_
  exact ⟨A8, c8, rfl, HO8.out, low_grown HB0.out HG8.out (fun q hq => (HO0.out.lt q hq).1) h3⟩
set_option maxHeartbeats 8000000 in
set_option maxRecDepth 100000 in
theorem ftoaP (T : Nat → Int) (x : Nat) (neg : Bool) (ex mt : Int) (hneg : ((x : Int) / 9223372036854775808 != 0) = neg) (hex : wrap64 ((x : Int) / 4503599627370496) % 2048 = ex) (hmt : bits .and .u64 (x : Int) 4503599627370495 = mt) (hxb : 0 ≤ ex ∧ ex < 2048) (hmb : 0 ≤ mt ∧ mt ≤ 18446744073709551615) (hE : ex = 2047) (hM : mt = 0) (hN : neg = false) : ∃ out : List Nat, (out.length ≤ 1000 ∧ ∀ b ∈ out, b < 256) ∧ ∀ (w : World) (base c : Nat) (A : Option Addr), Tab T w → P10 w → 3 < base → 2 < base → base ≤ w.heap.size → w.ownsRow base 5 1 (.slice A 0 c) 0 [] →
    Calls Tryd.prog 30 #[.slice A 0 c, .float .f64 x, .int .u8 102, .int .i64 (-1)] w (FEPost base w out) := by
  have hfb := run_fbits
  have hm := i64_and2047
  obtain ⟨i1, hi1, hz11, hz12, hz13⟩ := infoU
  refine ⟨[43, 73, 110, 102], by simp, ?_⟩
  intro w base c A hT hP h1 h2 h3 hown
  have HT := Lib.hid hT
  have HP := Lib.hid hP
  have HO := Lib.hid hown
  clear hT hP hown
  go_enter Tryd.func30, Tryd.ntmps30
  go_upto_region 14 with fail
  go_quiet (fail)
  obtain ⟨w0, hw0⟩ : ∃ w0, w0 = w.drewN nq := ⟨_, rfl⟩
  have HB0 := Lib.hid (show Below w.heap.size w w0 by rw [hw0]; exact drewN_below _ _ _)
  have HS0 := Lib.hid (show w0.heap.size = w.heap.size by rw [hw0]; rfl)
  have HO0 := Lib.hid (show w0.ownsRow base 5 1 (.slice A 0 c) 0 [] by rw [hw0]; exact HO.out)
  try dsimp only
  rw [← hw0]
  clear hw0
  go_wp2_with (at_builtin; go_loud (refine Lib.wpList_append_own_string _ rfl (.tmp 75) (.const (.string ⟨#[43, 73, 110, 102]⟩)) 52 9 rfl base 5 i1 Tryd.underlying52 Tryd.underlying9 hi1 hz11 hz12 hz13 (.slice A 0 c) 0 [] rfl HO0.out ⟨#[43, 73, 110, 102]⟩ rfl (by decide) (by decide) (by rw [HS0.out]; exact h3) ?_); intro v' w8 ho8 hg8 hv8
               obtain ⟨A8, c8, rfl⟩ := own_slice ho8
               have HO8 := Lib.hid ho8
               have HG8 := Lib.hid hg8
               clear ho8 hg8 hv8)
  refine bodyPost_ret (v := .slice A8 (0 + (⟨#[43, 73, 110, 102]⟩ : ByteArray).size) c8) (by simp [results, go_sem]) rfl ?_
  exact ⟨A8, c8, rfl, HO8.out, low_grown HB0.out HG8.out (fun q hq => (HO0.out.lt q hq).1) h3⟩
theorem p10_below {w w' : World} (h : P10 w) (hb : Below w.heap.size w w') : P10 w' := by
  have hlt := h.lt
  have hg : Tryd.prog.globalNamed "internal/strconv.uint64pow10" = some 2 := by kernel_rfl
  unfold P10 Lib.TabIs World.var? at *
  simp only [hg, Option.bind_some] at h ⊢
  rw [hb.block _ hlt]
  exact h
/-- setDigits over the new buffer. -/
theorem setd2 {d nz : Nat} {p dp : Int} (hd64 : d < 18446744073709551616) (hp : -400 ≤ p ∧ p ≤ 400) (hnz : nz = trimZ (dgt d) (ND d)) (hdp : dp = (ND d : Int) + p) {w : World} {B : Nat} (hZ : Blk w B 78 zeros32) :
    Calls Tryd.prog 40 #[.slice (some ⟨B, 0, none⟩) 32 32, .int .u64 d, .int .i64 p, .int .i64 (ND d)] w (fun e w' => e = .returned (.tuple #[.int .i64 dp, .int .i64 nz]) ∧ (∀ j, j < ND d → w'.cell? ⟨B, j, none⟩ = some (encU (dgt d j))) ∧ Below B w w' ∧ B < w'.heap.size) := by
  subst hnz hdp
  exact setd_calls d hd64 p hp w B (fun j hj => ⟨(hZ.cell j).trans (zeros32_at j hj), hZ.frozen j (by show j < zeros32.size; exact hj)⟩) hZ.lt
theorem fi_again {base B c : Nat} {w1 w6 : World} {A : Option Addr} (h : FI base B w1 A c [] w1) (hs : w1.heap.size = B + 1) (hb : Below B w1 w6) (hl : B < w6.heap.size) : FI base B w6 A c [] w6 := by
  refine ⟨h.own.kept (row := some B) ⟨hb.os, hb.tape, hb.output, hb.size, fun j hj hn => hb.block j (by have : j ≠ B := fun e => hn (by rw [e]); omega)⟩ ?_, h.ne, rfl, Below.refl _ _, hl, Nat.le_trans h.low hb.size⟩
  exact .inr h.ne
theorem fi_start {T : Nat → Int} {base c : Nat} {w w0 : World} {A : Option Addr} (hT : Tab T w) (hb : Below w.heap.size w w0) (hs : w0.heap.size = w.heap.size) (ho : w0.ownsRow base 5 1 (.slice A 0 c) 0 []) (h1 : 3 < base) (h3 : base ≤ w.heap.size) : FI base 3 w0 A c [] w0 :=
  ⟨ho, fun e => by have := (ho.lt _ e).1; omega, rfl, Below.refl _ _, by rw [hs]; exact hT.lt, by rw [hs]; exact h3⟩
theorem fi_buf {base c : Nat} {w0 w1 : World} {A : Option Addr} (ho : w1.ownsRow base 5 1 (.slice A 0 c) 0 []) (ho0 : w0.ownsRow base 5 1 (.slice A 0 c) 0 []) (hs : w1.heap.size = w0.heap.size + 1) (h3 : base ≤ w0.heap.size) : FI base w0.heap.size w1 A c [] w1 :=
  ⟨ho, fun e => by have := (ho0.lt _ e).2; omega, rfl, Below.refl _ _, by rw [hs]; exact Nat.lt_succ_self _, by omega⟩
set_option maxHeartbeats 8000000 in
set_option maxRecDepth 100000 in
theorem ftoaZ0 (T : Nat → Int) (x : Nat) (neg : Bool) (ex mt : Int) (hneg : ((x : Int) / 9223372036854775808 != 0) = neg) (hex : wrap64 ((x : Int) / 4503599627370496) % 2048 = ex) (hmt : bits .and .u64 (x : Int) 4503599627370495 = mt) (hxb : 0 ≤ ex ∧ ex < 2048) (hmb : 0 ≤ mt ∧ mt ≤ 18446744073709551615) (hE : ex = 0) (hZ : mt = 0) : ∃ out : List Nat, (out.length ≤ 1000 ∧ ∀ b ∈ out, b < 256) ∧ ∀ (w : World) (base c : Nat) (A : Option Addr), Tab T w → P10 w → 3 < base → 2 < base → base ≤ w.heap.size → w.ownsRow base 5 1 (.slice A 0 c) 0 [] →
    Calls Tryd.prog 30 #[.slice A 0 c, .float .f64 x, .int .u8 102, .int .i64 (-1)] w (FEPost base w out) := by
  have hfb := run_fbits
  have hm := i64_and2047
  subst hE
  refine ⟨sgL neg ++ [48], by cases neg <;> simp [sgL], ?_⟩
  intro w base c A hT hP h1 h2 h3 hown
  have HT := Lib.hid hT
  have HP := Lib.hid hP
  have HO := Lib.hid hown
  clear hT hP hown
  go_enter Tryd.func30, Tryd.ntmps30
  go_upto_region 14 with fail
  go_quiet (fail)
  obtain ⟨w0, hw0⟩ : ∃ w0, w0 = w.drewN nq := ⟨_, rfl⟩
  have HB0 := Lib.hid (show Below w.heap.size w w0 by rw [hw0]; exact drewN_below _ _ _)
  have HS0 := Lib.hid (show w0.heap.size = w.heap.size by rw [hw0]; rfl)
  have HO0 := Lib.hid (show w0.ownsRow base 5 1 (.slice A 0 c) 0 [] by rw [hw0]; exact HO.out)
  try dsimp only
  rw [← hw0]
  clear hw0
  go_wp2_with fail
  refine (fmtz_calls (base := base) (B := 3) (neg := neg) (fi_start HT.out HB0.out HS0.out HO0.out h1 h3)).mono ?_
  rintro e w8 ⟨A8, c8, rfl, ho8, hb8⟩
  have HO8 := Lib.hid ho8
  have HB8 := Lib.hid hb8
  clear ho8 hb8
  go_wp2_with fail
  exact bodyPost_ret (v := .slice A8 (sgL neg ++ [48]).length c8) (by simp [results, go_sem]) rfl ⟨A8, c8, rfl, HO8.out, (HB0.out.mono h3).trans HB8.out⟩
set_option maxHeartbeats 8000000 in
set_option maxRecDepth 100000 in
theorem ftoaZ1 (T : Nat → Int) (x : Nat) (neg : Bool) (ex mt : Int) (hneg : ((x : Int) / 9223372036854775808 != 0) = neg) (hex : wrap64 ((x : Int) / 4503599627370496) % 2048 = ex) (hmt : bits .and .u64 (x : Int) 4503599627370495 = mt) (hxb : 0 ≤ ex ∧ ex < 2048) (hmb : 0 ≤ mt ∧ mt ≤ 18446744073709551615) (hE0 : ex ≠ 0) (hE : ex ≠ 2047) (m1 : Int) (hm1 : bits .or .u64 mt 4503599627370496 = m1) (hm1b : 0 ≤ m1 ∧ m1 ≤ 18446744073709551615) (hZ : m1 = 0) : ∃ out : List Nat, (out.length ≤ 1000 ∧ ∀ b ∈ out, b < 256) ∧ ∀ (w : World) (base c : Nat) (A : Option Addr), Tab T w → P10 w → 3 < base → 2 < base → base ≤ w.heap.size → w.ownsRow base 5 1 (.slice A 0 c) 0 [] →
    Calls Tryd.prog 30 #[.slice A 0 c, .float .f64 x, .int .u8 102, .int .i64 (-1)] w (FEPost base w out) := by
  have hfb := run_fbits
  have hm := i64_and2047
  refine ⟨sgL neg ++ [48], by cases neg <;> simp [sgL], ?_⟩
  intro w base c A hT hP h1 h2 h3 hown
  have HT := Lib.hid hT
  have HP := Lib.hid hP
  have HO := Lib.hid hown
  clear hT hP hown
  go_enter Tryd.func30, Tryd.ntmps30
  go_upto_region 14 with fail
  go_quiet (fail)
  obtain ⟨w0, hw0⟩ : ∃ w0, w0 = w.drewN nq := ⟨_, rfl⟩
  have HB0 := Lib.hid (show Below w.heap.size w w0 by rw [hw0]; exact drewN_below _ _ _)
  have HS0 := Lib.hid (show w0.heap.size = w.heap.size by rw [hw0]; rfl)
  have HO0 := Lib.hid (show w0.ownsRow base 5 1 (.slice A 0 c) 0 [] by rw [hw0]; exact HO.out)
  try dsimp only
  rw [← hw0]
  clear hw0
  go_wp2_with fail
  refine (fmtz_calls (base := base) (B := 3) (neg := neg) (fi_start HT.out HB0.out HS0.out HO0.out h1 h3)).mono ?_
  rintro e w8 ⟨A8, c8, rfl, ho8, hb8⟩
  have HO8 := Lib.hid ho8
  have HB8 := Lib.hid hb8
  clear ho8 hb8
  go_wp2_with fail
  exact bodyPost_ret (v := .slice A8 (sgL neg ++ [48]).length c8) (by simp [results, go_sem]) rfl ⟨A8, c8, rfl, HO8.out, (HB0.out.mono h3).trans HB8.out⟩
end Go.Proofs.YtpfgdfgifdbijaaDoor.ff
