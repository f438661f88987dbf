/-
  Contract: digits and an exponent as a text.
-/
import Derived.Test.YtpfgdfgifdbijaaDoorFfH
namespace Go.Proofs.YtpfgdfgifdbijaaDoor.ff
open Go.ChangeShapes Go.WideShapes Go.ChangeAt Go.RowKit
open Go.Proofs.YtpfgdfgifdbijaaDoor.mem
set_option linter.unusedVariables false
set_option linter.unusedSimpArgs false

theorem infoU : ∃ i : TypeInfo, Tryd.prog.info? 5 = some i ∧ i.zero = some (.int .u8 0) ∧ i.size = 1 ∧ i.bytes = 1 := by
  have h0 : (Tryd.prog.info? 5).map (fun i => (i.zero, i.size, i.bytes)) = some (some (.int .u8 0), 1, 1) := by kernel_rfl
  cases hh : Tryd.prog.info? 5 with
  | none => rw [hh] at h0; cases h0
  | some i =>
    rw [hh] at h0
    have h1 := Option.some.inj h0
    exact ⟨i, rfl, congrArg (fun x => x.1) h1, congrArg (fun x => x.2.1) h1, congrArg (fun x => x.2.2) h1⟩
theorem one_cell (z : Int) : ∀ v ∈ [Value.int .u8 z], v.oneCell' = true := by
  intro v hv
  rw [List.mem_singleton.1 hv]
  rfl
theorem run_upto_u {i1 : TypeInfo} (hi1 : Tryd.prog.info? 5 = some i1) (hz1 : i1.size = 1) (B n m : Nat) (h : m ≤ n) (w : World) :
    (Instr.slice 52 (.slice (some ⟨B, 0, none⟩) n n) none (some (.int .i64 (m : Int))) none).run Tryd.prog w = .ok (.slice (some ⟨B, 0, none⟩) m n) w := by
  have h3 : (0 : Int) ≤ (m : Int) := by omega
  have h5 : (m : Int) ≤ (n : Int) := by omega
  simp [Instr.slice, run_underlying Tryd.underlying52, Instr.sliceBounds, Instr.sliceBound, asIntOf, go_sem, sizeOf, typeInfo, hi1, hz1, h3, h5, h]
theorem take_one (l S : List Nat) {i : Nat} (h : i < S.length) : l ++ S.take (i + 1) = (l ++ S.take i) ++ [S.getD i 0] := by
  rw [List.take_add_one, List.getElem?_eq_getElem h, List.getD_eq_getElem?_getD, List.getElem?_eq_getElem h, List.append_assoc]
  rfl
/-- The sign, what stands ahead of the point, and what behind it. -/
def sgL (neg : Bool) : List Nat := if neg then [45] else []
def ipL (S : List Nat) (dp : Int) : List Nat := if 0 < dp then S.take (min S.length dp.toNat) ++ List.replicate (dp.toNat - min S.length dp.toNat) 48 else [48]
def fpL (S : List Nat) (dp : Int) : List Nat := if dp < S.length then 46 :: (List.replicate (-dp).toNat 48 ++ S.drop dp.toNat) else []
/-- The text was written. -/
def FEPost (base : Nat) (w : World) (l : List Nat) (e : Ending) (w' : World) : Prop :=
  ∃ A c, e = .returned (.slice A l.length c) ∧ w'.ownsRow base 5 1 (.slice A l.length c) l.length (BY l) ∧ Below base w w'
set_option maxHeartbeats 16000000 in
set_option maxRecDepth 100000 in
theorem fmt_calls {base B : Nat} {w : World} {A : Option Addr} {c : Nat} {neg : Bool} {S : List Nat} {dp prec : Int} {n : Nat} (hn : n = S.length) (hS : n ≤ 20) (hdp : -450 ≤ dp ∧ dp ≤ 450) (hprec : prec = max ((n : Int) - dp) 0)
    (h : FI base B w A c [] w) (hB : ∀ j, j < n → w.cell? ⟨B, j, none⟩ = some (.int .u8 (S.getD j 0 : Nat))) :
    Calls Tryd.prog 37 #[.slice A 0 c, .bool neg, .slice (some ⟨B, 0, none⟩) 32 32, .int .i64 dp, .int .i64 n, .int .i64 prec, .int .u8 102, .bool true] w (FEPost base w (sgL neg ++ (ipL S dp ++ fpL S dp))) := by
  obtain ⟨i1, hi1, hz11, hz12, hz13⟩ := infoU
  have HB := Lib.hid hB
  have HF := Lib.hid h
  have HN := Lib.hid hn
  have hpb : 0 ≤ prec ∧ prec ≤ 500 := by omega
  have HP := Lib.hid hprec
  have hln : S.length ≤ 20 := by rw [← hn]; exact hS
  clear hB h hn hprec
  go_enter Tryd.func37, Tryd.ntmps37
  go_upto_if 178 with fail
  go_cut [0] (fun v wx => ∃ A c, v = .slice A (sgL neg).length c ∧ FI base B w A c (sgL neg) wx)
  case first =>
    cases neg with
    | false =>
      go_wp2_with fail
      go_meet
      exact ⟨A, c, rfl, HF.out⟩
    | true =>
      have HF := Lib.hid (show FI base B w A c ([] : List Nat) w from HF.out)
      have hl0 : ([] : List Nat).length ≤ 1000 := by decide
      go_wp2_with (at_builtin; refine wpList_append_sl _ rfl (.tmp 179) (.tmp 180) 52 rfl base 5 i1 _ 1 1 Tryd.underlying52 hi1 hz11 hz12 hz13 rfl (by decide) (.slice A ([] : List Nat).length c) ([] : List Nat).length (BY ([] : List Nat)) rfl (HF.out.own.alloc (.cells #[.int .u8 45] 5)) (w.alloc (.cells #[.int .u8 45] 5)).heap.size (some ⟨w.heap.size, 0, none⟩) 1 1 [.int .u8 45] rfl (slBlk (n := 1) (c := 1) (heap_alloc_new w _) rfl (by unfold maxLen; omega)) (one_cell _) (by unfold maxLen; omega) (by omega) (by have h1 := HF.out.bel.size; have h2 := HF.out.low; simp; omega) ?_; intro A8 c8 w8 ho8 hg8 ha8
                   have hFI := HF.out.next ho8 hg8 ha8
                   have HFI := Lib.hid hFI
                   clear ho8 hg8 ha8 hFI)
      go_meet
      exact ⟨A8, c8, rfl, HFI.out⟩
  case rest =>
    obtain ⟨A1, c1, rfl, hF1⟩ := hcut
    rename World => w1
    obtain ⟨l1, hl1⟩ : ∃ l1, l1 = sgL neg := ⟨_, rfl⟩
    have hll1 : l1.length ≤ 10 := by rw [hl1]; unfold sgL; split <;> simp
    rw [← hl1] at hF1 ⊢
    have HF1 := Lib.hid hF1
    have HL1 := Lib.hid hl1
    clear hF1 hl1 HF
    go_upto_if 183 with fail
    go_cut [0] (fun v wx => ∃ A c, v = .slice A (l1 ++ ipL S dp).length c ∧ FI base B w A c (l1 ++ ipL S dp) wx)
    case first =>
--[
      by_cases hd : 0 < dp
      · obtain ⟨D, hD⟩ : ∃ D : Nat, dp = (D : Int) := ⟨dp.toNat, by omega⟩
        obtain ⟨m, hm⟩ : ∃ m, m = min n D := ⟨_, rfl⟩
        have hmin : min (n : Int) dp = (m : Int) := by omega
        have hsl := run_upto_u hi1 hz12 B 32 m (by omega)
        have hmb : m ≤ n ∧ m ≤ D := by omega
        have HM := Lib.hid hm
        have HD := Lib.hid hD
        clear hm hD
        go_wp2_with fail
        rw [show decide ((0 : Int) < dp) = true from decide_eq_true hd]
        go_loopg [0, 191] m (fun q v ci wr => ∃ (i : Nat) (A : Option Addr) (c : Nat), i + q = m ∧ ci = .int .i64 (i : Nat) ∧ v = .slice A (l1 ++ S.take i).length c ∧ FI base B w A c (l1 ++ S.take i) wr)
        case atStart => exact ⟨0, A1, c1, by omega, by go_num, by simp, by simpa using HF1.out⟩
        case round =>
          obtain ⟨i, A3, c3, hi', rfl, rfl, hF3⟩ := hrel
          have HIL := Lib.hid hi'
          have him : i ≤ m := by omega
          obtain ⟨L, hL⟩ : ∃ L, L = l1 ++ S.take i := ⟨_, rfl⟩
          have hLl : L.length ≤ 100 := by rw [hL, List.length_append, List.length_take]; omega
          rw [← hL] at hF3 ⊢
          have HL := Lib.hid hL
          have HF3 := Lib.hid hF3
          clear hF3 hL hi'
          by_cases hlt : i < m
          · have hltI : (i : Int) < (m : Int) := by omega
            obtain ⟨x, hx⟩ : ∃ x, x = S.getD i 0 := ⟨_, rfl⟩
            have hc : wr.cell? ⟨B, i, none⟩ = some (.int .u8 (x : Nat)) := by rw [hx]; exact (HF3.out.cell i).trans (HB.out i (by omega))
            have HX := Lib.hid hx
            clear hx
            go_wp2_with (at_builtin; refine wpList_append_sl _ rfl (.tmp 195) (.tmp 197) 52 rfl base 5 i1 _ 1 1 Tryd.underlying52 hi1 hz11 hz12 hz13 rfl (by decide) (.slice A3 L.length c3) L.length (BY L) rfl (HF3.out.own.alloc (.cells #[.int .u8 (x : Nat)] 5)) (wr.alloc (.cells #[.int .u8 (x : Nat)] 5)).heap.size (some ⟨wr.heap.size, 0, none⟩) 1 1 [.int .u8 (x : Nat)] rfl (slBlk (n := 1) (c := 1) (heap_alloc_new wr _) rfl (by unfold maxLen; omega)) (one_cell _) (by unfold maxLen; omega) (by omega) (by have h1 := HF3.out.bel.size; have h2 := HF3.out.low; simp; omega) ?_; intro A8 c8 w8 ho8 hg8 ha8
                         have hFI := HF3.out.next ho8 hg8 ha8
                         have HFI := Lib.hid hFI
                         clear ho8 hg8 ha8 hFI)
            go_roundg (m - (i + 1))
            case measure => have := HIL.out; omega
            case rel =>
              have htk : l1 ++ S.take (i + 1) = L ++ [x] := by rw [HL.out, HX.out]; exact take_one l1 S (by rw [← HN.out]; omega)
              refine ⟨i + 1, A8, c8, by omega, by go_num, ?_, ?_⟩
              · rw [htk, List.length_append]; rfl
              · rw [htk]; exact HFI.out
          · obtain rfl : i = m := by omega
            have hltI : (i : Int) ≤ (i : Int) := Int.le_refl _
            obtain ⟨k, hk⟩ : ∃ k, k = D - i := ⟨_, rfl⟩
            have hkI : dp - (i : Int) = (k : Int) := by have := HD.out; omega
            have hkb : k ≤ 450 := by have := HD.out; omega
            have HK := Lib.hid hk
            clear hk
            go_wp2_with fail
            go_loopg [0, 203] k (fun q v ci wx => ∃ (j : Nat) (A : Option Addr) (c : Nat), j + q = k ∧ ci = .int .i64 (j : Nat) ∧ v = .slice A (L ++ List.replicate j 48).length c ∧ FI base B w A c (L ++ List.replicate j 48) wx)
            case atStart => exact ⟨0, A3, c3, by omega, by go_num, by simp, by simpa using HF3.out⟩
            case round =>
              obtain ⟨j, A4, c4, hj', rfl, rfl, hF4⟩ := hrel
              have HJL := Lib.hid hj'
              have hjk : j ≤ k := by omega
              obtain ⟨L4, hL4⟩ : ∃ L4, L4 = L ++ List.replicate j 48 := ⟨_, rfl⟩
              have hL4l : L4.length ≤ 600 := by rw [hL4, List.length_append, List.length_replicate]; omega
              rw [← hL4] at hF4 ⊢
              have HL4 := Lib.hid hL4
              have HF4 := Lib.hid hF4
              clear hF4 hL4 hj'
              by_cases hlt : j < k
              · have hltI : (j : Int) < (k : Int) := by omega
                go_wp2_with (at_builtin; refine wpList_append_sl _ rfl (.tmp 205) (.tmp 206) 52 rfl base 5 i1 _ 1 1 Tryd.underlying52 hi1 hz11 hz12 hz13 rfl (by decide) (.slice A4 L4.length c4) L4.length (BY L4) rfl (HF4.out.own.alloc (.cells #[.int .u8 48] 5)) (wr.alloc (.cells #[.int .u8 48] 5)).heap.size (some ⟨wr.heap.size, 0, none⟩) 1 1 [.int .u8 48] rfl (slBlk (n := 1) (c := 1) (heap_alloc_new wr _) rfl (by unfold maxLen; omega)) (one_cell _) (by unfold maxLen; omega) (by omega) (by have h1 := HF4.out.bel.size; have h2 := HF4.out.low; simp; omega) ?_; intro A8 c8 w8 ho8 hg8 ha8
                             have hFI := HF4.out.next ho8 hg8 ha8
                             have HFI := Lib.hid hFI
                             clear ho8 hg8 ha8 hFI)
                go_roundg (k - (j + 1))
                case measure => have := HJL.out; omega
                case rel =>
                  have htk : L ++ List.replicate (j + 1) 48 = L4 ++ [48] := by rw [HL4.out, List.replicate_succ', List.append_assoc]
                  refine ⟨j + 1, A8, c8, by omega, by go_num, ?_, ?_⟩
                  · rw [htk, List.length_append]; rfl
                  · rw [htk]; exact HFI.out
              · obtain rfl : j = k := by omega
                have hltI : (j : Int) ≤ (j : Int) := Int.le_refl _
                go_wp2_with fail
                go_meet
                have hfin : l1 ++ ipL S dp = L4 := by
                  rw [HL4.out, HL.out]
                  unfold ipL
                  rw [if_pos (by omega), ← HN.out, show dp.toNat = D by rw [HD.out]; rfl, ← HM.out, ← HK.out, List.append_assoc]
                rw [hfin]
                exact ⟨A4, c4, rfl, HF4.out⟩
      · have hdI : dp ≤ 0 := by omega
        go_wp2_with (at_builtin; refine wpList_append_sl _ rfl (.tmp 209) (.tmp 210) 52 rfl base 5 i1 _ 1 1 Tryd.underlying52 hi1 hz11 hz12 hz13 rfl (by decide) (.slice A1 l1.length c1) l1.length (BY l1) rfl (HF1.out.own.alloc (.cells #[.int .u8 48] 5)) (w1.alloc (.cells #[.int .u8 48] 5)).heap.size (some ⟨w1.heap.size, 0, none⟩) 1 1 [.int .u8 48] rfl (slBlk (n := 1) (c := 1) (heap_alloc_new w1 _) rfl (by unfold maxLen; omega)) (one_cell _) (by unfold maxLen; omega) (by omega) (by have h1 := HF1.out.bel.size; have h2 := HF1.out.low; simp; omega) ?_; intro A8 c8 w8 ho8 hg8 ha8
                     have hFI := HF1.out.next ho8 hg8 ha8
                     have HFI := Lib.hid hFI
                     clear ho8 hg8 ha8 hFI)
        go_meet
        have hfin : ipL S dp = [48] := by unfold ipL; rw [if_neg (by omega)]
        rw [hfin]
        exact ⟨A8, c8, by rw [List.length_append]; rfl, HFI.out⟩
--]
    case rest =>
      obtain ⟨A2, c2, rfl, hF2⟩ := hcut
      rename World => w2
      obtain ⟨l2, hl2⟩ : ∃ l2, l2 = l1 ++ ipL S dp := ⟨_, rfl⟩
      have hll2 : l2.length ≤ 600 := by
        rw [hl2, List.length_append]
        unfold ipL
        split
        · rw [List.length_append, List.length_take, List.length_replicate]; omega
        · simp; omega
      rw [← hl2] at hF2 ⊢
      have HF2 := Lib.hid hF2
      have HL2 := Lib.hid hl2
      clear hF2 hl2
      by_cases hd : dp < (n : Int)
      · have hpI : 0 < prec := by have := HP.out; omega
        obtain ⟨lz, hlz⟩ : ∃ lz : Nat, lz = (-dp).toNat := ⟨_, rfl⟩
        obtain ⟨off, hoff⟩ : ∃ off : Nat, off = dp.toNat := ⟨_, rfl⟩
        obtain ⟨m2, hm2⟩ : ∃ m2 : Nat, m2 = n - off := ⟨_, rfl⟩
        have e1 : max 0 (-dp) = (lz : Int) := by omega
        have e2 : min prec (lz : Int) = (lz : Int) := by have := HP.out; omega
        have e3 : dp + (lz : Int) = (off : Int) := by omega
        have e4 : max 0 ((n : Int) - (off : Int)) = (m2 : Int) := by omega
        have e5 : prec - (lz : Int) = (m2 : Int) := by have := HP.out; omega
        have hb5 : lz ≤ 450 ∧ off ≤ 20 ∧ m2 ≤ 20 ∧ off + m2 ≤ n := by omega
        have HLZ := Lib.hid hlz
        have HOFF := Lib.hid hoff
        have HM2 := Lib.hid hm2
        clear hlz hoff hm2
        go_wp2_with (at_builtin; refine wpList_append_sl _ rfl (.tmp 214) (.tmp 215) 52 rfl base 5 i1 _ 1 1 Tryd.underlying52 hi1 hz11 hz12 hz13 rfl (by decide) (.slice A2 l2.length c2) l2.length (BY l2) rfl (HF2.out.own.alloc (.cells #[.int .u8 46] 5)) (w2.alloc (.cells #[.int .u8 46] 5)).heap.size (some ⟨w2.heap.size, 0, none⟩) 1 1 [.int .u8 46] rfl (slBlk (n := 1) (c := 1) (heap_alloc_new w2 _) rfl (by unfold maxLen; omega)) (one_cell _) (by unfold maxLen; omega) (by omega) (by have h1 := HF2.out.bel.size; have h2 := HF2.out.low; simp; omega) ?_; intro A8 c8 w8 ho8 hg8 ha8
                     have hFI := HF2.out.next ho8 hg8 ha8
                     have HFI := Lib.hid hFI
                     clear ho8 hg8 ha8 hFI)
        obtain ⟨l3, hl3⟩ : ∃ l3, l3 = l2 ++ [46] := ⟨_, rfl⟩
        have HL3 := Lib.hid hl3
        have HF3 := Lib.hid (show FI base B w A8 c8 l3 w8 by rw [hl3]; exact HFI.out)
        have hl3e : l3.length = l2.length + 1 := by rw [hl3, List.length_append]; rfl
        rw [← hl3e]
        have hl3l : l3.length ≤ 700 := by omega
        clear hl3 hl3e
        go_loopg [0, 240] lz (fun q v ci wr => ∃ (i : Nat) (A : Option Addr) (c : Nat), i + q = lz ∧ ci = .int .i64 (i : Nat) ∧ v = .slice A (l3 ++ List.replicate i 48).length c ∧ FI base B w A c (l3 ++ List.replicate i 48) wr)
        case atStart => exact ⟨0, A8, c8, by omega, by go_num, by simp, by simpa using HF3.out⟩
        case round =>
          obtain ⟨i, A4, c4, hi', rfl, rfl, hF4⟩ := hrel
          have HIL := Lib.hid hi'
          have him : i ≤ lz := by omega
          obtain ⟨L, hL⟩ : ∃ L, L = l3 ++ List.replicate i 48 := ⟨_, rfl⟩
          have hLl : L.length ≤ 1200 := by rw [hL, List.length_append, List.length_replicate]; omega
          rw [← hL] at hF4 ⊢
          have HL := Lib.hid hL
          have HF4 := Lib.hid hF4
          clear hF4 hL hi'
          by_cases hlt : i < lz
          · have hltI : (i : Int) < (lz : Int) := by omega
            go_wp2_with (at_builtin; refine wpList_append_sl _ rfl (.tmp 242) (.tmp 243) 52 rfl base 5 i1 _ 1 1 Tryd.underlying52 hi1 hz11 hz12 hz13 rfl (by decide) (.slice A4 L.length c4) L.length (BY L) rfl (HF4.out.own.alloc (.cells #[.int .u8 48] 5)) (wr.alloc (.cells #[.int .u8 48] 5)).heap.size (some ⟨wr.heap.size, 0, none⟩) 1 1 [.int .u8 48] rfl (slBlk (n := 1) (c := 1) (heap_alloc_new wr _) rfl (by unfold maxLen; omega)) (one_cell _) (by unfold maxLen; omega) (by omega) (by have h1 := HF4.out.bel.size; have h2 := HF4.out.low; simp; omega) ?_; intro A8 c8 w8 ho8 hg8 ha8
                         have hFI := HF4.out.next ho8 hg8 ha8
                         have HFI := Lib.hid hFI
                         clear ho8 hg8 ha8 hFI)
            go_roundg (lz - (i + 1))
            case measure => have := HIL.out; omega
            case rel =>
              have htk : l3 ++ List.replicate (i + 1) 48 = L ++ [48] := by rw [HL.out, List.replicate_succ', List.append_assoc]
              refine ⟨i + 1, A8, c8, by omega, by go_num, ?_, ?_⟩
              · rw [htk, List.length_append]; rfl
              · rw [htk]; exact HFI.out
          · obtain rfl : i = lz := by omega
            have hltI : (i : Int) ≤ (i : Int) := Int.le_refl _
            go_wp2_with fail
            go_loopg [0, 247] m2 (fun q v ci wx => ∃ (j : Nat) (A : Option Addr) (c : Nat), j + q = m2 ∧ ci = .int .i64 (j : Nat) ∧ v = .slice A (L ++ (S.drop off).take j).length c ∧ FI base B w A c (L ++ (S.drop off).take j) wx)
            case atStart => exact ⟨0, A4, c4, by omega, by go_num, by simp, by simpa using HF4.out⟩
            case round =>
              obtain ⟨j, A5, c5, hj', rfl, rfl, hF5⟩ := hrel
              have HJL := Lib.hid hj'
              have hjk : j ≤ m2 := by omega
              obtain ⟨L5, hL5⟩ : ∃ L5, L5 = L ++ (S.drop off).take j := ⟨_, rfl⟩
              have hL5l : L5.length ≤ 1300 := by rw [hL5, List.length_append, List.length_take]; omega
              rw [← hL5] at hF5 ⊢
              have HL5 := Lib.hid hL5
              have HF5 := Lib.hid hF5
              clear hF5 hL5 hj'
              by_cases hlt : j < m2
              · have hltI : (j : Int) < (m2 : Int) := by omega
                obtain ⟨x, hx⟩ : ∃ x, x = S.getD (off + j) 0 := ⟨_, rfl⟩
                have hc : wr.cell? ⟨B, off + j, none⟩ = some (.int .u8 (x : Nat)) := by rw [hx]; exact (HF5.out.cell (off + j)).trans (HB.out (off + j) (by omega))
                have HX := Lib.hid hx
                have hoj2 : (off : Int) + (j : Int) < 32 := by omega
                clear hx
                go_wp2_with (at_builtin; refine wpList_append_sl _ rfl (.tmp 250) (.tmp 257) 52 rfl base 5 i1 _ 1 1 Tryd.underlying52 hi1 hz11 hz12 hz13 rfl (by decide) (.slice A5 L5.length c5) L5.length (BY L5) rfl (HF5.out.own.alloc (.cells #[.int .u8 (x : Nat)] 5)) (wr.alloc (.cells #[.int .u8 (x : Nat)] 5)).heap.size (some ⟨wr.heap.size, 0, none⟩) 1 1 [.int .u8 (x : Nat)] rfl (slBlk (n := 1) (c := 1) (heap_alloc_new wr _) rfl (by unfold maxLen; omega)) (one_cell _) (by unfold maxLen; omega) (by omega) (by have h1 := HF5.out.bel.size; have h2 := HF5.out.low; simp; omega) ?_; intro A8 c8 w8 ho8 hg8 ha8
                             have hFI := HF5.out.next ho8 hg8 ha8
                             have HFI := Lib.hid hFI
                             clear ho8 hg8 ha8 hFI)
                go_roundg (m2 - (j + 1))
                case measure => have := HJL.out; omega
                case rel =>
                  have htk : L ++ (S.drop off).take (j + 1) = L5 ++ [x] := by
                    rw [HL5.out, HX.out, take_one L (S.drop off) (by rw [List.length_drop, ← HN.out]; omega)]
                    simp [List.getD_eq_getElem?_getD]
                  refine ⟨j + 1, A8, c8, by omega, by go_num, ?_, ?_⟩
                  · rw [htk, List.length_append]; rfl
                  · rw [htk]; exact HFI.out
              · obtain rfl : j = m2 := by omega
                have hltI : (j : Int) ≤ (j : Int) := Int.le_refl _
                go_wp2_with fail
                go_loopg [0, 261] 0 (fun q v ci wx => ci = .int .i64 0 ∧ v = .slice A5 L5.length c5 ∧ FI base B w A5 c5 L5 wx)
                case atStart => exact ⟨by go_num, rfl, HF5.out⟩
                case round =>
                  obtain ⟨rfl, rfl, hF6⟩ := hrel
                  have HF6 := Lib.hid hF6
                  clear hF6
                  go_wp2_with fail
                  refine bodyPost_ret (v := .slice A5 L5.length c5) (by simp [results, go_sem]) rfl ?_
                  have hfin : sgL neg ++ (ipL S dp ++ fpL S dp) = L5 := by
                    rw [HL5.out, HL.out, HL3.out, HL2.out, HL1.out]
                    unfold fpL
                    rw [if_pos (by rw [← HN.out]; exact hd), ← HLZ.out, ← HOFF.out, List.take_of_length_le (show (S.drop off).length ≤ j by rw [List.length_drop, ← HN.out]; have := HM2.out; omega)]
                    simp
                  first | rw [hfin] | rw [← List.append_assoc] at hfin; rw [hfin]
                  exact ⟨A5, c5, rfl, HF6.out.own, HF6.out.bel⟩
      · have hpI : ¬ 0 < prec := by have := HP.out; omega
        have hpI2 : prec ≤ 0 := by omega
        go_wp2_with fail
        refine bodyPost_ret (v := .slice A2 l2.length c2) (by simp [results, go_sem]) rfl ?_
        have hfin : sgL neg ++ (ipL S dp ++ fpL S dp) = l2 := by
          rw [HL2.out, HL1.out]
          unfold fpL
          rw [if_neg (by rw [← HN.out]; omega)]
          simp
        first | rw [hfin] | rw [← List.append_assoc] at hfin; rw [hfin]
        exact ⟨A2, c2, rfl, HF2.out.own, HF2.out.bel⟩
end Go.Proofs.YtpfgdfgifdbijaaDoor.ff
