/-
  A search through a box: the walk of RangeSearch.
-/
import Derived.Test.YtflaklceejokhaaDoorTreeY
namespace Go.Proofs.YtflaklceejokhaaDoor.tree
open Go.ChangeShapes Go.WideShapes Go.ChangeAt Go.RowKit
open Go.Proofs.YtflaklceejokhaaDoor.mem Go.Proofs.YtflaklceejokhaaDoor.flt Ieee
set_option linter.unusedVariables false
set_option linter.unusedSimpArgs false

/-- A tree of n items lies in block t. -/
structure RT (L : Nat) (w : World) (t n : Nat) (K : Nat × (Nat → Q)) : Prop where
  lt : t < w.heap.size
  ge : L ≤ t
  cnt : w.cell? ⟨t, 1, none⟩ = some (.int .i64 n)
  root : (n = 0 ∧ w.cell? ⟨t, 0, none⟩ = some (.pointer none)) ∨ (0 < n ∧ ∃ c, w.cell? ⟨t, 0, none⟩ = some (.pointer (some ⟨c, 0, none⟩)) ∧ NodeAt w L c K.1 K.2 ∧ (Q.sub K.1 K.2).Ok ∧ (Q.sub K.1 K.2).cnt ≤ 1000)

theorem RT.keep {L : Nat} {w w' : World} {t n : Nat} {K : Nat × (Nat → Q)} (h : RT L w t n K) (k : Keep L w w') : RT L w' t n K := by
  refine ⟨Nat.lt_of_lt_of_le h.lt k.1, h.ge, (k.cell h.ge h.lt).trans h.cnt, ?_⟩
  rcases h.root with ⟨h1, h2⟩ | ⟨h1, c, h2, h3, h4⟩
  · exact .inl ⟨h1, (k.cell h.ge h.lt).trans h2⟩
  · exact .inr ⟨h1, c, (k.cell h.ge h.lt).trans h2, h3.keep k, h4⟩

/-- What a search through a box notes, and its error. -/
def rsF (n : Nat) (K : Nat × (Nat → Q)) (ans : List Int → Er) (b : Bx) : List Int × Er := if n = 0 then ([], .none) else loopV (fun i => visit ans b (K.2 i)) K.1 0 []

def SePost (w : World) (S : Addr) (St : World → List Int → (Nat → Prop) → Prop) (F : Nat → Prop) (R : List Int × Er) (e : Ending) (w' : World) : Prop :=
  e = .returned (R.2.v S) ∧ ∃ F', St w' R.1 F' ∧ Fr F w w' ∧ ∀ b, F' b → F b ∨ w.heap.size ≤ b

set_option maxRecDepth 100000 in
set_option maxHeartbeats 8000000 in
theorem range_calls {L fn t n : Nat} {K : Nat × (Nat → Q)} {p1 p2 : Value} {S : Addr} {ans : List Int → Er} {St : World → List Int → (Nat → Prop) → Prop} {w0 w : World} {b : Bx} {F : Nat → Prop} (C : Cb w0.heap.size fn p1 p2 S ans St) (hT : RT L w0 t n K) (hk : Keep L w0 w) (hst : St w [] F) :
    Calls Tryd.prog 19 #[.pointer (some ⟨t, 0, none⟩), .agg (bxA b), .func (.func fn) #[] #[p1, p2]] w (SePost w S St F (rsF n K ans b)) := by
  have HT := Lib.hid hT
  have HK := Lib.hid hk
  have HST := Lib.hid hst
  have CC := Lib.hid C
  have hsz := hk.1
  have htl : t < w.heap.size := Nat.lt_of_lt_of_le hT.lt hsz
  rcases hT.root with ⟨hn, h0⟩ | ⟨hn, c, h0, hN, hO, hcnt⟩
  · have c0 := (hk.cell (o := 0) hT.ge hT.lt).trans h0
    have hR : rsF n K ans b = ([], .none) := by unfold rsF; rw [if_pos hn]
    rw [hR]
    unfold bxA
    have hb : Below w.heap.size w ((w.alloc (.cells #[.float .f64 b.x0, .float .f64 b.y0, .float .f64 b.x1, .float .f64 b.y1] 52)).alloc (.cells #[.func (.func fn) #[] #[p1, p2]] 63)) := ((Below.refl _ _).alloc (Nat.le_refl _) _).alloc (by simp) _
    have HB := Lib.hid hb
    clear hT hk hst C h0 hR hb
    go_enter Tryd.func19, Tryd.ntmps19
    go_wp2_with fail
    refine bodyPost_ret (v := .nilIface) (by simp [results, Tryd.results19, go_sem]) rfl ⟨rfl, F, CC.out.keep w _ [] F (fun _ => False) HST.out (Fr.of_below HB.out) (fun _ h => h.elim) (fun _ _ h => h), (Fr.of_below (F := fun _ => False) HB.out).mono (fun _ _ h => h.elim), fun _ h => .inl h⟩
  · have c0 := (hk.cell (o := 0) hT.ge hT.lt).trans h0
    have HN := Lib.hid hN
    obtain ⟨R, hR⟩ : ∃ R, R = rsF n K ans b := ⟨_, rfl⟩
    have hR2 : loopV (fun i => visit ans b (K.2 i)) K.1 0 [] = R := by rw [hR]; unfold rsF; rw [if_neg (by omega)]
    rw [← hR]
    have HR2 := Lib.hid hR2
    have hcall := rec_calls (L := L) (w0 := w0) (r := w.heap.size) (b := b) C (.sub K.1 K.2) K.1 K.2 rfl c
    have HCALL := Lib.hid hcall
    have hc2 : ([] : List Int).length + (Q.sub K.1 K.2).cnt ≤ 100000 := by simp; omega
    have HC2 := Lib.hid hc2
    unfold bxA
    clear hT hk hst C h0 hN hO hcnt hR hR2 hcall hc2
    go_enter Tryd.func19, Tryd.ntmps19
    go_wp2_with fail
    have hb : Below w.heap.size w (((w.alloc (.cells #[.float .f64 b.x0, .float .f64 b.y0, .float .f64 b.x1, .float .f64 b.y1] 52)).alloc (.cells #[.func (.func fn) #[] #[p1, p2]] 63)).alloc (.cells #[.func (.func 25) #[] #[.pointer (some ⟨w.heap.size, 0, none⟩), .pointer (some ⟨w.heap.size + 1, 0, none⟩), .pointer (some ⟨w.heap.size + 1 + 1, 0, none⟩)]] 76)) :=
      (((Below.refl _ _).alloc (Nat.le_refl _) _).alloc (by simp) _).alloc (by simp; omega) _
    have q0 : Blk (((w.alloc (.cells #[.float .f64 b.x0, .float .f64 b.y0, .float .f64 b.x1, .float .f64 b.y1] 52)).alloc (.cells #[.func (.func fn) #[] #[p1, p2]] 63)).alloc (.cells #[.func (.func 25) #[] #[.pointer (some ⟨w.heap.size, 0, none⟩), .pointer (some ⟨w.heap.size + 1, 0, none⟩), .pointer (some ⟨w.heap.size + 1 + 1, 0, none⟩)]] 76)) w.heap.size 52 (bxA b) :=
      ((Blk.new _ _ _).alloc _).alloc _
    have q1 : Blk (((w.alloc (.cells #[.float .f64 b.x0, .float .f64 b.y0, .float .f64 b.x1, .float .f64 b.y1] 52)).alloc (.cells #[.func (.func fn) #[] #[p1, p2]] 63)).alloc (.cells #[.func (.func 25) #[] #[.pointer (some ⟨w.heap.size, 0, none⟩), .pointer (some ⟨w.heap.size + 1, 0, none⟩), .pointer (some ⟨w.heap.size + 1 + 1, 0, none⟩)]] 76)) (w.heap.size + 1) 63 #[.func (.func fn) #[] #[p1, p2]] := by
      refine Blk.alloc ?_ _
      have := Blk.new (w.alloc (.cells #[.float .f64 b.x0, .float .f64 b.y0, .float .f64 b.x1, .float .f64 b.y1] 52)) 63 #[.func (.func fn) #[] #[p1, p2]]
      rw [show (w.alloc (.cells #[.float .f64 b.x0, .float .f64 b.y0, .float .f64 b.x1, .float .f64 b.y1] 52)).heap.size = w.heap.size + 1 by simp] at this
      exact this
    have q2 : Blk (((w.alloc (.cells #[.float .f64 b.x0, .float .f64 b.y0, .float .f64 b.x1, .float .f64 b.y1] 52)).alloc (.cells #[.func (.func fn) #[] #[p1, p2]] 63)).alloc (.cells #[.func (.func 25) #[] #[.pointer (some ⟨w.heap.size, 0, none⟩), .pointer (some ⟨w.heap.size + 1, 0, none⟩), .pointer (some ⟨w.heap.size + 1 + 1, 0, none⟩)]] 76)) (w.heap.size + 2) 76
        #[.func (.func 25) #[] #[.pointer (some ⟨w.heap.size, 0, none⟩), .pointer (some ⟨w.heap.size + 1, 0, none⟩), .pointer (some ⟨w.heap.size + 1 + 1, 0, none⟩)]] := by
      have := Blk.new ((w.alloc (.cells #[.float .f64 b.x0, .float .f64 b.y0, .float .f64 b.x1, .float .f64 b.y1] 52)).alloc (.cells #[.func (.func fn) #[] #[p1, p2]] 63)) 76 #[.func (.func 25) #[] #[.pointer (some ⟨w.heap.size, 0, none⟩), .pointer (some ⟨w.heap.size + 1, 0, none⟩), .pointer (some ⟨w.heap.size + 1 + 1, 0, none⟩)]]
      simpa using this
    obtain ⟨wA, hwA⟩ : ∃ wA, wA = ((w.alloc (.cells #[.float .f64 b.x0, .float .f64 b.y0, .float .f64 b.x1, .float .f64 b.y1] 52)).alloc (.cells #[.func (.func fn) #[] #[p1, p2]] 63)).alloc (.cells #[.func (.func 25) #[] #[.pointer (some ⟨w.heap.size, 0, none⟩), .pointer (some ⟨w.heap.size + 1, 0, none⟩), .pointer (some ⟨w.heap.size + 1 + 1, 0, none⟩)]] 76) := ⟨_, rfl⟩
    rw [← hwA] at hb q0 q1 q2 ⊢
    have hst1 := CC.out.keep w wA [] F (fun _ => False) HST.out (Fr.of_below hb) (fun _ h => h.elim) (fun _ _ h => h)
    have hrs : RS L w0 wA St w.heap.size b (.func (.func fn) #[] #[p1, p2]) [] F := ⟨HK.out.trans (Keep.of_below hb), hst1, q0, q1, q2, hsz, fun x hx => .inl (CC.out.lt w [] F x HST.out hx).2⟩
    have hrsD := hrs.below CC.out (Below.refl _ wA).drew
    have HRSD := Lib.hid hrsD
    have HB := Lib.hid hb
    have y0 := q2.cell 0
    have y1 : wA.cell? ⟨w.heap.size + 1 + 1, 0, none⟩ = some (.func (.func 25) #[] #[.pointer (some ⟨w.heap.size, 0, none⟩), .pointer (some ⟨w.heap.size + 1, 0, none⟩), .pointer (some ⟨w.heap.size + 1 + 1, 0, none⟩)]) := y0
    have y2 : wA.cell? ⟨t, 0, none⟩ = some (.pointer (some ⟨c, 0, none⟩)) := (hb.cell (p := ⟨t, 0, none⟩) htl).trans c0
    clear hb q0 q1 q2 hwA hst1 hrs hrsD y0 c0
    go_still_tail 5, (by kernel_rfl)
    change wpList _ _ _ _ _ wA.drew
    go_wp2_with fail
    refine (HCALL.out _ [] F HN.out HRSD.out HC2.out).mono ?_
    rintro e w2 ⟨rfl, F2, hrs2, hf2, hF2⟩
    rw [HR2.out] at hrs2 ⊢
    have hst2 := hrs2.st
    have hff := (Fr.of_below (F := F) HB.out).trans ((Fr.of_below (F := F) (Below.refl _ wA).drew).trans hf2 (fun _ _ h => h)) (fun _ _ h => h)
    have hs2 := HB.out.size
    have hF2' : ∀ b, F2 b → F b ∨ w.heap.size ≤ b := fun x hx => by
      rcases hF2 x hx with h | h
      · exact .inl h
      · exact .inr (Nat.le_trans hs2 h)
    have HE : Hid (St w2 R.1 F2 ∧ Fr F w w2 ∧ ∀ b, F2 b → F b ∨ w.heap.size ≤ b) := Lib.hid ⟨hst2, hff, hF2'⟩
    clear hst2 hff hF2' hrs2 hf2 hF2 y1 y2
    go_wp2_with fail
    exact bodyPost_ret (v := R.2.v S) (by simp [results, Tryd.results19, go_sem]) rfl ⟨rfl, F2, HE.out⟩
end Go.Proofs.YtflaklceejokhaaDoor.tree
