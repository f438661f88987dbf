/-
  Bulk loading: the walk of bulkInsert.
-/
import Derived.Test.YtflaklceejokhaaDoorTreeM
import Derived.Test.YtflaklceejokhaaDoorTreeJ
namespace Go.Proofs.YtflaklceejokhaaDoor.tree
open Go.ChangeShapes Go.WideShapes Go.ChangeAt Go.RowKit
open Go.Proofs.YtflaklceejokhaaDoor.mem Go.Proofs.YtflaklceejokhaaDoor.flt Ieee
set_option linter.unusedVariables false
set_option linter.unusedSimpArgs false

/-- Where the parts of n items begin. -/
def offP (n : Nat) : Nat → Nat
  | 0 => 0
  | 1 => if n ≤ 8 then n / 2 else n / 2 / 2
  | 2 => if n ≤ 8 then n else n / 2
  | 3 => n / 2 + (n - n / 2) / 2
  | _ => n
def nsP (n i : Nat) : Nat := offP n (i + 1) - offP n i
def cntP (n : Nat) : Nat := if n ≤ 8 then 2 else 4
/-- The items as they lie when the parts are made. -/
def preF (n : Nat) (f : Nat → It) : Nat → It :=
  if n ≤ 8 then splitF n f else fun i => if i < n / 2 then splitF (n / 2) (splitF n f) i else splitF (n - n / 2) (fun j => splitF n f (n / 2 + j)) (i - n / 2)

/-- The node that bulk loading makes of n items. -/
def bq : Nat → Nat → (Nat → It) → Nat × (Nat → Q)
  | 0, n, f => (n, fun i => .item (f i))
  | u + 1, n, f =>
    if n ≤ 4 then (n, fun i => .item (f i))
    else (cntP n, fun j => .sub (bq u (nsP n j) (fun x => preF n f (offP n j + x))).1 (bq u (nsP n j) (fun x => preF n f (offP n j + x))).2)

theorem offP_ord (n : Nat) (hn : 5 ≤ n) {a b : Nat} (hab : a < b) (hb : b < cntP n) : offP n a + nsP n a ≤ offP n b := by
  unfold nsP
  unfold cntP at hb
  by_cases h8 : n ≤ 8
  · rw [if_pos h8] at hb
    obtain rfl : a = 0 := by omega
    obtain rfl : b = 1 := by omega
    simp [offP, h8]
  · rw [if_neg h8] at hb
    obtain ⟨rfl, rfl⟩ | ⟨rfl, rfl⟩ | ⟨rfl, rfl⟩ | ⟨rfl, rfl⟩ | ⟨rfl, rfl⟩ | ⟨rfl, rfl⟩ : (a = 0 ∧ b = 1) ∨ (a = 0 ∧ b = 2) ∨ (a = 0 ∧ b = 3) ∨ (a = 1 ∧ b = 2) ∨ (a = 1 ∧ b = 3) ∨ (a = 2 ∧ b = 3) := by omega
    all_goals (simp [offP, h8]; try omega)
theorem offP_fit (n : Nat) (hn : 5 ≤ n) {a : Nat} (ha : a < cntP n) : offP n a + nsP n a ≤ n ∧ 1 ≤ nsP n a ∧ nsP n a < n := by
  unfold nsP
  unfold cntP at ha
  by_cases h8 : n ≤ 8
  · rw [if_pos h8] at ha
    obtain rfl | rfl : a = 0 ∨ a = 1 := by omega
    all_goals (simp [offP, h8]; try omega)
  · rw [if_neg h8] at ha
    obtain rfl | rfl | rfl | rfl : a = 0 ∨ a = 1 ∨ a = 2 ∨ a = 3 := by omega
    all_goals (simp [offP, h8]; try omega)

theorem Row.take {w : World} {g off n : Nat} {f : Nat → It} (h : Row w g off n f) {k : Nat} (hk : k ≤ n) : Row w g off k f := ⟨h.1, fun i hi c hc => h.2 i (by omega) c hc⟩
theorem Row.join {w : World} {g off n H : Nat} {A B : Nat → It} (h : Row w g off H A) (k : Row w g (off + H * 5) (n - H) B) : Row w g off n (fun i => if i < H then A i else B (i - H)) := by
  refine ⟨h.1, fun i hi c hc => ?_⟩
  by_cases e : i < H
  · simp only [e, if_true]; exact h.2 i e c hc
  · simp only [e, if_false]
    have := k.2 (i - H) (by omega) c hc
    rw [show off + H * 5 + (i - H) * 5 + c = off + i * 5 + c by omega] at this
    exact this

theorem split_z (g off n c H M c1 : Nat) (f : Nat → It) (hH : H = n / 2) (hM : M = n - H) (hc1 : c1 = c - H) (hn : 2 ≤ n) (hn2 : n ≤ 400) (hc : n ≤ c) (hG : ∀ i, i < n → Gd (f i).b) (w : World) (hRow : Row w g off n f) :
    Calls Tryd.prog 33 #[.slice (some ⟨g, off, none⟩) n c] w fun e w' =>
      e = .returned (.tuple #[.slice (some ⟨g, off, none⟩) H c, .slice (some ⟨g, off + H * 5, none⟩) M c1]) ∧ Row w' g off n (splitF n f) ∧ (∀ i, i < n → Gd (splitF n f i).b) ∧ Chg g off n w w' := by
  subst hM hc1 hH
  exact split_calls g off n c f hn hn2 hc hG w hRow

/-- bulkInsert of fewer than n items. -/
def Ins (u : Nat) : Prop := ∀ (n g off c : Nat) (f : Nat → It), 1 ≤ n → n ≤ u → n ≤ 400 → n ≤ c → (∀ i, i < n → Gd (f i).b) → ∀ w, Row w g off n f →
  Calls Tryd.prog 24 #[.slice (some ⟨g, off, none⟩) n c] w (IPost w g off n (bq u n f))

/-- bulkNode, where the parts lie in a new block. -/
theorem node_of {u : Nat} (hI : Ins u) (g off n c m : Nat) (f : Nat → It) (hm : m = cntP n) (hn : 5 ≤ n) (hnu : n ≤ u + 1) (hn2 : n ≤ 400) (hc : n ≤ c) (G : Nat → It) (hGe : G = preF n f) (hG : ∀ i, i < n → Gd (G i).b) (w w1 : World) (hR : Row w1 g off n G) (hC : Chg g off n w w1) (hgw : g < w.heap.size)
    (t : TypeId) (cs : Array Value) (hcs : ∀ i, i < m → cs[i]? = some (.slice (some ⟨g, off + offP n i * 5, none⟩) (nsP n i) (c - offP n i))) (cap : Nat) :
    Calls Tryd.prog 34 #[.slice (some ⟨w1.heap.size, 0, none⟩) m cap] (w1.alloc (.cells cs t)) (IPost w g off n (bq (u + 1) n f)) := by
  have hb : Below w1.heap.size w1 (w1.alloc (.cells cs t)) := (Below.refl _ _).alloc (Nat.le_refl _) _
  have hRA := hR.below hb
  have hm1 : m ≤ 4 := by rw [hm]; unfold cntP; split <;> omega
  have hm2 : 1 ≤ m := by rw [hm]; unfold cntP; split <;> omega
  have hs : (w1.alloc (.cells cs t)).heap.size = w1.heap.size + 1 := by simp
  have hsz := hC.1.size
  refine (bnode_calls g off n m w1.heap.size cap G (offP n) (nsP n) (fun i => c - offP n i) (fun j => bq u (nsP n j) (fun x => G (offP n j + x))) hm2 hm1 (fun j hj => (offP_fit n hn (by omega)).1) (fun a b hab hb => offP_ord n hn hab (by omega))
    (fun i hi w' hr' => ?_) (w1.alloc (.cells cs t)) (by omega) (by omega) (by omega) (fun i hi => ?_) (fun j hj => hRA.part (offP n j) (nsP n j) (offP_fit n hn (by omega)).1)).mono ?_
  · have hf := offP_fit n hn (a := i) (by omega)
    exact hI (nsP n i) g (off + offP n i * 5) (c - offP n i) _ hf.2.1 (by omega) (by omega) (by omega) (fun x hx => hG _ (by omega)) w' hr'
  · rw [(Blk.new w1 t cs).cell i]
    exact hcs i hi
  · rintro e w2 ⟨r, he, hn2', hc2⟩
    refine ⟨r, he, ?_, (hC.trans (Chg.of_below (by omega) hb)).trans hc2⟩
    have e1 : bq (u + 1) n f = (m, fun j => Q.sub (bq u (nsP n j) (fun x => G (offP n j + x))).1 (bq u (nsP n j) (fun x => G (offP n j + x))).2) := by
      rw [hGe, hm]
      show (if n ≤ 4 then _ else _) = _
      rw [if_neg (by omega)]
    rw [e1]
    exact hn2'.more (by omega)

set_option maxRecDepth 100000 in
set_option maxHeartbeats 8000000 in
theorem bulk2_calls {u : Nat} (hI : Ins u) (g off n c : Nat) (f : Nat → It) (hn : 5 ≤ n) (hn8 : n ≤ 8) (hnu : n ≤ u + 1) (hc : n ≤ c) (hG : ∀ i, i < n → Gd (f i).b) (w : World) (hR : Row w g off n f) :
    Calls Tryd.prog 24 #[.slice (some ⟨g, off, none⟩) n c] w (IPost w g off n (bq (u + 1) n f)) := by
  obtain ⟨H, hH⟩ : ∃ H, H = n / 2 := ⟨_, rfl⟩
  obtain ⟨M, hM⟩ : ∃ M, M = n - H := ⟨_, rfl⟩
  obtain ⟨c1, hc1⟩ : ∃ c1, c1 = c - H := ⟨_, rfl⟩
  have HH := Lib.hid hH
  have HM := Lib.hid hM
  have HC1 := Lib.hid hc1
  have HI := Lib.hid hI
  have HG := Lib.hid hG
  have HR := Lib.hid hR
  have hgw := hR.1
  have t0 : ((n : Int) == 0) = false := by simp; omega
  have t4 : (4 : Int) < (n : Int) := by omega
  have t8 : (n : Int) ≤ 8 := by omega
  clear hH hM hc1 hI hG hR
  go_enter Tryd.func24, Tryd.ntmps24
  go_wp2_with fail
  refine (split_z g off n c H M c1 f HH.out HM.out HC1.out (by omega) (by omega) hc HG.out w HR.out).mono ?_
  rintro e w1 ⟨rfl, hr1, hg1, hch1⟩
  have HR1 := Lib.hid hr1
  have HG1 := Lib.hid hg1
  have HCH := Lib.hid hch1
  clear hr1 hg1 hch1
  go_wp2_with fail
  have e2 : (2 : Nat) = cntP n := by unfold cntP; rw [if_pos hn8]
  refine (node_of HI.out g off n c 2 f e2 hn hnu (by omega) hc (splitF n f) (by unfold preF; rw [if_pos hn8]) HG1.out w w1 HR1.out HCH.out hgw _ _ ?_ 2).mono ?_
  · intro i hi
    have h1 := HH.out
    have h2 := HM.out
    have h3 := HC1.out
    obtain rfl | rfl : i = 0 ∨ i = 1 := by omega
    · simp [offP, nsP, hn8, h1]
    · simp [offP, nsP, hn8, h1, h2, h3]
  · rintro e w2 ⟨r, rfl, h1, h2⟩
    go_wp2_with fail
    exact bodyPost_ret (v := .pointer (some ⟨r, 0, none⟩)) (by simp [results, Tryd.results24, go_sem]) rfl ⟨r, rfl, h1, h2⟩

set_option maxRecDepth 100000 in
set_option maxHeartbeats 8000000 in
theorem bulk4_calls {u : Nat} (hI : Ins u) (g off n c : Nat) (f : Nat → It) (hn9 : 9 ≤ n) (hnu : n ≤ u + 1) (hn2 : n ≤ 400) (hc : n ≤ c) (hG : ∀ i, i < n → Gd (f i).b) (w : World) (hR : Row w g off n f) :
    Calls Tryd.prog 24 #[.slice (some ⟨g, off, none⟩) n c] w (IPost w g off n (bq (u + 1) n f)) := by
  obtain ⟨H, hH⟩ : ∃ H, H = n / 2 := ⟨_, rfl⟩
  obtain ⟨M, hM⟩ : ∃ M, M = n - H := ⟨_, rfl⟩
  obtain ⟨c1, hc1⟩ : ∃ c1, c1 = c - H := ⟨_, rfl⟩
  obtain ⟨H1, hH1⟩ : ∃ H1, H1 = H / 2 := ⟨_, rfl⟩
  obtain ⟨M1, hM1⟩ : ∃ M1, M1 = H - H1 := ⟨_, rfl⟩
  obtain ⟨c2, hc2⟩ : ∃ c2, c2 = c - H1 := ⟨_, rfl⟩
  obtain ⟨H2, hH2⟩ : ∃ H2, H2 = M / 2 := ⟨_, rfl⟩
  obtain ⟨M2, hM2⟩ : ∃ M2, M2 = M - H2 := ⟨_, rfl⟩
  obtain ⟨c3, hc3⟩ : ∃ c3, c3 = c1 - H2 := ⟨_, rfl⟩
  have x1 : 2 ≤ H ∧ H ≤ 400 ∧ H ≤ c ∧ H ≤ n := by omega
  have x2 : 2 ≤ M ∧ M ≤ 400 ∧ M ≤ c1 := by omega
  have HH := Lib.hid hH
  have HM := Lib.hid hM
  have HC1 := Lib.hid hc1
  have HH1 := Lib.hid hH1
  have HM1 := Lib.hid hM1
  have HC2 := Lib.hid hc2
  have HH2 := Lib.hid hH2
  have HM2 := Lib.hid hM2
  have HC3 := Lib.hid hc3
  have X1 := Lib.hid x1
  have X2 := Lib.hid x2
  have HI := Lib.hid hI
  have HG := Lib.hid hG
  have HR := Lib.hid hR
  have hgw := hR.1
  have t0 : ((n : Int) == 0) = false := by simp; omega
  have t4 : (4 : Int) < (n : Int) := by omega
  have t8 : (8 : Int) < (n : Int) := by omega
  clear hH hM hc1 hH1 hM1 hc2 hH2 hM2 hc3 x1 x2 hI hG hR
  go_enter Tryd.func24, Tryd.ntmps24
  go_wp2_with fail
  refine (split_z g off n c H M c1 f HH.out HM.out HC1.out (by omega) (by omega) hc HG.out w HR.out).mono ?_
  rintro e w1 ⟨rfl, hr1, hg1, hch1⟩
  have HR1 := Lib.hid hr1
  have HG1 := Lib.hid hg1
  have HCH := Lib.hid hch1
  clear hr1 hg1 hch1
  go_wp2_with fail
  refine (split_z g off H c H1 M1 c2 (splitF n f) HH1.out HM1.out HC2.out X1.out.1 X1.out.2.1 X1.out.2.2.1 (fun i hi => HG1.out i (by have := X1.out; omega)) w1 (HR1.out.take X1.out.2.2.2)).mono ?_
  rintro e w2 ⟨rfl, hr2, hg2, hch2⟩
  have hs2 : Row w2 g (off + H * 5) M (fun j => splitF n f (H + j)) := (HR1.out.part H M (by have := HM.out; have := X1.out; omega)).chg hch2 (.inr (by omega))
  have HR2 := Lib.hid hr2
  have HG2 := Lib.hid hg2
  have HS2 := Lib.hid hs2
  have HCH2 := Lib.hid (HCH.out.trans (hch2.wide (Nat.le_refl _) (by have := X1.out; omega)))
  clear hr2 hg2 hch2 hs2
  go_wp2_with fail
  refine (split_z g (off + H * 5) M c1 H2 M2 c3 (fun j => splitF n f (H + j)) HH2.out HM2.out HC3.out X2.out.1 X2.out.2.1 X2.out.2.2 (fun i hi => HG1.out _ (by have := HM.out; have := X1.out; omega)) w2 HS2.out).mono ?_
  rintro e w3 ⟨rfl, hr3, hg3, hch3⟩
  have hj := (HR2.out.chg hch3 (.inl (Nat.le_refl _))).join (n := n) (by rw [← HM.out]; exact hr3)
  have HJ := Lib.hid hj
  have HG3 := Lib.hid hg3
  have HCH3 := Lib.hid (HCH2.out.trans (hch3.wide (by omega) (by have := HM.out; have := X1.out; omega)))
  clear hr3 hg3 hch3 hj
  go_wp2_with fail
  have h8 : ¬ n ≤ 8 := by omega
  have e2 : (4 : Nat) = cntP n := by unfold cntP; rw [if_neg h8]
  refine (node_of HI.out g off n c 4 f e2 (by omega) hnu (by omega) hc _ (by unfold preF; rw [if_neg h8, ← HH.out, ← HM.out]) ?_ w w3 HJ.out HCH3.out hgw _ _ ?_ 4).mono ?_
  · intro i hi
    by_cases e : i < H
    · simp only [e, if_true]; exact HG2.out i e
    · simp only [e, if_false]; exact HG3.out _ (by have := HM.out; omega)
  · intro i hi
    have h1 := HH.out
    have h2 := HM.out
    have h3 := HC1.out
    have h4 := HH1.out
    have h5 := HM1.out
    have h6 := HC2.out
    have h7 := HH2.out
    have h8' := HM2.out
    have h9 := HC3.out
    have a1 : off + (H + H2) * 5 = off + H * 5 + H2 * 5 := by omega
    have a2 : c - (H + H2) = c1 - H2 := by omega
    have a3 : n - (H + H2) = M - H2 := by omega
    have a4 : H + H2 - H = H2 := by omega
    obtain rfl | rfl | rfl | rfl : i = 0 ∨ i = 1 ∨ i = 2 ∨ i = 3 := by omega
    · simp [offP, nsP, h8, ← h1, ← h4]
    · simp [offP, nsP, h8, ← h1, ← h4, h5, h6]
    · simp [offP, nsP, h8, ← h1, ← h2, ← h3, ← h7, a4]
    · simp [offP, nsP, h8, ← h1, ← h2, ← h3, ← h7, a1, a2, a3, h8', h9]
  · rintro e w4 ⟨r, rfl, h1, h2⟩
    go_wp2_with fail
    exact bodyPost_ret (v := .pointer (some ⟨r, 0, none⟩)) (by simp [results, Tryd.results24, go_sem]) rfl ⟨r, rfl, h1, h2⟩

theorem bulk_calls : ∀ u, Ins u := by
  intro u
  induction u with
  | zero => intro n g off c f h1 h2; omega
  | succ u ih =>
    intro n g off c f h1 h2 h3 h4 h5 w hR
    by_cases e4 : n ≤ 4
    · have e1 : bq (u + 1) n f = (n, fun i => .item (f i)) := by
        show (if n ≤ 4 then _ else _) = _
        rw [if_pos e4]
      rw [e1]
      exact leaf_calls g off n c f h1 e4 w hR
    · by_cases e8 : n ≤ 8
      · exact bulk2_calls ih g off n c f (by omega) e8 h2 h4 h5 w hR
      · exact bulk4_calls ih g off n c f (by omega) h2 h3 h4 h5 w hR
end Go.Proofs.YtflaklceejokhaaDoor.tree
