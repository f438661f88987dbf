/-
  For the laws' walks: the questions as a row, the answers in slices.
-/
import Derived.Test.YtflaklceejokhaaDoorTreeKG
import Derived.Test.YtflaklceejokhaaDoorApp
namespace Go.Proofs.YtflaklceejokhaaDoor.tree
open Go.ChangeShapes Go.WideShapes Go.ChangeAt Go.RowKit
open Go.Proofs.YtflaklceejokhaaDoor.mem Go.Proofs.YtflaklceejokhaaDoor.flt Ieee
set_option linter.unusedVariables false
set_option linter.unusedSimpArgs false

theorem GV.below {w w' : World} {S : Addr} (h : GV w S) (h0 : 0 < w.heap.size) (hb : Below w.heap.size w w') : GV w' S := by
  unfold GV at h ⊢
  exact (hb.cell (p := ⟨0, 0, none⟩) h0).trans h
theorem AskR.below {w w' : World} {A : Option Addr} {m : Nat} {qs : Nat → Ask} (h : AskR w A m qs) (hb : Below w.heap.size w w') : AskR w' A m qs := fun hm => by
  obtain ⟨g, off, e, hg, hc⟩ := h hm
  exact ⟨g, off, e, Nat.lt_of_lt_of_le hg hb.size, fun i hi c u hu => (hb.cell (p := ⟨g, off + i * 7 + c, none⟩) hg).trans (hc i hi c u hu)⟩
/-- The cells of the questions. -/
def askL (qs : Nat → Ask) (m : Nat) : List Value := catF (fun j => (askA (qs j)).toList) m
theorem catF_lenk {α : Type} {g : Nat → List α} {k : Nat} (h : ∀ i, (g i).length = k) : ∀ n, (catF g n).length = n * k
  | 0 => by simp [catF]
  | n + 1 => by
    have := catF_lenk h n
    show (catF g n ++ g n).length = _
    rw [List.length_append, this, h, Nat.succ_mul]
theorem askL_len (qs : Nat → Ask) (m : Nat) : (askL qs m).length = m * 7 := catF_lenk (fun i => by simp [askA]) m
theorem catF_congr {α : Type} {g h : Nat → List α} : ∀ n, (∀ i, i < n → g i = h i) → catF g n = catF h n
  | 0, _ => rfl
  | n + 1, e => by
    show catF g n ++ g n = catF h n ++ h n
    rw [catF_congr n (fun i hi => e i (by omega)), e n (by omega)]
theorem catF_add {α : Type} (g : Nat → List α) (a : Nat) : ∀ b, catF g (a + b) = catF g a ++ catF (fun j => g (a + j)) b
  | 0 => by simp [catF]
  | b + 1 => by
    show catF g (a + b) ++ g (a + b) = _ ++ (catF _ b ++ g (a + b))
    rw [catF_add g a b, List.append_assoc]
/-- The questions, twice. -/
def twice (m : Nat) (qs : Nat → Ask) (i : Nat) : Ask := if i < m then qs i else qs (i - m)
theorem askL_twice (m : Nat) (qs : Nat → Ask) : askL qs m ++ askL qs m = askL (twice m qs) (m + m) := by
  unfold askL
  rw [catF_add]
  congr 1
  · exact catF_congr m fun i hi => by unfold twice; rw [if_pos hi]
  · exact catF_congr m fun i hi => by unfold twice; rw [if_neg (by omega), Nat.add_sub_cancel_left]
theorem ask_one (qs : Nat → Ask) (m : Nat) : ∀ u ∈ askL qs m, u.oneCell' = true := by
  induction m with
  | zero => intro u hu; cases hu
  | succ m ih =>
    intro u hu
    rcases List.mem_append.1 hu with hu | hu
    · exact ih u hu
    · simp [askA] at hu
      rcases hu with rfl | rfl | rfl | rfl | rfl | rfl | rfl <;> rfl
theorem AskR.sl {w : World} {A : Option Addr} {m : Nat} {qs : Nat → Ask} (h : AskR w A m qs) (hm : m ≤ 60) : Sl w w.heap.size A m 7 (askL qs m) := by
  refine ⟨askL_len qs m, by unfold maxLen; omega, fun hn => ?_⟩
  obtain ⟨g, off, e, hg, hc⟩ := h hn
  refine ⟨g, off, e, hg, fun j u hu => ?_⟩
  have hj : j < m * 7 := by
    rcases Nat.lt_or_ge j (m * 7) with h | h
    · exact h
    · rw [List.getElem?_eq_none (by rw [askL_len]; exact h)] at hu; cases hu
  have e1 : j = j / 7 * 7 + j % 7 := by omega
  rw [e1] at hu ⊢
  unfold askL at hu
  rw [catF_get (fun i => by simp [askA]) m (j / 7) (j % 7) (by omega) (by omega)] at hu
  rw [← Nat.add_assoc]
  exact hc (j / 7) (by omega) (j % 7) u (by simpa using hu)
theorem AskR.of_sl {w : World} {B : Nat} {A : Option Addr} {m : Nat} {qs : Nat → Ask} (h : Sl w B A m 7 (askL qs m)) (hB : B ≤ w.heap.size) : AskR w A m qs := fun hm => by
  obtain ⟨g, off, e, hg, hc⟩ := h.2.2 hm
  refine ⟨g, off, e, by omega, fun i hi c u hu => ?_⟩
  rw [Nat.add_assoc]
  refine hc (i * 7 + c) u ?_
  have hc7 : c < 7 := by
    rcases Nat.lt_or_ge c 7 with h | h
    · exact h
    · rw [Array.getElem?_eq_none (by simp [askA]; exact h)] at hu; cases hu
  unfold askL
  rw [catF_get (fun i => by simp [askA]) m i c hi hc7]
  simpa using hu
theorem AskR.of_blk {w : World} {g : Nat} {t : TypeId} {q : Ask} (h : Blk w g t (askA q)) : AskR w (some ⟨g, 0, none⟩) 1 (fun _ => q) := fun _ =>
  ⟨g, 0, rfl, h.lt, fun i hi c u hu => by
    obtain rfl : i = 0 := by omega
    have := (h.cell c).trans hu
    simpa using this⟩

/-- What TreePlay answers the laws. -/
def PlayR (w : World) (n m : Nat) (f : Nat → It) (qs : Nat → Ask) (e : Ending) (w' : World) : Prop :=
  ∃ A k, e = .returned (.tuple #[.slice A m k, .bool true]) ∧ m ≤ k ∧ ToldR w' A m (fun i => ansOf n (bq n n f) (qs i)) ∧ Below w.heap.size w w'
theorem playR_calls (A Aq : Option Addr) (n c m cq : Nat) (f : Nat → It) (qs : Nat → Ask) (S : Addr) (hG : GoodIts n f) (hm : m ≤ 400) (hq : ∀ i, i < m → GoodAsk (qs i)) (w : World) (hR : Rd w A n f) (hQ : AskR w Aq m qs) (hgv : GV w S) (h0 : 0 < w.heap.size) :
    Calls Tryd.prog 7 #[.slice A n c, .slice Aq m cq] w (PlayR w n m f qs) := by
  refine (play_calls A Aq n c m cq f qs (fun i => ansOf n (bq n n f) (qs i)) S hG.few hm hG.box w hR hQ hgv h0 (fun w0 t hT h1 => answers_all hG.few hT h1 hq)).mono ?_
  rintro e w' ⟨A', k, vs, rfl, h1, h2, h3⟩
  refine ⟨A', k, rfl, ?_, ToldR.of_own h1 h2, h3⟩
  rcases h1.2 with ⟨hv, hn0⟩ | ⟨g, cap, cur, hv, h4⟩
  · cases hv; omega
  · cases hv; exact h4.2.2.1

theorem run_upto {P : Program} {t e : TypeId} {i : TypeInfo} {size : Nat} (ht : P.underlying t = some (.slice e)) (hi : P.info? e = some i) (hs : i.size = size) (A : Option Addr) (n c m : Nat) (h1 : m ≤ c) (w : World) :
    (Instr.slice t (.slice A n c) none (some (.int .i64 (m : Int))) none).run P w = .ok (.slice A m c) w := by
  have h2 : (m : Int) ≤ (c : Int) := by omega
  have h3 : (0 : Int) ≤ (m : Int) := by omega
  simp [Instr.slice, run_underlying ht, Instr.sliceBounds, Instr.sliceBound, asIntOf, go_sem, sizeOf, typeInfo, hi, hs, h1, h2, h3]
theorem run_from {P : Program} {t e : TypeId} {i : TypeInfo} {size : Nat} (ht : P.underlying t = some (.slice e)) (hi : P.info? e = some i) (hs : i.size = size) (A : Option Addr) (n c m : Nat) (h1 : m ≤ n) (hc : n ≤ c) (w : World) :
    (Instr.slice t (.slice A n c) (some (.int .i64 (m : Int))) none none).run P w = .ok (.slice (if c = m then A else A.map (·.add (m * size))) (n - m) (c - m)) w := by
  have h2 : (m : Int) ≤ (n : Int) := by omega
  have h3 : (0 : Int) ≤ (m : Int) := by omega
  simp [Instr.slice, run_underlying ht, Instr.sliceBounds, Instr.sliceBound, asIntOf, go_sem, sizeOf, typeInfo, hi, hs, h1, h2, h3]
theorem ToldR.congr {w : World} {A : Option Addr} {n : Nat} {an an' : Nat → An} (h : ToldR w A n an) (e : ∀ i, i < n → an i = an' i) : ToldR w A n an' := fun h0 => by
  obtain ⟨g, off, vs, rfl, hg, hcc⟩ := h h0
  exact ⟨g, off, vs, rfl, hg, fun i hi => by rw [← e i hi]; exact hcc i hi⟩
theorem ToldR.head {w : World} {A : Option Addr} {n : Nat} {an : Nat → An} (h : ToldR w A n an) (m : Nat) (hm : m ≤ n) : ToldR w A m an := fun h0 => by
  obtain ⟨g, off, vs, rfl, hg, hcc⟩ := h (by omega)
  exact ⟨g, off, vs, rfl, hg, fun i hi => hcc i (by omega)⟩
theorem ToldR.tail {w : World} {A : Option Addr} {n : Nat} {an : Nat → An} (h : ToldR w A n an) (c a m : Nat) (hm : a + m ≤ n) (hc : n ≤ c) : ToldR w (if c = a then A else A.map (·.add (a * 10))) m (fun i => an (a + i)) := fun h0 => by
  obtain ⟨g, off, vs, rfl, hg, hcc⟩ := h (by omega)
  rw [if_neg (by omega)]
  have := (ToldR.part h a m hm) h0
  simpa [mem.add_plain] using this
end Go.Proofs.YtflaklceejokhaaDoor.tree
