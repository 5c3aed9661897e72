import PyProof.Rows.All
import Wide.All
import OpenK.AllK
import Wide.FinOn
import PySem.Challenge.RW_pg0152_01
open PySem PySem.W PyProof.Rows
set_option Elab.async false
section
open PySem PySem.W PyProof.Rows
namespace Mine
set_option maxRecDepth 100000 in
set_option maxHeartbeats 8000000 in
open_top hd for PySem.Challenge.rw_pg0152_01
end Mine
end
section
namespace Mine
/-- the table of distances, over a test of equal letters -/
def dp (e : Nat → Nat → Bool) : Nat → Nat → Nat
  | 0, j => j
  | i + 1, 0 => i + 1
  | i + 1, j + 1 => min (dp e i j + if e i j then 0 else 1) (min (dp e i (j + 1) + 1) (dp e (i + 1) j + 1))
termination_by i j => i + j
theorem dp_zero (e : Nat → Nat → Bool) (j : Nat) : dp e 0 j = j := by rw [dp]
theorem dp_zero' (e : Nat → Nat → Bool) (i : Nat) : dp e i 0 = i := by cases i <;> rw [dp]
theorem dp_succ (e : Nat → Nat → Bool) (i j : Nat) : dp e (i + 1) (j + 1) = min (dp e i j + if e i j then 0 else 1) (min (dp e i (j + 1) + 1) (dp e (i + 1) j + 1)) := by rw [dp]
theorem dp_le_right (e : Nat → Nat → Bool) (i j : Nat) : dp e i (j + 1) ≤ dp e i j + 1 := by
  cases i with
  | zero => rw [dp_zero, dp_zero]; omega
  | succ i => rw [dp_succ]; omega
theorem dp_le_down (e : Nat → Nat → Bool) (i j : Nat) : dp e (i + 1) j ≤ dp e i j + 1 := by
  cases j with
  | zero => rw [dp_zero', dp_zero']; omega
  | succ j => rw [dp_succ]; omega
theorem dp_lip (e : Nat → Nat → Bool) : ∀ n i j, i + j ≤ n → dp e i j ≤ dp e i (j + 1) + 1 ∧ dp e i j ≤ dp e (i + 1) j + 1
  | 0, i, j, h => by
    have : i = 0 := by omega
    have : j = 0 := by omega
    subst i j
    rw [dp_zero]; omega
  | n + 1, i, j, h => by
    constructor
    · cases i with
      | zero => rw [dp_zero, dp_zero]; omega
      | succ i =>
        rw [dp_succ]
        have h1 := dp_le_down e i j
        have h2 := (dp_lip e n i j (by omega)).1
        have h3 := dp_le_down e i j
        split <;> omega
    · cases j with
      | zero => rw [dp_zero', dp_zero']; omega
      | succ j =>
        rw [dp_succ]
        have h1 := dp_le_right e i j
        have h2 := (dp_lip e n i j (by omega)).2
        split <;> omega
theorem dp_last (e : Nat → Nat → Bool) (i j : Nat) (h : e i j = true) : dp e (i + 1) (j + 1) = dp e i j := by
  rw [dp_succ, h]
  have h1 := dp_lip e (i + j) i j (Nat.le_refl _)
  simp only [if_true]
  omega
theorem dp_lasts (e : Nat → Nat → Bool) (i j p : Nat) (h : ∀ k, k < p → e (i + k) (j + k) = true) : dp e (i + p) (j + p) = dp e i j := by
  induction p with
  | zero => rfl
  | succ p ih =>
    rw [← Nat.add_assoc, ← Nat.add_assoc, dp_last e _ _ (h p (by omega))]
    exact ih fun k hk => h k (by omega)
theorem dp_first_row (e : Nat → Nat → Bool) (h : e 0 0 = true) : ∀ j, dp e 1 (j + 1) = j
  | 0 => by rw [dp_succ, h, dp_zero, dp_zero, dp_zero']; simp
  | j + 1 => by
    rw [dp_succ, dp_zero, dp_zero, dp_first_row e h j]
    split <;> omega
theorem dp_first_col (e : Nat → Nat → Bool) (h : e 0 0 = true) : ∀ i, dp e (i + 1) 1 = i
  | 0 => by rw [dp_succ, h, dp_zero, dp_zero, dp_zero']; simp
  | i + 1 => by
    rw [dp_succ, dp_zero', dp_zero', dp_first_col e h i]
    split <;> omega
theorem dp_first (e : Nat → Nat → Bool) (h : e 0 0 = true) : ∀ n i j, i + j ≤ n → dp e (i + 1) (j + 1) = dp (fun a b => e (a + 1) (b + 1)) i j
  | n, 0, j, _ => by rw [dp_first_row e h, dp_zero]
  | n, i + 1, 0, _ => by rw [dp_first_col e h, dp_zero']
  | 0, i + 1, j + 1, hn => by omega
  | n + 1, i + 1, j + 1, hn => by
    rw [dp_succ, dp_succ (fun a b => e (a + 1) (b + 1)), dp_first e h n i j (by omega), dp_first e h n i (j + 1) (by omega), dp_first e h n (i + 1) j (by omega)]
theorem dp_firsts (p : Nat) : ∀ (e : Nat → Nat → Bool) (i j : Nat), (∀ k, k < p → e k k = true) → dp e (i + p) (j + p) = dp (fun a b => e (a + p) (b + p)) i j := by
  induction p with
  | zero => intro e i j _; rfl
  | succ p ih =>
    intro e i j h
    rw [← Nat.add_assoc, ← Nat.add_assoc, dp_first e (h 0 (by omega)) (i + p + (j + p)) _ _ (Nat.le_refl _), ih _ _ _ (fun k hk => h (k + 1) (by omega))]
    congr 1
theorem dp_congr (e f : Nat → Nat → Bool) : ∀ n i j, i + j ≤ n → (∀ a b, a < i → b < j → e a b = f a b) → dp e i j = dp f i j
  | n, 0, j, _, _ => by rw [dp_zero, dp_zero]
  | n, i + 1, 0, _, _ => by rw [dp_zero', dp_zero']
  | 0, i + 1, j + 1, hn, _ => by omega
  | n + 1, i + 1, j + 1, hn, h => by
    rw [dp_succ, dp_succ f, dp_congr e f n i j (by omega) (fun a b ha hb => h a b (by omega) (by omega)), dp_congr e f n i (j + 1) (by omega) (fun a b ha hb => h a b (by omega) (by omega)),
      dp_congr e f n (i + 1) j (by omega) (fun a b ha hb => h a b (by omega) (by omega)), h i j (by omega) (by omega)]
theorem dp_swap (e : Nat → Nat → Bool) : ∀ n i j, i + j ≤ n → dp e i j = dp (fun a b => e b a) j i
  | n, 0, j, _ => by rw [dp_zero, dp_zero']
  | n, i + 1, 0, _ => by rw [dp_zero', dp_zero]
  | 0, i + 1, j + 1, hn => by omega
  | n + 1, i + 1, j + 1, hn => by
    rw [dp_succ, dp_succ (fun a b => e b a), dp_swap e n i j (by omega), dp_swap e n i (j + 1) (by omega), dp_swap e n (i + 1) j (by omega)]
    rw [Nat.min_comm (dp (fun a b => e b a) (j + 1) i + 1)]
theorem dp_ge (e : Nat → Nat → Bool) : ∀ n i j, i + j ≤ n → i ≤ dp e i j + j ∧ j ≤ dp e i j + i
  | n, 0, j, _ => by rw [dp_zero]; omega
  | n, i + 1, 0, _ => by rw [dp_zero']; omega
  | 0, i + 1, j + 1, hn => by omega
  | n + 1, i + 1, j + 1, hn => by
    rw [dp_succ]
    have h1 := dp_ge e n i j (by omega)
    have h2 := dp_ge e n i (j + 1) (by omega)
    have h3 := dp_ge e n (i + 1) j (by omega)
    split <;> omega
theorem dp_le (e : Nat → Nat → Bool) : ∀ n i j, i + j ≤ n → dp e i j ≤ i + j
  | n, 0, j, _ => by rw [dp_zero]; omega
  | n, i + 1, 0, _ => by rw [dp_zero']; omega
  | 0, i + 1, j + 1, hn => by omega
  | n + 1, i + 1, j + 1, hn => by
    rw [dp_succ]
    have h1 := dp_le e n i (j + 1) (by omega)
    omega
theorem dp_above (e : Nat → Nat → Bool) (i : Nat) : ∀ j, ∃ c, c ≤ j ∧ dp e i c ≤ dp e (i + 1) j
  | 0 => ⟨0, Nat.le_refl _, by rw [dp_zero', dp_zero']; omega⟩
  | j + 1 => by
    obtain ⟨c, hc, hd⟩ := dp_above e i j
    by_cases h1 : dp e i j ≤ dp e (i + 1) (j + 1)
    · exact ⟨j, by omega, h1⟩
    by_cases h2 : dp e i (j + 1) ≤ dp e (i + 1) (j + 1)
    · exact ⟨j + 1, by omega, h2⟩
    refine ⟨c, by omega, ?_⟩
    rw [dp_succ] at h1 h2 ⊢
    split at h1 <;> split at h2 <;> split <;> first | omega | contradiction
theorem dp_aboves (e : Nat → Nat → Bool) (i : Nat) : ∀ n j, ∃ c, c ≤ j ∧ dp e i c ≤ dp e (i + n) j
  | 0, j => ⟨j, Nat.le_refl _, Nat.le_refl _⟩
  | n + 1, j => by
    obtain ⟨c, hc, hd⟩ := dp_above e (i + n) j
    obtain ⟨c', hc', hd'⟩ := dp_aboves e i n c
    exact ⟨c', by omega, Nat.le_trans hd' hd⟩
/-- a row's least value (its first place left out) lies under the end's -/
theorem dp_row (e : Nat → Nat → Bool) (i n j : Nat) (hj : 0 < j) : ∃ c, c < j ∧ dp e (i + 1) (c + 1) ≤ dp e (i + 1 + n) j := by
  obtain ⟨c, hc, hd⟩ := dp_aboves e (i + 1) n j
  cases c with
  | zero =>
    refine ⟨0, hj, Nat.le_trans ?_ hd⟩
    rw [dp_zero', dp_succ, dp_zero']
    split <;> omega
  | succ c => exact ⟨c, by omega, hd⟩
end Mine
end
section
open PySem PySem.W PyProof.Rows PySem.Calls
namespace Mine
abbrev MyClaim (w : World) (mean : ExcName → Option Value) (mg mb : Str → Option Value) (f : Addr) (news : List (Addr × Obj)) (pre : Prop) (vs : List Value) (R : Tok → Value) : Prop :=
  CbClaim Challenge.rw_pg0152_01.row.prog w (Mine.hd.heap_39 w.params) Mine.hd.view_39 (looseW Mine.hd.view_39 [Str.ofString "bisect_left"]) mean mg mb f news [] pre vs R
/-- a statement is through: the frame's names as told, the ledger, a word -/
def WDone {σ : Type} (h₀ : Heap) (L : Addr) (s : Shared) (Led : σ → List (Addr × Obj)) (ps : σ → List (Str × Value)) (stored : List Str) (m₀ : Str → Option Value) (X : σ → Prop) (f : Flow) (s₂ : Shared) : Prop :=
  ∃ (c : σ) (u : Str → Option Value) (h : Heap) (tk : Nat), f = .next ∧ s₂ = { s with heap := h, toks := tk } ∧ Fr h₀ L h (kstB (fun z => if stored.contains z then u z else m₀ z) (ps c)) ∧ News h₀ L h (Led c) ∧ X c
theorem WDone.intro {σ : Type} {h₀ : Heap} {L : Addr} {s : Shared} {Led : σ → List (Addr × Obj)} {ps : σ → List (Str × Value)} {stored : List Str} {m₀ m' : Str → Option Value} {X : σ → Prop} {h : Heap} {tk : Nat} {news' : List (Addr × Obj)} (c : σ)
    (F : Fr h₀ L h m') (N : News h₀ L h news') (hn : ∀ p ∈ Led c, p ∈ news') (hk : ∀ p ∈ ps c, m' p.1 = some p.2) (hr : ∀ z, (∀ p ∈ ps c, z ≠ p.1) → stored.contains z = false → m' z = m₀ z) (hx : X c) :
    WDone h₀ L s Led ps stored m₀ X .next { s with heap := h, toks := tk } :=
  ⟨c, m', h, tk, rfl, rfl, ksw_fr hk hr F, fun p hp => N p (hn p hp), hx⟩
section
variable {prog : Program} {w : World} {A : Around} {E : Value → Shared → Prop} {Q : Flow → Shared → Prop} {s : Shared} {env : Env} {h₀ : Heap} {L : Addr}
theorem my_cut {σ : Type} {st : Stmt} {m₀ : Str → Option Value} (Led : σ → List (Addr × Obj)) (ps : σ → List (Str × Value)) (stored : List Str) (X : σ → Prop)
    (F : Fr h₀ L s.heap m₀)
    (h : Fr h₀ L s.heap m₀ → wpAny (model prog w) A (exec st env) (WDone h₀ L s Led ps stored m₀ X) E s)
    (done : ∀ (c : σ) (u : Str → Option Value) h tk, X c → Fr h₀ L h (kstB (fun z => if stored.contains z then u z else m₀ z) (ps c)) → News h₀ L h (Led c) → Q .next { s with heap := h, toks := tk }) :
    wpAny (model prog w) A (exec st env) Q E s := by
  refine wpAny_mono (h F) (fun f s₂ q => ?_) fun _ _ x => x
  obtain ⟨c, u, hh, tk, rfl, rfl, F', N', hx⟩ := q
  exact done c u hh tk hx F' N'
theorem my_while {σ : Type} {test : Expr} {body : List Stmt} {pos : Pos} {m₀ : Str → Option Value} (Led : σ → List (Addr × Obj)) (ps : σ → List (Str × Value)) (stored : List Str) (P X : σ → Prop) (μ : σ → Nat) (c₀ : σ)
    (F : Fr h₀ L s.heap m₀) (N : News h₀ L s.heap (Led c₀)) (hk : ∀ p ∈ ps c₀, m₀ p.1 = some p.2) (hp : P c₀)
    (turn : ∀ (c : σ) (u : Str → Option Value) h tk, P c → Fr h₀ L h (kstB (fun z => if stored.contains z then u z else m₀ z) (ps c)) → News h₀ L h (Led c) →
      wpAny (model prog w) A (isTrue test env (eval test env)) (fun b s₂ =>
        if b = true then wpAny (model prog w) A (execs body env) (KswPost h₀ L s Led ps (fun _ => True) stored m₀ P μ (WDone h₀ L s Led ps stored m₀ X) c) E s₂ else WDone h₀ L s Led ps stored m₀ X .next s₂) E { s with heap := h, toks := tk })
    (done : ∀ (c : σ) (u : Str → Option Value) h tk, X c → Fr h₀ L h (kstB (fun z => if stored.contains z then u z else m₀ z) (ps c)) → News h₀ L h (Led c) → Q .next { s with heap := h, toks := tk })
    (hE : PassesOwn (model prog w) A env E := by passes_own) :
    wpAny (model prog w) A (exec (.While test body [] pos) env) Q E s := by
  refine my_cut Led ps stored X F (fun F => ?_) done
  exact ksw_while Led ps (fun _ => True) stored P μ c₀ F N trivial hk hp (fun c u h tk _ hp F N => turn c u h tk hp F N) hE
end
/-- the letters of a text, one by one -/
def eqS (a b : Str) (i j : Nat) : Bool := a.cps.toList.getD i 0 == b.cps.toList.getD j 0
def edit (a b : Str) : Nat := dp (eqS a b) a.length b.length
end Mine
end
section
open PySem PySem.W PyProof.Rows PySem.Calls
namespace Mine
theorem len_list (x : Str) : x.cps.toList.length = x.length := by simp [Str.length]
theorem sl_from {x : Str} {i : Int} (h0 : 0 ≤ i) (h1 : i ≤ x.length) : (Txt.slice x (some i) none).cps.toList = x.cps.toList.drop i.toNat := by
  rw [slice_from_eq h0 h1 rfl]
  show ((x.cps.toList.drop i.toNat).take ((x.length : Int) - i).toNat) = _
  rw [List.take_of_length_le]
  rw [List.length_drop, len_list]; omega
theorem sl_to {x : Str} {j : Int} (h0 : 0 ≤ j) (h1 : j ≤ x.length) : (Txt.slice x none (some j)).cps.toList = x.cps.toList.take j.toNat := by
  have := beq_iff_eq.mp (slice_closes_toL h0 h1)
  rw [this]
  simp
theorem sl_to_neg {x : Str} {j : Int} (h0 : j < 0) (h1 : -(x.length : Int) ≤ j) : (Txt.slice x none (some j)).cps.toList = x.cps.toList.take (j + x.length).toNat := by
  have := beq_iff_eq.mp (slice_closes_to_neg h0 h1 rfl)
  rw [this]
  simp
theorem sl_all (x : Str) : Txt.slice x none none = x := by
  have h : Txt.slice x none none = Txt.slice x (some 0) none := by
    unfold Txt.slice
    rw [StrLaws.sliceIdx_none_lo]
  have e := sl_from (x := x) (i := 0) (Int.le_refl _) (by omega)
  rw [h]
  have : (Txt.slice x (some 0) none).cps = x.cps := by
    apply Array.ext'
    rw [e]; rfl
  cases hx : Txt.slice x (some 0) none
  rw [hx] at this
  cases x
  simpa using this
theorem it_pos {x : Str} {i : Int} (h0 : 0 ≤ i) (h1 : i < x.length) : Txt.item x i = ⟨#[x.cps.toList.getD i.toNat 0]⟩ := by
  have : i.toNat < x.cps.size := by have : x.cps.size = x.length := rfl; omega
  unfold Txt.item Txt.charAt seqIndex?
  simp [h0, h1, show ¬ i < 0 by omega, this]
theorem it_neg {x : Str} {i : Int} (h0 : i < 0) (h1 : -(x.length : Int) ≤ i) : Txt.item x i = ⟨#[x.cps.toList.getD (i + x.length).toNat 0]⟩ := by
  have := beq_iff_eq.mp (item_closes_neg h0 h1 rfl)
  rw [this]
  simp
theorem one_beq (p q : Nat) : ((⟨#[p]⟩ : Str) == ⟨#[q]⟩) = (p == q) := by
  by_cases h : p = q
  · subst h; simp
  · rw [beq_eq_false_iff_ne.mpr h, beq_eq_false_iff_ne.mpr]
    intro e
    injection e with e
    simp at e
    exact h e
theorem edit_lists {a b a' b' : Str} {i j : Nat} {f : Nat → Nat → Bool} (hi : a'.length = i) (hj : b'.length = j) (he : ∀ k l, k < i → l < j → eqS a' b' k l = f k l) : edit a' b' = dp f i j := by
  unfold edit
  rw [hi, hj]
  exact dp_congr _ _ (i + j) _ _ (Nat.le_refl _) he
def preP (a b : Str) (p : Int) : Prop := 0 ≤ p ∧ p ≤ a.length ∧ p ≤ b.length ∧ ∀ k : Nat, (k : Int) < p → eqS a b k k = true
theorem preP.start (a b : Str) : preP a b 0 := ⟨Int.le_refl _, by omega, by omega, fun k hk => by omega⟩
theorem preP.next {a b : Str} {p : Int} (h : preP a b p) (h1 : p < a.length) (h2 : p < b.length) (e : (Txt.item a p == Txt.item b p) = true) : preP a b (p + 1) := by
  obtain ⟨h0, _, _, hk⟩ := h
  refine ⟨by omega, by omega, by omega, fun k hlt => ?_⟩
  by_cases hkp : (k : Int) < p
  · exact hk k hkp
  · have : k = p.toNat := by omega
    subst this
    rw [it_pos h0 h1, it_pos h0 h2, one_beq] at e
    exact e
theorem preP.edit {a b : Str} {p : Int} (h : preP a b p) : edit (Txt.slice a (some p) none) (Txt.slice b (some p) none) = edit a b := by
  obtain ⟨h0, h1, h2, hk⟩ := h
  have ea := sl_from h0 h1
  have eb := sl_from h0 h2
  have la : (Txt.slice a (some p) none).length = a.length - p.toNat := by rw [← len_list, ea, List.length_drop, len_list]
  have lb : (Txt.slice b (some p) none).length = b.length - p.toNat := by rw [← len_list, eb, List.length_drop, len_list]
  rw [edit_lists (a := a) (b := b) (f := fun i j => eqS a b (i + p.toNat) (j + p.toNat)) la lb]
  · rw [← dp_firsts p.toNat (eqS a b) _ _ (fun k hlt => hk k (by omega))]
    unfold Mine.edit
    congr 1 <;> omega
  · intro k l _ _
    unfold eqS
    rw [ea, eb]
    simp only [List.getD_eq_getElem?_getD, List.getElem?_drop]
    rw [Nat.add_comm k, Nat.add_comm l]
theorem preP.lens {a b : Str} {p : Int} (h : preP a b p) : ((Txt.slice a (some p) none).length : Int) = a.length - p ∧ ((Txt.slice b (some p) none).length : Int) = b.length - p := by
  obtain ⟨h0, h1, h2, hk⟩ := h
  constructor
  · rw [← len_list, sl_from h0 h1, List.length_drop, len_list]; omega
  · rw [← len_list, sl_from h0 h2, List.length_drop, len_list]; omega
/-- the end struck: post or None -/
def cutTo (x : Str) (q : Int) : Str := if q = 0 then x else Txt.slice x none (some q)
def postP (a b : Str) (q : Int) : Prop := q ≤ 0 ∧ -q ≤ a.length ∧ -q ≤ b.length ∧ ∀ k : Nat, (k : Int) < -q → eqS a b (a.length - 1 - k) (b.length - 1 - k) = true
theorem postP.start (a b : Str) : postP a b 0 := ⟨Int.le_refl _, by omega, by omega, fun k hk => by omega⟩
theorem postP.next {a b : Str} {q : Int} (h : postP a b q) (h1 : -q < a.length) (h2 : -q < b.length) (e : (Txt.item a (q - 1) == Txt.item b (q - 1)) = true) : postP a b (q - 1) := by
  obtain ⟨h0, _, _, hk⟩ := h
  refine ⟨by omega, by omega, by omega, fun k hlt => ?_⟩
  by_cases hkp : (k : Int) < -q
  · exact hk k hkp
  · have : k = (-q).toNat := by omega
    subst this
    rw [it_neg (by omega) (by omega), it_neg (by omega) (by omega), one_beq] at e
    have e1 : (q - 1 + a.length).toNat = a.length - 1 - (-q).toNat := by omega
    have e2 : (q - 1 + b.length).toNat = b.length - 1 - (-q).toNat := by omega
    rw [e1, e2] at e
    exact e
theorem cut_list {x : Str} {q : Int} (h0 : q ≤ 0) (h1 : -q ≤ x.length) : (cutTo x q).cps.toList = x.cps.toList.take (x.length - (-q).toNat) := by
  unfold cutTo
  split
  · subst q; rw [List.take_of_length_le]; rw [len_list]; omega
  · rw [sl_to_neg (by omega) (by omega)]
    congr 1; omega
theorem cut_len {x : Str} {q : Int} (h0 : q ≤ 0) (h1 : -q ≤ x.length) : ((cutTo x q).length : Int) = x.length + q := by
  rw [← len_list, cut_list h0 h1, List.length_take, len_list]; omega
theorem postP.edit {a b : Str} {q : Int} (h : postP a b q) : edit (cutTo a q) (cutTo b q) = edit a b := by
  obtain ⟨h0, h1, h2, hk⟩ := h
  have ea := cut_list h0 h1
  have eb := cut_list h0 h2
  have la := cut_len h0 h1
  have lb := cut_len h0 h2
  rw [edit_lists (a := a) (b := b) (f := eqS a b) (i := a.length - (-q).toNat) (j := b.length - (-q).toNat) (by omega) (by omega)]
  · rw [← dp_lasts (eqS a b) _ _ (-q).toNat]
    · unfold Mine.edit
      congr 1 <;> omega
    · intro k hlt
      have := hk ((-q).toNat - 1 - k) (by omega)
      rw [show a.length - 1 - ((-q).toNat - 1 - k) = a.length - (-q).toNat + k by omega, show b.length - 1 - ((-q).toNat - 1 - k) = b.length - (-q).toNat + k by omega] at this
      exact this
  · intro k l hk hl
    unfold eqS
    rw [ea, eb]
    simp only [List.getD_eq_getElem?_getD, List.getElem?_take]
    rw [if_pos hk, if_pos hl]
theorem edit_empty {a b : Str} (h : a.length = 0 ∨ b.length = 0) : (edit a b : Int) = a.length + b.length := by
  unfold edit
  rcases h with h | h
  · rw [h, dp_zero]; omega
  · rw [h, dp_zero']; omega
theorem edit_same (a : Str) : edit a a = 0 := by
  have := dp_lasts (eqS a a) 0 0 a.length (fun k _ => by simp [eqS])
  unfold edit
  rw [Nat.zero_add] at this
  rw [this, dp_zero]
theorem edit_swap (a b : Str) : edit a b = edit b a := by
  unfold edit
  rw [dp_swap _ _ _ _ (Nat.le_refl _)]
  congr 1
  funext i j
  simp only [eqS]
  rw [Bool.eq_iff_iff]
  simp only [beq_iff_eq]
  exact eq_comm
theorem edit_ge (a b : Str) : (a.length : Int) - b.length ≤ edit a b ∧ (b.length : Int) - a.length ≤ edit a b := by
  have := dp_ge (eqS a b) _ a.length b.length (Nat.le_refl _)
  unfold edit
  omega
/-- letters -/
def Lets (x : Str) : Prop := ∀ c ∈ x.cps.toList, c = 107 ∨ c = 109 ∨ c = 112 ∨ c = 116
theorem Lets.from {x : Str} {p : Int} (h : Lets x) (h0 : 0 ≤ p) (h1 : p ≤ x.length) : Lets (Txt.slice x (some p) none) := by
  intro c hc
  rw [sl_from h0 h1] at hc
  exact h c (List.mem_of_mem_drop hc)
theorem Lets.cut {x : Str} {q : Int} (h : Lets x) (h0 : q ≤ 0) (h1 : -q ≤ x.length) : Lets (cutTo x q) := by
  intro c hc
  rw [cut_list h0 h1] at hc
  exact h c (List.mem_of_mem_take hc)
end Mine
end
section
open PySem PySem.W PyProof.Rows
namespace Mine
def isLet (a : Str) : Prop := a = ⟨#[107]⟩ ∨ a = ⟨#[109]⟩ ∨ a = ⟨#[112]⟩ ∨ a = ⟨#[116]⟩
def subCost (a b : Str) : Int := if a = b then 0 else 2
set_option maxRecDepth 100000 in
set_option maxHeartbeats 8000000 in
theorem sub_claim (w : World) (mean : ExcName → Option Value) (mg mb : Str → Option Value) (news : List (Addr × Obj)) (a b : Str) (ta tb : Tok) :
   CbClaim Challenge.rw_pg0152_01.row.prog w (Mine.hd.heap_39 w.params) Mine.hd.view_39 (looseW Mine.hd.view_39 [Str.ofString "bisect_left"]) mean mg mb 44 news [] (isLet a ∧ isLet b) [.str a ta, .str b tb] (fun t => .int (subCost a b) t) := by
  w_top off
  k_fill
  dsimp only [CbClaim, CbLists, CbRet]
  intros
  rename_i hp _ _ hret
  obtain ⟨ha, hb⟩ := hp
  rcases ha with rfl | rfl | rfl | rfl <;> rcases hb with rfl | rfl | rfl | rfl
  all_goals
    refine wpAny_call ?_
    k_dflt cell_enter
  all_goals w_strict (k_steps)
  all_goals cb_end hret
end Mine
end
section
open PySem PySem.W PyProof.Rows PySem.Calls
set_option pp.deepTerms true
namespace Mine
abbrev BisClaim (w : World) (mean : ExcName → Option Value) (mg mb : Str → Option Value) (f : Addr) (news : List (Addr × Obj)) (pre : Prop) (vs : List Value) (R : Tok → Value) : Prop :=
  CbClaim Challenge.rw_pg0152_01.row.prog w (Mine.hd.heap_39 w.params) Mine.hd.view_39 (looseW Mine.hd.view_39 [Str.ofString "bisect_left"]) mean mg mb f news [] pre vs R
theorem binds_kw {K : Frag} {s : Shared} {fd : FuncData} {args : Args} {binds : List (Str × Value)} {T D : Addr} {o od : Obj} {items : Array Value} {n : Nat} {part : Option Value}
    {k : Option (Array Value) → Sem (List (Str × Value))} {k2 : Obj → Sem (List (Str × Value))} (X : K.In s.heap) (hd : fd.defaults = .ref T) (ho : K.lookup T = some o) (hs : o.data = .seq items n)
    (hD : K.lookup D = some od)
    (h₁ : bindArgs fd args = seqItems? fd.defaults >>= k) (h₂ : k (some items) = Sem.load D part k2) (h₃ : k2 od = pure binds) : BindsTo s fd args binds :=
  fun M A E Q hq => by
    rw [h₁, hd]
    refine wpAny_bind (wpAny_seqItems (X _ _ ho) hs ?_)
    rw [h₂]
    show wpAny M A (loadPart D part >>= k2) Q E s
    refine wpAny_bind (wpAny_loadPart (X _ _ hD) ?_)
    rw [h₃]
    exact wpAny_pure hq
section
variable {prog : Program} {w : World} {A : Around} {E : Value → Shared → Prop} {s : Shared} {h₀ : Heap} {L : Addr} {news : List (Addr × Obj)} {l : Addr} {vs : List Value} {n : Nat} {ns : List Int}
theorem my_len {Q : Value → Shared → Prop} (N : News h₀ L s.heap news) (hm : (l, W.listOf vs.toArray n) ∈ news) (hi : IntsAre vs ns) (hlen : ns.length ≤ 1000)
    (h : Q (.int ns.length (s.toks + 1)) { s with toks := s.toks + 1 + 1 }) : wpAny (model prog w) A (call (.builtin "len") [.ref l]) Q E s := by
  have e : (List.toArray vs).size = ns.length := by rw [List.size_toArray]; exact hi.length
  refine call_len_list (items := vs.toArray) ⟨_, (N _ hm).1, rfl, n, rfl⟩ (by rw [e]; omega) (by rw [e]; exact h)
theorem my_item {Q : Value → Shared → Prop} {value slice : Expr} {k : Int} {u : Tok} (N : News h₀ L s.heap news) (hm : (l, W.listOf vs.toArray n) ∈ news) (hi : IntsAre vs ns) (hlen : ns.length ≤ 1000) (h0 : 0 ≤ k) (h1 : k < ns.length)
    (h : ∀ t, Q (.int (ns.getD k.toNat 0) t) s)
    (hs : subscripted slice false (.ref l) (.int k u) = operate [.ref l, .int k u] (getItem (.ref l) (.int k u)) := by with_unfolding_all rfl) (hg : ∀ r, letTemporaryGo value (.ref l) r = pure () := by intro _; with_unfolding_all rfl) :
    wpAny (model prog w) A (subscriptTail value slice (.ref l) (.int k u)) Q E s := by
  have hk : k.toNat < ns.length := by omega
  obtain ⟨t, ht⟩ := hi.get k.toNat (ns.getD k.toNat 0) (by simp [List.getD, hk])
  exact kim_list N hm rfl rfl h0 (by omega) ht (h t) hs hg
end
def bisL (ns : List Int) (x : Int) : Int := ((ns.filter (· < x)).length : Int)
def bisP (ns : List Int) (x lo hi : Int) : Prop :=
  0 ≤ lo ∧ lo ≤ hi ∧ hi ≤ ns.length ∧ (∀ k : Nat, (k : Int) < lo → ns.getD k 0 < x) ∧ (∀ k : Nat, hi ≤ (k : Int) → k < ns.length → ¬ ns.getD k 0 < x)
theorem bisP.mid {ns : List Int} {x lo hi : Int} (h : bisP ns x lo hi) (ht : lo < hi) : lo ≤ Int.fdiv (lo + hi) 2 ∧ Int.fdiv (lo + hi) 2 < hi ∧ 0 ≤ Int.fdiv (lo + hi) 2 ∧ Int.fdiv (lo + hi) 2 < ns.length := by
  obtain ⟨a, b, c, _, _⟩ := h
  rw [Int.fdiv_eq_ediv_of_nonneg _ (by decide)]
  omega
theorem bisP.up {ns : List Int} {x lo hi : Int} (hs : ns.Pairwise (· ≤ ·)) (h : bisP ns x lo hi) (ht : lo < hi) (hlt : ns.getD (Int.fdiv (lo + hi) 2).toNat 0 < x) : bisP ns x (Int.fdiv (lo + hi) 2 + 1) hi := by
  obtain ⟨m1, m2, m3, m4⟩ := h.mid ht
  obtain ⟨a, b, c, d, e⟩ := h
  refine ⟨by omega, by omega, by omega, fun k hk => ?_, fun k hk hl => e k (by omega) hl⟩
  exact Int.lt_of_le_of_lt (sorted_getD_le hs (by omega) (by omega)) hlt
theorem bisP.down {ns : List Int} {x lo hi : Int} (hs : ns.Pairwise (· ≤ ·)) (h : bisP ns x lo hi) (ht : lo < hi) (hge : ¬ ns.getD (Int.fdiv (lo + hi) 2).toNat 0 < x) : bisP ns x lo (Int.fdiv (lo + hi) 2) := by
  obtain ⟨m1, m2, m3, m4⟩ := h.mid ht
  obtain ⟨a, b, c, d, e⟩ := h
  refine ⟨by omega, by omega, by omega, fun k hk => d k (by omega), fun k hk hl hlt => hge ?_⟩
  exact Int.lt_of_le_of_lt (sorted_getD_le hs (by omega) hl) hlt
theorem filt_len : ∀ (ns : List Int) (x : Int) (r : Nat), r ≤ ns.length → (∀ k : Nat, k < r → ns.getD k 0 < x) → (∀ k : Nat, r ≤ k → k < ns.length → ¬ ns.getD k 0 < x) → (ns.filter (· < x)).length = r
  | [], x, r, h, _, _ => by simp at h; simp [h]
  | a :: l, x, 0, _, _, h2 => by
    have h0 : ¬ a < x := h2 0 (Nat.le_refl _) (by simp)
    have := filt_len l x 0 (Nat.zero_le _) (fun k hk => absurd hk (Nat.not_lt_zero _)) (fun k _ hk => by simpa using h2 (k + 1) (Nat.zero_le _) (by simpa using hk))
    rw [List.filter_cons, if_neg (by simpa using h0)]
    exact this
  | a :: l, x, r + 1, h, h1, h2 => by
    have h0 : a < x := h1 0 (Nat.succ_pos _)
    have := filt_len l x r (by simpa using h) (fun k hk => by simpa using h1 (k + 1) (by omega)) (fun k hr hk => by simpa using h2 (k + 1) (by omega) (by simpa using hk))
    rw [List.filter_cons, if_pos (by simpa using h0), List.length_cons, this]
theorem bisP.done {ns : List Int} {x lo hi : Int} (h : bisP ns x lo hi) (ht : ¬ lo < hi) : lo = bisL ns x := by
  obtain ⟨a, b, c, d, e⟩ := h
  have := filt_len ns x lo.toNat (by omega) (fun k hk => d k (by omega)) (fun k hk hl => e k (by omega) hl)
  unfold bisL
  rw [this]
  omega
local macro_rules | `(tactic| walk_at "subscriptTail Name Name ref int") => `(tactic| (k_here; (with_reducible show wpAny _ _ (subscriptTail _ _ (Value.ref _) (Value.int _ _)) _ _ _); (with_unfolding_all refine my_item (by k_asm) (by assumption) (by assumption) (by omega) (bisP.mid (by assumption) (by assumption)).2.2.1 (bisP.mid (by assumption) (by assumption)).2.2.2 ?_); intro _))
local macro_rules | `(tactic| walk_at "call builtin:len") => `(tactic| (k_here; (with_reducible show wpAny _ _ (call (Value.builtin "len") [Value.ref _]) _ _ _); refine my_len (by k_asm) (by assumption) (by assumption) (by omega) ?_))
set_option maxRecDepth 100000 in
set_option maxHeartbeats 8000000 in
theorem bis_claim (w : World) (mean : ExcName → Option Value) (mg mb : Str → Option Value) (news : List (Addr × Obj)) (l : Addr) (vs : List Value) (n : Nat) (ns : List Int) (x : Int) (tx : Tok)
    (hm : (l, listOf vs.toArray n) ∈ news) (hi : IntsAre vs ns) (hs : ns.Pairwise (· ≤ ·)) (hlen : ns.length ≤ 8) :
   BisClaim w mean mg mb 23 news True [.ref l, .int x tx] (fun t => .int (bisL ns x) t) := by
  w_top off
  unfold BisClaim
  k_fill
  dsimp only [BisClaim, CbClaim, CbLists, CbRet]
  intros
  rename_i hret
  refine wpAny_call ?_
  k_dflt (refine' code_def ?k1 ?k2 ?k3 ?k4 ?k5 ?kA ?kF ?kK ?k6 ?k7 ?k8 ?k9 ?kB ?_ ?c2 ?c3 ?c4 ?c5; (case kA => exact rfl); (case kF => exact rfl); (case kK => assumption); (case k1 => k_asm); (case k2 => k_asm); (case k3 => k_asm); (case k4 => k_asm); (case k5 => k_asm); (case k6 => k_is); (case k7 => k_is); (case k8 => ktr_room))
  case k9 =>
    refine' binds_kw (binds := [(Str.ofString "a", .ref l), (Str.ofString "x", .int x tx), (Str.ofString "lo", .int 0 189), (Str.ofString "hi", .none), (Str.ofString "key", .none)]) (by k_in) rfl (by k_is) rfl (D := 16) (by k_is) ?h1 ?h2 ?h3
    case h1 => rfl
    case h2 => rfl
    case h3 => rfl
  k_dflt ((case c5 => decide); (case kB => exact locs rfl); (case c2 => exact rfl); (case c3 => exact rfl); (case c4 => exact rfl); k_whole; intro g' L' h' FG' F' N' B' X' T'; (try dsimp only); (try k_lift B'); (try k_fold))
  (repeat' ((fail_if_success (with_reducible show wpAny _ _ (exec (Stmt.While _ _ _ _) _) _ _ _)); (fail_if_success (with_reducible show KswEnd _ _ _ _ _ _ _ _ _ _ _ _)); first | (k_unfold; (try dsimp only)) | (k_end; wrow_close) | walk1 | (dsimp only; walk1) | (leave1; walk_say "STEP leave1"; try dsimp only) | fail "no step"))
  (rename Fr _ _ _ _ => lF'); (rename News _ _ _ _ => lN')
  refine' ksw_while (σ := Int × Tok × Int × Tok) (fun _ => news) (fun c => [(Str.ofString "lo", .int c.1 c.2.1), (Str.ofString "hi", .int c.2.2.1 c.2.2.2)]) (fun _ => True) [Str.ofString "mid"] (fun c => bisP ns x c.1 c.2.2.1) (fun c => (c.2.2.1 - c.1).toNat) (0, 189, (ns.length : Int), _) lF' lN' trivial ?kk ?kp ?_ ?hE
  case kk => exact List.forall_mem_cons.mpr ⟨by with_unfolding_all rfl, List.forall_mem_cons.mpr ⟨by with_unfolding_all rfl, List.forall_mem_nil _⟩⟩
  case kp => exact ⟨Int.le_refl _, by show (0 : Int) ≤ ns.length; omega, Int.le_refl _, fun k hk => by dsimp only at hk; omega, fun k hk hl => by dsimp only at hk; omega⟩
  case hE => passes_own
  clear lF' lN'
  rintro ⟨lo, tlo, hi', thi⟩ u h tk _ hP F N
  dsimp only at hP F N ⊢
  try k_fold
  (repeat' ((fail_if_success (with_reducible show wpAny _ _ (exec (Stmt.While _ _ _ _) _) _ _ _)); (fail_if_success (with_reducible show KswEnd _ _ _ _ _ _ _ _ _ _ _ _)); first | (k_unfold; (try dsimp only)) | (k_end; wrow_close) | walk1 | (dsimp only; walk1) | (leave1; walk_say "STEP leave1"; try dsimp only) | fail "no step"))
  all_goals first
    | exact cb_retI hret (hP.done (by assumption)) (by assumption) (by assumption)
    | skip
  · refine' ksw_end (_, _, _, _) (by assumption) (by assumption) (fun p hp => hp) trivial (by kst_all) (by ((intro z h2 h3; (simp only [List.forall_mem_cons, List.not_mem_nil, false_implies, implies_true, and_true, ne_eq] at h2); (simp only [List.contains_cons, List.contains_nil, Bool.or_false, Bool.or_eq_false_iff, beq_eq_false_iff_ne, ne_eq] at h3); (simp [kstB, h2, h3]; done)))) ?_ ?_
    · exact hP.up hs (by assumption) (by assumption)
    · have := hP.mid (by assumption)
      dsimp only
      omega
  · refine' ksw_end (_, _, _, _) (by assumption) (by assumption) (fun p hp => hp) trivial (by kst_all) (by ((intro z h2 h3; (simp only [List.forall_mem_cons, List.not_mem_nil, false_implies, implies_true, and_true, ne_eq] at h2); (simp only [List.contains_cons, List.contains_nil, Bool.or_false, Bool.or_eq_false_iff, beq_eq_false_iff_ne, ne_eq] at h3); (simp [kstB, h2, h3]; done)))) ?_ ?_
    · exact hP.down hs (by assumption) (by assumption)
    · have := hP.mid (by assumption)
      dsimp only
      omega
end Mine
end
section
open PySem PySem.W PyProof.Rows PySem.Calls PySem.Spec
namespace Mine
theorem rangeInts_ints : ∀ (vs : List Value) (ns : List Int), vs.length = ns.length → (∀ (j : Nat) (v : Value), vs[j]? = some v → ∃ t, v = .int (ns.getD j 0) t) → IntsAre vs ns
  | [], [], _, _ => IntsAre.nil
  | v :: r, [], e, _ => by simp at e
  | [], a :: l, e, _ => by simp at e
  | v :: r, a :: l, e, h => by
    obtain ⟨t, ht⟩ := h 0 v rfl
    have hv : v = .int a t := by rw [ht]; simp
    subst hv
    exact IntsAre.cons _ _ (rangeInts_ints r l (by simpa using e) fun j v hj => by simpa using h (j + 1) v hj)
section
variable {prog : Program} {w : World} {A : Around} {E : Value → Shared → Prop} {s : Shared} {h₀ : Heap} {L r : Addr} {m : Str → Option Value} {news : List (Addr × Obj)} {a b c : Int} {t₀ u₀ v₀ : Tok} {n : Nat} {Q : Value → Shared → Prop}
theorem my_list_range (hh : A.handled = none) (F : Fr h₀ L s.heap m) (N : News h₀ L s.heap news) (hr : IsRange s.heap r a b c t₀ u₀ v₀) (hsmall : Builtin.Range.small a b c = true) (hn : Builtin.Range.rangeSize a b c = (n : Int)) (hz : n ≤ 2 ^ 24)
    (h : ∀ D us k h' tk, Fr h₀ L h' m → News h₀ L h' ((D, listOf (List.toArray us) k) :: news) → (∀ p ∈ news, p.1 < D) → IntsAre us ((List.range n).map fun (i : Nat) => a + (i : Int) * c) → Q (.ref D) { s with heap := h', toks := tk }) :
    wpAny (model prog w) A (call (.type "list") [.ref r]) Q E s := by
  refine call_list_range hh hr hsmall hn hz fun h' tk acc k hk hD hI => ?_
  have hD' : h'.get? s.heap.objs.size = some (listOf (List.toArray acc.toList) k) := by
    rw [Array.toArray_toList]
    exact hD
  refine h _ acc.toList k h' tk (F.keeps hk) (news_pushed F N hk hD' rfl) (fun p hp => Heap.lt_size (N p hp).1) (rangeInts_ints _ _ (by rw [Array.length_toList]; simp [hI.1]) fun j v hj => ?_)
  obtain ⟨t, ht⟩ := hI.2 j v (by rw [← hj, Array.getElem?_toList])
  have hj' : j < acc.size := by
    have : j < acc.toList.length := (List.getElem?_eq_some_iff.mp hj).1
    simpa using this
  refine ⟨t, ht.trans ?_⟩
  rw [hI.1] at hj'
  congr 1
  simp [List.getD, hj']
end
theorem size2 (n : Nat) : Builtin.Range.rangeSize 2 (2 * ((n : Int) + 1)) 2 = (n : Int) := by
  unfold Builtin.Range.rangeSize
  simp only [show (2 : Int) > 0 by decide, if_true]
  split <;> omega
theorem small2 (n : Nat) (h : n ≤ 8) : Builtin.Range.small 2 (2 * ((n : Int) + 1)) 2 = true := by
  have all : ∀ k : Fin 9, Builtin.Range.small 2 (2 * ((k.1 : Int) + 1)) 2 = true := by decide +kernel
  exact all ⟨n, by omega⟩
theorem small1 {a b : Int} (ha : 0 ≤ a) (ha' : a ≤ 100) (hb : 0 ≤ b) (hb' : b ≤ 100) : Builtin.Range.small a b 1 = true := by
  exact small_one (by omega) (by omega) (by omega) (by omega)
/-- the table's row at a turn's column -/
def rowAt (e : Nat → Nat → Bool) (n r c : Nat) : List Int := (List.range n).map fun k => if k < c then (2 * dp e (r + 1) (k + 1) : Nat) else (2 * dp e r (k + 1) : Nat)
theorem rowAt_len (e : Nat → Nat → Bool) (n r c : Nat) : (rowAt e n r c).length = n := by simp [rowAt]
theorem rowAt_start (e : Nat → Nat → Bool) (n : Nat) : rowAt e n 0 0 = (List.range n).map fun (i : Nat) => (2 : Int) + (i : Int) * 2 := by
  unfold rowAt
  apply List.map_congr_left
  intro k _
  rw [if_neg (Nat.not_lt_zero _), dp_zero]
  omega
theorem rowAt_get (e : Nat → Nat → Bool) {n r c : Nat} (h : c < n) : (rowAt e n r c).getD c 0 = 2 * (dp e r (c + 1) : Int) := by
  simp [rowAt, List.getD, h]
theorem rowAt_set (e : Nat → Nat → Bool) {n r c : Nat} {v : Int} (hv : v = 2 * (dp e (r + 1) (c + 1) : Int)) : (rowAt e n r c).set c v = rowAt e n r (c + 1) := by
  apply List.ext_getElem?
  intro k
  simp only [rowAt, List.getElem?_set, List.getElem?_map, List.length_map, List.length_range]
  by_cases h : k < n
  · by_cases hk : c = k
    · subst hk
      simp [h, hv]
    · rw [if_neg hk]
      simp only [List.getElem?_range h, Option.map_some]
      congr 1
      by_cases h1 : k < c
      · rw [if_pos h1, if_pos (by omega)]
      · rw [if_neg h1, if_neg (by omega)]
  · have : ¬ c = k ∨ ¬ c < n := by omega
    rcases this with h1 | h1 <;> simp [h, h1]
theorem rowAt_end (e : Nat → Nat → Bool) (n r : Nat) : rowAt e n r n = rowAt e n (r + 1) 0 := by
  unfold rowAt
  apply List.map_congr_left
  intro k hk
  rw [if_pos (List.mem_range.mp hk), if_neg (Nat.not_lt_zero _)]
theorem Lets.item {x : Str} {i : Int} (h : Lets x) (h0 : 0 ≤ i) (h1 : i < x.length) : isLet (Txt.item x i) := by
  rw [it_pos h0 h1]
  have hm : x.cps.toList.getD i.toNat 0 ∈ x.cps.toList := by
    have : i.toNat < x.cps.toList.length := by rw [len_list]; omega
    rw [List.getD_eq_getElem?_getD, List.getElem?_eq_getElem this]
    exact List.getElem_mem this
  unfold isLet
  rcases h _ hm with e | e | e | e <;> rw [e] <;> simp
theorem subCost_item {x y : Str} {i j : Int} (h0 : 0 ≤ i) (h1 : i < x.length) (g0 : 0 ≤ j) (g1 : j < y.length) : subCost (Txt.item x i) (Txt.item y j) = if eqS x y i.toNat j.toNat = true then 0 else 2 := by
  rw [it_pos h0 h1, it_pos g0 g1]
  unfold subCost eqS
  simp
theorem lev_step {e : Nat → Nat → Bool} {rn cn : Nat} {di re g sc : Int} (hdi : di = 2 * (dp e rn cn : Int)) (hre : re = if cn = 0 then 2 * (rn : Int) else 2 * (dp e (rn + 1) cn : Int)) (hg : g = 2 * (dp e rn (cn + 1) : Int)) (hsc : sc = if e rn cn = true then 0 else 2) :
    (if di + sc < (if g < re then g else re) + 2 then di + sc else (if g < re then g else re) + 2) = 2 * (dp e (rn + 1) (cn + 1) : Int) := by
  rw [dp_succ]
  have h1 := dp_zero' e rn
  have h2 := dp_zero' e (rn + 1)
  have h3 := dp_le_right e rn cn
  by_cases h : cn = 0
  · subst h
    rw [if_pos rfl] at hre
    split at hsc <;> rename_i he <;> simp only [he] <;> (repeat' split) <;> simp_all <;> omega
  · rw [if_neg h] at hre
    split at hsc <;> rename_i he <;> simp only [he] <;> (repeat' split) <;> simp_all <;> omega
theorem my_set {prog : Program} {w : World} {A : Around} {E : Value → Shared → Prop} {s : Shared} {h₀ : Heap} {L D : Addr} {m : Str → Option Value} {rest : List (Addr × Obj)} {vs : List Value} {ns : List Int} {n : Nat} {k x : Int} {t u : Tok} {Q : Unit → Shared → Prop}
    (F : Fr h₀ L s.heap m) (N : News h₀ L s.heap ((D, listOf vs.toArray n) :: rest)) (hne : ∀ p ∈ rest, p.1 ≠ D) (hi : IntsAre vs ns) (h0 : 0 ≤ k) (h1 : k < ns.length) (hfit : k < 2 ^ 63)
    (h : ∀ ws h', Fr h₀ L h' m → News h₀ L h' ((D, listOf (List.toArray ws) n) :: rest) → IntsAre ws (ns.set k.toNat x) → Q () { s with heap := h' }) :
    wpAny (model prog w) A (setItem (.ref D) (.int k t) (.int x u)) Q E s :=
  ksa_set F N (Upd.head hne) hi h0 h1 hfit fun h' F' N' hi' _ _ => h _ h' F' N' hi'
/-- a contract with room for the calls within -/
def Says (w : World) (mean : ExcName → Option Value) (mg mb : Str → Option Value) (f : Addr) (news : List (Addr × Obj)) (vs : List Value) (R : Tok → Value) : Prop :=
  ∀ (dp un : Nat) (gd : Option (List Code)) (cn : Str) (cs : Scope) (a : Addr) (ccd : Value) (cl : List (Str × Addr)) (outer : List Env) (A₀ : Around) (base h₀ : Heap) (L : Addr) (m : Str → Option Value) (s : Shared) (Q E : Value → Shared → Prop),
    Below A₀ base outer h₀ → Fr h₀ L s.heap m → (Mine.hd.heap_39 w.params).In h₀ → News h₀ L s.heap news → Top Mine.hd.view_39 (looseW Mine.hd.view_39 [Str.ofString "bisect_left"]) mean mg mb h₀ → cs.kind = .function →
    dp + 4 < recursionLimit → un + 40 < cLine → (∀ (t : Tok) (h' : Heap) (tk' : Nat), Fr h₀ L h' m → News h₀ L h' news → Q (R t) { s with heap := h', toks := tk' }) →
    wpAny (model Challenge.rw_pg0152_01.row.prog w) (ktrTop dp un gd cn cs L a ccd cl outer) (call (.ref f) vs) Q E s
end Mine
end
section
open PySem PySem.W PyProof.Rows PySem.Calls
set_option pp.deepTerms false
set_option pp.deepTerms.threshold 8
namespace Mine
def SwapP (a b x y : Str) : Prop := x.length ≤ y.length ∧ edit x y = edit a b ∧ 1 ≤ x.length ∧ y.length ≤ 8 ∧ Lets x ∧ Lets y
/-- a text is reckoned: the frame and the ledger stand -/
def VDone (h₀ : Heap) (L : Addr) (m : Str → Option Value) (news : List (Addr × Obj)) (x : Str) (s : Shared) (v : Value) (s₂ : Shared) : Prop :=
  ∃ (t : Tok) (h : Heap) (tk : Nat), v = .str x t ∧ s₂ = { s with heap := h, toks := tk } ∧ Fr h₀ L h m ∧ News h₀ L h news
theorem VDone.intro {h₀ : Heap} {L : Addr} {m : Str → Option Value} {news : List (Addr × Obj)} {x y : Str} {s : Shared} {t : Tok} {h : Heap} {tk : Nat} (F : Fr h₀ L h m) (N : News h₀ L h news) (e : y = x) :
    VDone h₀ L m news x s (.str y t) { s with heap := h, toks := tk } := ⟨t, h, tk, by rw [e], rfl, F, N⟩
theorem my_join {prog : Program} {w : World} {A : Around} {E : Value → Shared → Prop} {Q : Value → Shared → Prop} {s : Shared} {h₀ : Heap} {L : Addr} {m : Str → Option Value} {news : List (Addr × Obj)} {tree : Sem Value} (x : Str)
    (F : Fr h₀ L s.heap m) (N : News h₀ L s.heap news) (h : wpAny (model prog w) A tree (VDone h₀ L m news x s) E s)
    (done : ∀ t h tk, Fr h₀ L h m → News h₀ L h news → Q (.str x t) { s with heap := h, toks := tk }) : wpAny (model prog w) A tree Q E s := by
  refine wpAny_mono h (fun v s₂ q => ?_) fun _ _ x => x
  obtain ⟨t, hh, tk, rfl, rfl, F', N'⟩ := q
  exact done t hh tk F' N'
theorem cut_zero (x : Str) : cutTo x 0 = x := if_pos rfl
theorem cut_else {x : Str} {q : Int} (h : q ≠ 0) : cutTo x q = Txt.slice x none (some q) := if_neg h
local macro_rules | `(tactic| walk_at "subscriptTail") => `(tactic| (k_here; (try dsimp only); (with_reducible show wpAny _ _ (subscriptTail _ _ (Value.str _ _) (Value.int _ _)) _ _ _); (refine item_str (fitsSsize_of (N := 9223372036854775808) (by omega) (by omega) (Int.le_refl _)) (by omega) (by omega) ?_); intro _))
local macro_rules | `(tactic| walk_at "subscriptTail Name Slice str ref") => `(tactic| (k_here; (with_reducible show wpAny _ _ (subscriptTail _ (Expr.Slice none (some (Expr.BoolOp _ _ _)) none _) (Value.str _ _) (Value.ref _)) _ _ _); (with_reducible rename Fr _ _ _ _ => F'); (with_reducible rename News _ _ _ _ => N'); (with_reducible refine slice_strN_nn (s := ⟨_, _, _, _, _⟩) F' N' ?_); intro _ _ _ _ _))
local macro_rules | `(tactic| walk_at "subscriptTail Name Slice str ref") => `(tactic| (k_here; (with_reducible show wpAny _ _ (subscriptTail _ (Expr.Slice none (some (Expr.BoolOp _ _ _)) none _) (Value.str _ _) (Value.ref _)) _ _ _); (with_reducible rename Fr _ _ _ _ => F'); (with_reducible rename News _ _ _ _ => N'); (with_reducible refine slice_strN_ns (s := ⟨_, _, _, _, _⟩) F' N' ?_); intro _ _ _ _ _))
theorem cut_eq0 {x : Str} {q : Int} (h : q = 0) : Txt.slice x none none = cutTo x q := by rw [sl_all, h, cut_zero]
local macro_rules | `(tactic| walk_at "call builtin:min") => `(tactic| ((with_reducible show wpAny _ _ (call (Value.builtin "min") [Value.int _ _, Value.int _ _]) _ _ _); (rename Fr _ _ _ _ => lF'); (rename News _ _ _ _ => lN'); refine' min_two_N (by rfl) lF' lN' ?_; clear lF' lN'; intro h9 tk9 F9 N9))
set_option maxRecDepth 100000 in
set_option maxHeartbeats 8000000 in
theorem lev_claim (w : World) (mean : ExcName → Option Value) (mg mb : Str → Option Value) (news : List (Addr × Obj)) (a b : Str) (ta tb tc : Tok) (c : Int)
    (ha : Lets a) (hb : Lets b) (la : a.length ≤ 8) (lb : b.length ≤ 8) (hc : c = 2 * edit a b) :
   Says w mean mg mb 51 news [.str a ta, .str b tb, .int c tc] (fun t => .int c t) := by
  w_top off
  unfold Says
  k_fill
  intros
  rename_i hret
  refine wpAny_call ?_
  k_dflt cell_enter
  (repeat' ((fail_if_success (with_reducible show wpAny _ _ (exec (Stmt.While _ _ _ _) _) _ _ _)); (fail_if_success (with_reducible show KswEnd _ _ _ _ _ _ _ _ _ _ _ _)); (fail_if_success (with_reducible show WDone _ _ _ _ _ _ _ _ _ _)); (fail_if_success (with_reducible show wpAny _ _ (exec (Stmt.If (Expr.Compare (Expr.Call _ _ _ _) _ _ _) _ _ _) _) _ _ _)); (fail_if_success (with_reducible show wpAny _ _ (call (Value.type "list") _) _ _ _)); (fail_if_success (with_reducible show wpAny _ _ (call (Value.ref 44) _) _ _ _)); (fail_if_success (with_reducible show wpAny _ _ (subscriptTail _ _ (Value.ref _) (Value.int _ _)) _ _ _)); (fail_if_success (with_reducible show wpAny _ _ (setItem (Value.ref _) (Value.int _ _) (Value.int _ _)) _ _ _)); (fail_if_success (with_reducible show wpAny _ _ (exec (Stmt.For _ _ _ _ _) _) _ _ _)); (fail_if_success (with_reducible show wpAny _ _ (pyIter (Value.ref _)) _ _ _)); (fail_if_success (with_reducible show InvEndN _ _ _ _ _ _ _)); (fail_if_success (with_reducible show VDone _ _ _ _ _ _ _ _)); (fail_if_success (with_reducible show wpAny _ _ (eval (Expr.Subscript _ (Expr.Slice none (some (Expr.BoolOp _ _ _)) none _) _) _) _ _ _)); first | (k_unfold; (try dsimp only)) | (k_end; wrow_close) | walk1 | (dsimp only; walk1) | (leave1; walk_say "STEP leave1"; try dsimp only) | fail "no step"))
  · have e0 : edit a b = 0 := by rw [beq_iff_eq.mp (by assumption : (a == b) = true)]; exact edit_same b
    exact cb_retI hret (by rw [hc, e0]; rfl) (by assumption) (by assumption)
  (rename Fr _ _ _ _ => lF'); (rename News _ _ _ _ => lN')
  refine' my_while (σ := Int × Tok) (fun _ => news) (fun c => [(Str.ofString "pre", .int c.1 c.2)]) [] (fun c => preP a b c.1) (fun c => preP a b c.1) (fun c => (a.length - c.1).toNat) (0, _) lF' lN' ?kk (preP.start a b) ?kt ?kd ?hE
  case kk => kst_all
  case hE => passes_own
  case kt =>
    clear lF' lN'
    rintro ⟨pre, tpre⟩ u h tk hP F N
    dsimp only at hP F N ⊢
    have hl := hP.lens
    have hl0 := hP.1
    have hl1 := hP.2.1
    have hl2 := hP.2.2.1
    try k_fold
    (repeat' ((fail_if_success (with_reducible show wpAny _ _ (exec (Stmt.While _ _ _ _) _) _ _ _)); (fail_if_success (with_reducible show KswEnd _ _ _ _ _ _ _ _ _ _ _ _)); (fail_if_success (with_reducible show WDone _ _ _ _ _ _ _ _ _ _)); (fail_if_success (with_reducible show wpAny _ _ (exec (Stmt.If (Expr.Compare (Expr.Call _ _ _ _) _ _ _) _ _ _) _) _ _ _)); (fail_if_success (with_reducible show wpAny _ _ (call (Value.type "list") _) _ _ _)); (fail_if_success (with_reducible show wpAny _ _ (call (Value.ref 44) _) _ _ _)); (fail_if_success (with_reducible show wpAny _ _ (subscriptTail _ _ (Value.ref _) (Value.int _ _)) _ _ _)); (fail_if_success (with_reducible show wpAny _ _ (setItem (Value.ref _) (Value.int _ _) (Value.int _ _)) _ _ _)); (fail_if_success (with_reducible show wpAny _ _ (exec (Stmt.For _ _ _ _ _) _) _ _ _)); (fail_if_success (with_reducible show wpAny _ _ (pyIter (Value.ref _)) _ _ _)); (fail_if_success (with_reducible show InvEndN _ _ _ _ _ _ _)); (fail_if_success (with_reducible show VDone _ _ _ _ _ _ _ _)); (fail_if_success (with_reducible show wpAny _ _ (eval (Expr.Subscript _ (Expr.Slice none (some (Expr.BoolOp _ _ _)) none _) _) _) _ _ _)); first | (k_unfold; (try dsimp only)) | (k_end; wrow_close) | walk1 | (dsimp only; walk1) | (leave1; walk_say "STEP leave1"; try dsimp only) | fail "no step"))
    all_goals first
      | (((refine' WDone.intro (_, _) (by assumption) (by assumption) (fun p hp => hp) (by kst_all) (by ((intro z h2 h3; (simp only [List.forall_mem_cons, List.not_mem_nil, false_implies, implies_true, and_true, ne_eq] at h2); (simp only [List.contains_cons, List.contains_nil, Bool.or_false, Bool.or_eq_false_iff, beq_eq_false_iff_ne, ne_eq] at h3); (simp [kstB, h2, h3]; done)))) ?_)); exact hP)
      | skip
    refine' ksw_end (_, _) (by assumption) (by assumption) (fun p hp => hp) trivial (by kst_all) (by ((intro z h2 h3; (simp only [List.forall_mem_cons, List.not_mem_nil, false_implies, implies_true, and_true, ne_eq] at h2); (simp only [List.contains_cons, List.contains_nil, Bool.or_false, Bool.or_eq_false_iff, beq_eq_false_iff_ne, ne_eq] at h3); (simp [kstB, h2, h3]; done)))) (hP.next (by omega) (by omega) (by assumption)) ?_
    dsimp only
    omega
  case kd =>
    rintro ⟨pre, tpre⟩ u h tk hP F N
    dsimp only at hP F N ⊢
    have hl := hP.lens
    have hl0 := hP.1
    have hl1 := hP.2.1
    have hl2 := hP.2.2.1
    have he := hP.edit
    have ha' := ha.from hl0 hl1
    have hb' := hb.from hl0 hl2
    try k_fold
    (repeat' ((fail_if_success (with_reducible show wpAny _ _ (exec (Stmt.While _ _ _ _) _) _ _ _)); (fail_if_success (with_reducible show KswEnd _ _ _ _ _ _ _ _ _ _ _ _)); (fail_if_success (with_reducible show WDone _ _ _ _ _ _ _ _ _ _)); (fail_if_success (with_reducible show wpAny _ _ (exec (Stmt.If (Expr.Compare (Expr.Call _ _ _ _) _ _ _) _ _ _) _) _ _ _)); (fail_if_success (with_reducible show wpAny _ _ (call (Value.type "list") _) _ _ _)); (fail_if_success (with_reducible show wpAny _ _ (call (Value.ref 44) _) _ _ _)); (fail_if_success (with_reducible show wpAny _ _ (subscriptTail _ _ (Value.ref _) (Value.int _ _)) _ _ _)); (fail_if_success (with_reducible show wpAny _ _ (setItem (Value.ref _) (Value.int _ _) (Value.int _ _)) _ _ _)); (fail_if_success (with_reducible show wpAny _ _ (exec (Stmt.For _ _ _ _ _) _) _ _ _)); (fail_if_success (with_reducible show wpAny _ _ (pyIter (Value.ref _)) _ _ _)); (fail_if_success (with_reducible show InvEndN _ _ _ _ _ _ _)); (fail_if_success (with_reducible show VDone _ _ _ _ _ _ _ _)); (fail_if_success (with_reducible show wpAny _ _ (eval (Expr.Subscript _ (Expr.Slice none (some (Expr.BoolOp _ _ _)) none _) _) _) _ _ _)); first | (k_unfold; (try dsimp only)) | (k_end; wrow_close) | walk1 | (dsimp only; walk1) | (leave1; walk_say "STEP leave1"; try dsimp only) | fail "no step"))
    rw [← he] at hc
    generalize Txt.slice a (some pre) none = a1 at *
    generalize Txt.slice b (some pre) none = b1 at *
    have la1 : a1.length ≤ 8 := by omega
    have lb1 : b1.length ≤ 8 := by omega
    clear he hl hl0 hl1 hl2 hP ha hb la lb
    (rename Fr _ _ _ _ => lF'); (rename News _ _ _ _ => lN')
    refine' my_while (σ := Int × Tok) (fun _ => news) (fun c => [(Str.ofString "post", .int c.1 c.2)]) [] (fun c => postP a1 b1 c.1) (fun c => postP a1 b1 c.1) (fun c => (a1.length + c.1).toNat) (0, _) lF' lN' ?kk (postP.start a1 b1) ?kt ?kd ?hE
    case kk => kst_all
    case hE => passes_own
    case kt =>
      clear lF' lN'
      rintro ⟨post, tpost⟩ u h tk hP F N
      dsimp only at hP F N ⊢
      have hl0 := hP.1
      have hl1 := hP.2.1
      have hl2 := hP.2.2.1
      try k_fold
      (repeat' ((fail_if_success (with_reducible show wpAny _ _ (exec (Stmt.While _ _ _ _) _) _ _ _)); (fail_if_success (with_reducible show KswEnd _ _ _ _ _ _ _ _ _ _ _ _)); (fail_if_success (with_reducible show WDone _ _ _ _ _ _ _ _ _ _)); (fail_if_success (with_reducible show wpAny _ _ (exec (Stmt.If (Expr.Compare (Expr.Call _ _ _ _) _ _ _) _ _ _) _) _ _ _)); (fail_if_success (with_reducible show wpAny _ _ (call (Value.type "list") _) _ _ _)); (fail_if_success (with_reducible show wpAny _ _ (call (Value.ref 44) _) _ _ _)); (fail_if_success (with_reducible show wpAny _ _ (subscriptTail _ _ (Value.ref _) (Value.int _ _)) _ _ _)); (fail_if_success (with_reducible show wpAny _ _ (setItem (Value.ref _) (Value.int _ _) (Value.int _ _)) _ _ _)); (fail_if_success (with_reducible show wpAny _ _ (exec (Stmt.For _ _ _ _ _) _) _ _ _)); (fail_if_success (with_reducible show wpAny _ _ (pyIter (Value.ref _)) _ _ _)); (fail_if_success (with_reducible show InvEndN _ _ _ _ _ _ _)); (fail_if_success (with_reducible show VDone _ _ _ _ _ _ _ _)); (fail_if_success (with_reducible show wpAny _ _ (eval (Expr.Subscript _ (Expr.Slice none (some (Expr.BoolOp _ _ _)) none _) _) _) _ _ _)); first | (k_unfold; (try dsimp only)) | (k_end; wrow_close) | walk1 | (dsimp only; walk1) | (leave1; walk_say "STEP leave1"; try dsimp only) | fail "no step"))
      have hca := cut_len hl0 hl1
      have hcb := cut_len hl0 hl2
      (rename Fr _ _ _ _ => lF'); (rename News _ _ _ _ => lN')
      refine' my_join (cutTo a1 post) lF' lN' ?kj ?_
      case kj =>
        walk1
        (repeat' ((fail_if_success (with_reducible show wpAny _ _ (exec (Stmt.While _ _ _ _) _) _ _ _)); (fail_if_success (with_reducible show KswEnd _ _ _ _ _ _ _ _ _ _ _ _)); (fail_if_success (with_reducible show WDone _ _ _ _ _ _ _ _ _ _)); (fail_if_success (with_reducible show wpAny _ _ (exec (Stmt.If (Expr.Compare (Expr.Call _ _ _ _) _ _ _) _ _ _) _) _ _ _)); (fail_if_success (with_reducible show wpAny _ _ (call (Value.type "list") _) _ _ _)); (fail_if_success (with_reducible show wpAny _ _ (call (Value.ref 44) _) _ _ _)); (fail_if_success (with_reducible show wpAny _ _ (subscriptTail _ _ (Value.ref _) (Value.int _ _)) _ _ _)); (fail_if_success (with_reducible show wpAny _ _ (setItem (Value.ref _) (Value.int _ _) (Value.int _ _)) _ _ _)); (fail_if_success (with_reducible show wpAny _ _ (exec (Stmt.For _ _ _ _ _) _) _ _ _)); (fail_if_success (with_reducible show wpAny _ _ (pyIter (Value.ref _)) _ _ _)); (fail_if_success (with_reducible show InvEndN _ _ _ _ _ _ _)); (fail_if_success (with_reducible show VDone _ _ _ _ _ _ _ _)); (fail_if_success (with_reducible show wpAny _ _ (eval (Expr.Subscript _ (Expr.Slice none (some (Expr.BoolOp _ _ _)) none _) _) _) _ _ _)); first | (k_unfold; (try dsimp only)) | (k_end; wrow_close) | walk1 | (dsimp only; walk1) | (leave1; walk_say "STEP leave1"; try dsimp only) | fail "no step"))
        all_goals ((refine VDone.intro (by assumption) (by assumption) ?_; first | (with_reducible refine cut_eq0 ?_; assumption) | (with_reducible refine (cut_else ?_).symm; assumption)))
      clear lF' lN'
      intro t1 h1 tk1 F1 N1
      try dsimp only
      try k_fold
      (repeat' ((fail_if_success (with_reducible show wpAny _ _ (exec (Stmt.While _ _ _ _) _) _ _ _)); (fail_if_success (with_reducible show KswEnd _ _ _ _ _ _ _ _ _ _ _ _)); (fail_if_success (with_reducible show WDone _ _ _ _ _ _ _ _ _ _)); (fail_if_success (with_reducible show wpAny _ _ (exec (Stmt.If (Expr.Compare (Expr.Call _ _ _ _) _ _ _) _ _ _) _) _ _ _)); (fail_if_success (with_reducible show wpAny _ _ (call (Value.type "list") _) _ _ _)); (fail_if_success (with_reducible show wpAny _ _ (call (Value.ref 44) _) _ _ _)); (fail_if_success (with_reducible show wpAny _ _ (subscriptTail _ _ (Value.ref _) (Value.int _ _)) _ _ _)); (fail_if_success (with_reducible show wpAny _ _ (setItem (Value.ref _) (Value.int _ _) (Value.int _ _)) _ _ _)); (fail_if_success (with_reducible show wpAny _ _ (exec (Stmt.For _ _ _ _ _) _) _ _ _)); (fail_if_success (with_reducible show wpAny _ _ (pyIter (Value.ref _)) _ _ _)); (fail_if_success (with_reducible show InvEndN _ _ _ _ _ _ _)); (fail_if_success (with_reducible show VDone _ _ _ _ _ _ _ _)); (fail_if_success (with_reducible show wpAny _ _ (eval (Expr.Subscript _ (Expr.Slice none (some (Expr.BoolOp _ _ _)) none _) _) _) _ _ _)); first | (k_unfold; (try dsimp only)) | (k_end; wrow_close) | walk1 | (dsimp only; walk1) | (leave1; walk_say "STEP leave1"; try dsimp only) | fail "no step"))
      all_goals first
        | (((refine' WDone.intro (_, _) (by assumption) (by assumption) (fun p hp => hp) (by kst_all) (by ((intro z h2 h3; (simp only [List.forall_mem_cons, List.not_mem_nil, false_implies, implies_true, and_true, ne_eq] at h2); (simp only [List.contains_cons, List.contains_nil, Bool.or_false, Bool.or_eq_false_iff, beq_eq_false_iff_ne, ne_eq] at h3); (simp [kstB, h2, h3]; done)))) ?_)); exact hP)
        | skip
      (rename Fr _ _ _ _ => lF'); (rename News _ _ _ _ => lN')
      refine' my_join (cutTo b1 post) lF' lN' ?kj ?_
      case kj =>
        walk1
        (repeat' ((fail_if_success (with_reducible show wpAny _ _ (exec (Stmt.While _ _ _ _) _) _ _ _)); (fail_if_success (with_reducible show KswEnd _ _ _ _ _ _ _ _ _ _ _ _)); (fail_if_success (with_reducible show WDone _ _ _ _ _ _ _ _ _ _)); (fail_if_success (with_reducible show wpAny _ _ (exec (Stmt.If (Expr.Compare (Expr.Call _ _ _ _) _ _ _) _ _ _) _) _ _ _)); (fail_if_success (with_reducible show wpAny _ _ (call (Value.type "list") _) _ _ _)); (fail_if_success (with_reducible show wpAny _ _ (call (Value.ref 44) _) _ _ _)); (fail_if_success (with_reducible show wpAny _ _ (subscriptTail _ _ (Value.ref _) (Value.int _ _)) _ _ _)); (fail_if_success (with_reducible show wpAny _ _ (setItem (Value.ref _) (Value.int _ _) (Value.int _ _)) _ _ _)); (fail_if_success (with_reducible show wpAny _ _ (exec (Stmt.For _ _ _ _ _) _) _ _ _)); (fail_if_success (with_reducible show wpAny _ _ (pyIter (Value.ref _)) _ _ _)); (fail_if_success (with_reducible show InvEndN _ _ _ _ _ _ _)); (fail_if_success (with_reducible show VDone _ _ _ _ _ _ _ _)); (fail_if_success (with_reducible show wpAny _ _ (eval (Expr.Subscript _ (Expr.Slice none (some (Expr.BoolOp _ _ _)) none _) _) _) _ _ _)); first | (k_unfold; (try dsimp only)) | (k_end; wrow_close) | walk1 | (dsimp only; walk1) | (leave1; walk_say "STEP leave1"; try dsimp only) | fail "no step"))
        all_goals ((refine VDone.intro (by assumption) (by assumption) ?_; first | (with_reducible refine cut_eq0 ?_; assumption) | (with_reducible refine (cut_else ?_).symm; assumption)))
      clear lF' lN'
      intro t1 h1 tk1 F1 N1
      try dsimp only
      try k_fold
      (repeat' ((fail_if_success (with_reducible show wpAny _ _ (exec (Stmt.While _ _ _ _) _) _ _ _)); (fail_if_success (with_reducible show KswEnd _ _ _ _ _ _ _ _ _ _ _ _)); (fail_if_success (with_reducible show WDone _ _ _ _ _ _ _ _ _ _)); (fail_if_success (with_reducible show wpAny _ _ (exec (Stmt.If (Expr.Compare (Expr.Call _ _ _ _) _ _ _) _ _ _) _) _ _ _)); (fail_if_success (with_reducible show wpAny _ _ (call (Value.type "list") _) _ _ _)); (fail_if_success (with_reducible show wpAny _ _ (call (Value.ref 44) _) _ _ _)); (fail_if_success (with_reducible show wpAny _ _ (subscriptTail _ _ (Value.ref _) (Value.int _ _)) _ _ _)); (fail_if_success (with_reducible show wpAny _ _ (setItem (Value.ref _) (Value.int _ _) (Value.int _ _)) _ _ _)); (fail_if_success (with_reducible show wpAny _ _ (exec (Stmt.For _ _ _ _ _) _) _ _ _)); (fail_if_success (with_reducible show wpAny _ _ (pyIter (Value.ref _)) _ _ _)); (fail_if_success (with_reducible show InvEndN _ _ _ _ _ _ _)); (fail_if_success (with_reducible show VDone _ _ _ _ _ _ _ _)); (fail_if_success (with_reducible show wpAny _ _ (eval (Expr.Subscript _ (Expr.Slice none (some (Expr.BoolOp _ _ _)) none _) _) _) _ _ _)); first | (k_unfold; (try dsimp only)) | (k_end; wrow_close) | walk1 | (dsimp only; walk1) | (leave1; walk_say "STEP leave1"; try dsimp only) | fail "no step"))
      all_goals first
        | (((refine' WDone.intro (_, _) (by assumption) (by assumption) (fun p hp => hp) (by kst_all) (by ((intro z h2 h3; (simp only [List.forall_mem_cons, List.not_mem_nil, false_implies, implies_true, and_true, ne_eq] at h2); (simp only [List.contains_cons, List.contains_nil, Bool.or_false, Bool.or_eq_false_iff, beq_eq_false_iff_ne, ne_eq] at h3); (simp [kstB, h2, h3]; done)))) ?_)); exact hP)
        | skip
      refine' ksw_end (_, _) (by assumption) (by assumption) (fun p hp => hp) trivial (by kst_all) (by ((intro z h2 h3; (simp only [List.forall_mem_cons, List.not_mem_nil, false_implies, implies_true, and_true, ne_eq] at h2); (simp only [List.contains_cons, List.contains_nil, Bool.or_false, Bool.or_eq_false_iff, beq_eq_false_iff_ne, ne_eq] at h3); (simp [kstB, h2, h3]; done)))) (hP.next (by omega) (by omega) (by assumption)) ?_
      dsimp only
      omega
    case kd =>
      rintro ⟨post, tpost⟩ u2 h tk hP F N
      dsimp only at hP F N ⊢
      have hl0 := hP.1
      have hl1 := hP.2.1
      have hl2 := hP.2.2.1
      have hca := cut_len hl0 hl1
      have hcb := cut_len hl0 hl2
      try k_fold
      (repeat' ((fail_if_success (with_reducible show wpAny _ _ (exec (Stmt.While _ _ _ _) _) _ _ _)); (fail_if_success (with_reducible show KswEnd _ _ _ _ _ _ _ _ _ _ _ _)); (fail_if_success (with_reducible show WDone _ _ _ _ _ _ _ _ _ _)); (fail_if_success (with_reducible show wpAny _ _ (exec (Stmt.If (Expr.Compare (Expr.Call _ _ _ _) _ _ _) _ _ _) _) _ _ _)); (fail_if_success (with_reducible show wpAny _ _ (call (Value.type "list") _) _ _ _)); (fail_if_success (with_reducible show wpAny _ _ (call (Value.ref 44) _) _ _ _)); (fail_if_success (with_reducible show wpAny _ _ (subscriptTail _ _ (Value.ref _) (Value.int _ _)) _ _ _)); (fail_if_success (with_reducible show wpAny _ _ (setItem (Value.ref _) (Value.int _ _) (Value.int _ _)) _ _ _)); (fail_if_success (with_reducible show wpAny _ _ (exec (Stmt.For _ _ _ _ _) _) _ _ _)); (fail_if_success (with_reducible show wpAny _ _ (pyIter (Value.ref _)) _ _ _)); (fail_if_success (with_reducible show InvEndN _ _ _ _ _ _ _)); (fail_if_success (with_reducible show VDone _ _ _ _ _ _ _ _)); (fail_if_success (with_reducible show wpAny _ _ (eval (Expr.Subscript _ (Expr.Slice none (some (Expr.BoolOp _ _ _)) none _) _) _) _ _ _)); first | (k_unfold; (try dsimp only)) | (k_end; wrow_close) | walk1 | (dsimp only; walk1) | (leave1; walk_say "STEP leave1"; try dsimp only) | fail "no step"))
      (rename Fr _ _ _ _ => lF'); (rename News _ _ _ _ => lN')
      refine' my_join (cutTo a1 post) lF' lN' ?kj ?_
      case kj =>
        walk1
        (repeat' ((fail_if_success (with_reducible show wpAny _ _ (exec (Stmt.While _ _ _ _) _) _ _ _)); (fail_if_success (with_reducible show KswEnd _ _ _ _ _ _ _ _ _ _ _ _)); (fail_if_success (with_reducible show WDone _ _ _ _ _ _ _ _ _ _)); (fail_if_success (with_reducible show wpAny _ _ (exec (Stmt.If (Expr.Compare (Expr.Call _ _ _ _) _ _ _) _ _ _) _) _ _ _)); (fail_if_success (with_reducible show wpAny _ _ (call (Value.type "list") _) _ _ _)); (fail_if_success (with_reducible show wpAny _ _ (call (Value.ref 44) _) _ _ _)); (fail_if_success (with_reducible show wpAny _ _ (subscriptTail _ _ (Value.ref _) (Value.int _ _)) _ _ _)); (fail_if_success (with_reducible show wpAny _ _ (setItem (Value.ref _) (Value.int _ _) (Value.int _ _)) _ _ _)); (fail_if_success (with_reducible show wpAny _ _ (exec (Stmt.For _ _ _ _ _) _) _ _ _)); (fail_if_success (with_reducible show wpAny _ _ (pyIter (Value.ref _)) _ _ _)); (fail_if_success (with_reducible show InvEndN _ _ _ _ _ _ _)); (fail_if_success (with_reducible show VDone _ _ _ _ _ _ _ _)); (fail_if_success (with_reducible show wpAny _ _ (eval (Expr.Subscript _ (Expr.Slice none (some (Expr.BoolOp _ _ _)) none _) _) _) _ _ _)); first | (k_unfold; (try dsimp only)) | (k_end; wrow_close) | walk1 | (dsimp only; walk1) | (leave1; walk_say "STEP leave1"; try dsimp only) | fail "no step"))
        all_goals ((refine VDone.intro (by assumption) (by assumption) ?_; first | (with_reducible refine cut_eq0 ?_; assumption) | (with_reducible refine (cut_else ?_).symm; assumption)))
      clear lF' lN'
      intro t1 h1 tk1 F1 N1
      try dsimp only
      try k_fold
      (repeat' ((fail_if_success (with_reducible show wpAny _ _ (exec (Stmt.While _ _ _ _) _) _ _ _)); (fail_if_success (with_reducible show KswEnd _ _ _ _ _ _ _ _ _ _ _ _)); (fail_if_success (with_reducible show WDone _ _ _ _ _ _ _ _ _ _)); (fail_if_success (with_reducible show wpAny _ _ (exec (Stmt.If (Expr.Compare (Expr.Call _ _ _ _) _ _ _) _ _ _) _) _ _ _)); (fail_if_success (with_reducible show wpAny _ _ (call (Value.type "list") _) _ _ _)); (fail_if_success (with_reducible show wpAny _ _ (call (Value.ref 44) _) _ _ _)); (fail_if_success (with_reducible show wpAny _ _ (subscriptTail _ _ (Value.ref _) (Value.int _ _)) _ _ _)); (fail_if_success (with_reducible show wpAny _ _ (setItem (Value.ref _) (Value.int _ _) (Value.int _ _)) _ _ _)); (fail_if_success (with_reducible show wpAny _ _ (exec (Stmt.For _ _ _ _ _) _) _ _ _)); (fail_if_success (with_reducible show wpAny _ _ (pyIter (Value.ref _)) _ _ _)); (fail_if_success (with_reducible show InvEndN _ _ _ _ _ _ _)); (fail_if_success (with_reducible show VDone _ _ _ _ _ _ _ _)); (fail_if_success (with_reducible show wpAny _ _ (eval (Expr.Subscript _ (Expr.Slice none (some (Expr.BoolOp _ _ _)) none _) _) _) _ _ _)); first | (k_unfold; (try dsimp only)) | (k_end; wrow_close) | walk1 | (dsimp only; walk1) | (leave1; walk_say "STEP leave1"; try dsimp only) | fail "no step"))
      (rename Fr _ _ _ _ => lF'); (rename News _ _ _ _ => lN')
      refine' my_join (cutTo b1 post) lF' lN' ?kj ?_
      case kj =>
        walk1
        (repeat' ((fail_if_success (with_reducible show wpAny _ _ (exec (Stmt.While _ _ _ _) _) _ _ _)); (fail_if_success (with_reducible show KswEnd _ _ _ _ _ _ _ _ _ _ _ _)); (fail_if_success (with_reducible show WDone _ _ _ _ _ _ _ _ _ _)); (fail_if_success (with_reducible show wpAny _ _ (exec (Stmt.If (Expr.Compare (Expr.Call _ _ _ _) _ _ _) _ _ _) _) _ _ _)); (fail_if_success (with_reducible show wpAny _ _ (call (Value.type "list") _) _ _ _)); (fail_if_success (with_reducible show wpAny _ _ (call (Value.ref 44) _) _ _ _)); (fail_if_success (with_reducible show wpAny _ _ (subscriptTail _ _ (Value.ref _) (Value.int _ _)) _ _ _)); (fail_if_success (with_reducible show wpAny _ _ (setItem (Value.ref _) (Value.int _ _) (Value.int _ _)) _ _ _)); (fail_if_success (with_reducible show wpAny _ _ (exec (Stmt.For _ _ _ _ _) _) _ _ _)); (fail_if_success (with_reducible show wpAny _ _ (pyIter (Value.ref _)) _ _ _)); (fail_if_success (with_reducible show InvEndN _ _ _ _ _ _ _)); (fail_if_success (with_reducible show VDone _ _ _ _ _ _ _ _)); (fail_if_success (with_reducible show wpAny _ _ (eval (Expr.Subscript _ (Expr.Slice none (some (Expr.BoolOp _ _ _)) none _) _) _) _ _ _)); first | (k_unfold; (try dsimp only)) | (k_end; wrow_close) | walk1 | (dsimp only; walk1) | (leave1; walk_say "STEP leave1"; try dsimp only) | fail "no step"))
        all_goals ((refine VDone.intro (by assumption) (by assumption) ?_; first | (with_reducible refine cut_eq0 ?_; assumption) | (with_reducible refine (cut_else ?_).symm; assumption)))
      clear lF' lN'
      intro t1 h1 tk1 F1 N1
      try dsimp only
      try k_fold
      have he := hP.edit
      have ha2 := ha'.cut hl0 hl1
      have hb2 := hb'.cut hl0 hl2
      rw [← he] at hc
      generalize cutTo a1 post = a2 at *
      generalize cutTo b1 post = b2 at *
      have la2 : a2.length ≤ 8 := by omega
      have lb2 : b2.length ≤ 8 := by omega
      clear he hl0 hl1 hl2 hP ha' hb' la1 lb1 hca hcb
      (repeat' ((fail_if_success (with_reducible show wpAny _ _ (exec (Stmt.While _ _ _ _) _) _ _ _)); (fail_if_success (with_reducible show KswEnd _ _ _ _ _ _ _ _ _ _ _ _)); (fail_if_success (with_reducible show WDone _ _ _ _ _ _ _ _ _ _)); (fail_if_success (with_reducible show wpAny _ _ (exec (Stmt.If (Expr.Compare (Expr.Call _ _ _ _) _ _ _) _ _ _) _) _ _ _)); (fail_if_success (with_reducible show wpAny _ _ (call (Value.type "list") _) _ _ _)); (fail_if_success (with_reducible show wpAny _ _ (call (Value.ref 44) _) _ _ _)); (fail_if_success (with_reducible show wpAny _ _ (subscriptTail _ _ (Value.ref _) (Value.int _ _)) _ _ _)); (fail_if_success (with_reducible show wpAny _ _ (setItem (Value.ref _) (Value.int _ _) (Value.int _ _)) _ _ _)); (fail_if_success (with_reducible show wpAny _ _ (exec (Stmt.For _ _ _ _ _) _) _ _ _)); (fail_if_success (with_reducible show wpAny _ _ (pyIter (Value.ref _)) _ _ _)); (fail_if_success (with_reducible show InvEndN _ _ _ _ _ _ _)); (fail_if_success (with_reducible show VDone _ _ _ _ _ _ _ _)); (fail_if_success (with_reducible show wpAny _ _ (eval (Expr.Subscript _ (Expr.Slice none (some (Expr.BoolOp _ _ _)) none _) _) _) _ _ _)); first | (k_unfold; (try dsimp only)) | (k_end; wrow_close) | walk1 | (dsimp only; walk1) | (leave1; walk_say "STEP leave1"; try dsimp only) | fail "no step"))
      all_goals first
        | exact cb_retI hret (by have := edit_empty (a := a2) (b := b2) (by omega); omega) (by assumption) (by assumption)
        | skip
      (rename Fr _ _ _ _ => lF'); (rename News _ _ _ _ => lN')
      refine' my_cut (σ := (Str × Tok) × (Str × Tok)) (fun _ => news) (fun c => [(Str.ofString "a", .str c.1.1 c.1.2), (Str.ofString "b", .str c.2.1 c.2.2)]) [] (fun c => SwapP a2 b2 c.1.1 c.2.1) lF' ?kt ?kd
      case kt =>
        clear lF'
        intro F
        walk1
        (repeat' ((fail_if_success (with_reducible show wpAny _ _ (exec (Stmt.While _ _ _ _) _) _ _ _)); (fail_if_success (with_reducible show KswEnd _ _ _ _ _ _ _ _ _ _ _ _)); (fail_if_success (with_reducible show WDone _ _ _ _ _ _ _ _ _ _)); (fail_if_success (with_reducible show wpAny _ _ (exec (Stmt.If (Expr.Compare (Expr.Call _ _ _ _) _ _ _) _ _ _) _) _ _ _)); (fail_if_success (with_reducible show wpAny _ _ (call (Value.type "list") _) _ _ _)); (fail_if_success (with_reducible show wpAny _ _ (call (Value.ref 44) _) _ _ _)); (fail_if_success (with_reducible show wpAny _ _ (subscriptTail _ _ (Value.ref _) (Value.int _ _)) _ _ _)); (fail_if_success (with_reducible show wpAny _ _ (setItem (Value.ref _) (Value.int _ _) (Value.int _ _)) _ _ _)); (fail_if_success (with_reducible show wpAny _ _ (exec (Stmt.For _ _ _ _ _) _) _ _ _)); (fail_if_success (with_reducible show wpAny _ _ (pyIter (Value.ref _)) _ _ _)); (fail_if_success (with_reducible show InvEndN _ _ _ _ _ _ _)); (fail_if_success (with_reducible show VDone _ _ _ _ _ _ _ _)); (fail_if_success (with_reducible show wpAny _ _ (eval (Expr.Subscript _ (Expr.Slice none (some (Expr.BoolOp _ _ _)) none _) _) _) _ _ _)); first | (k_unfold; (try dsimp only)) | (k_end; wrow_close) | walk1 | (dsimp only; walk1) | (leave1; walk_say "STEP leave1"; try dsimp only) | fail "no step"))
        · refine' WDone.intro ((_, _), (_, _)) (by assumption) (by assumption) (fun p hp => .tail _ hp) (by kst_all) (by ((intro z h2 h3; (simp only [List.forall_mem_cons, List.not_mem_nil, false_implies, implies_true, and_true, ne_eq] at h2); (simp only [List.contains_cons, List.contains_nil, Bool.or_false, Bool.or_eq_false_iff, beq_eq_false_iff_ne, ne_eq] at h3); (simp [kstB, h2, h3]; done)))) ?_
          exact ⟨by dsimp only; omega, edit_swap _ _, by dsimp only; omega, by dsimp only; omega, by assumption, by assumption⟩
        · refine' WDone.intro ((_, _), (_, _)) (by assumption) (by assumption) (fun p hp => hp) (by kst_all) (by ((intro z h2 h3; (simp only [List.forall_mem_cons, List.not_mem_nil, false_implies, implies_true, and_true, ne_eq] at h2); (simp only [List.contains_cons, List.contains_nil, Bool.or_false, Bool.or_eq_false_iff, beq_eq_false_iff_ne, ne_eq] at h3); (simp [kstB, h2, h3]; done)))) ?_
          exact ⟨by dsimp only; omega, rfl, by dsimp only; omega, by dsimp only; omega, by assumption, by assumption⟩
      case kd =>
        clear lF' lN'
        rintro ⟨⟨x, tx⟩, ⟨y, ty⟩⟩ u3 h tk hP F N
        dsimp only at hP F N ⊢
        obtain ⟨hxy, he, hx1, hy8, hax, hay⟩ := hP
        have hge := (edit_ge x y).2
        rw [← he] at hc
        try k_fold
        (repeat' ((fail_if_success (with_reducible show wpAny _ _ (exec (Stmt.While _ _ _ _) _) _ _ _)); (fail_if_success (with_reducible show KswEnd _ _ _ _ _ _ _ _ _ _ _ _)); (fail_if_success (with_reducible show WDone _ _ _ _ _ _ _ _ _ _)); (fail_if_success (with_reducible show wpAny _ _ (exec (Stmt.If (Expr.Compare (Expr.Call _ _ _ _) _ _ _) _ _ _) _) _ _ _)); (fail_if_success (with_reducible show wpAny _ _ (call (Value.type "list") _) _ _ _)); (fail_if_success (with_reducible show wpAny _ _ (call (Value.ref 44) _) _ _ _)); (fail_if_success (with_reducible show wpAny _ _ (subscriptTail _ _ (Value.ref _) (Value.int _ _)) _ _ _)); (fail_if_success (with_reducible show wpAny _ _ (setItem (Value.ref _) (Value.int _ _) (Value.int _ _)) _ _ _)); (fail_if_success (with_reducible show wpAny _ _ (exec (Stmt.For _ _ _ _ _) _) _ _ _)); (fail_if_success (with_reducible show wpAny _ _ (pyIter (Value.ref _)) _ _ _)); (fail_if_success (with_reducible show InvEndN _ _ _ _ _ _ _)); (fail_if_success (with_reducible show VDone _ _ _ _ _ _ _ _)); (fail_if_success (with_reducible show wpAny _ _ (eval (Expr.Subscript _ (Expr.Slice none (some (Expr.BoolOp _ _ _)) none _) _) _) _ _ _)); first | (k_unfold; (try dsimp only)) | (k_end; wrow_close) | walk1 | (dsimp only; walk1) | (leave1; walk_say "STEP leave1"; try dsimp only) | fail "no step"))
        (rename IsRange _ _ _ _ _ _ _ _ => rgX); (rename Fr _ _ _ _ => lF'); (rename News _ _ _ _ => lN')
        refine' my_list_range (by rfl) lF' lN' rgX (small2 x.length (by omega)) (size2 x.length) (by omega) ?_
        clear lF' lN' rgX
        intro D us k1 h2 tk2 F2 N2 hlt hI
        rw [← rowAt_start (eqS y x) x.length] at hI
        have kMark := kstMark
        try dsimp only
        try k_fold
        (repeat' ((fail_if_success (with_reducible show wpAny _ _ (exec (Stmt.While _ _ _ _) _) _ _ _)); (fail_if_success (with_reducible show KswEnd _ _ _ _ _ _ _ _ _ _ _ _)); (fail_if_success (with_reducible show WDone _ _ _ _ _ _ _ _ _ _)); (fail_if_success (with_reducible show wpAny _ _ (exec (Stmt.If (Expr.Compare (Expr.Call _ _ _ _) _ _ _) _ _ _) _) _ _ _)); (fail_if_success (with_reducible show wpAny _ _ (call (Value.type "list") _) _ _ _)); (fail_if_success (with_reducible show wpAny _ _ (call (Value.ref 44) _) _ _ _)); (fail_if_success (with_reducible show wpAny _ _ (subscriptTail _ _ (Value.ref _) (Value.int _ _)) _ _ _)); (fail_if_success (with_reducible show wpAny _ _ (setItem (Value.ref _) (Value.int _ _) (Value.int _ _)) _ _ _)); (fail_if_success (with_reducible show wpAny _ _ (exec (Stmt.For _ _ _ _ _) _) _ _ _)); (fail_if_success (with_reducible show wpAny _ _ (pyIter (Value.ref _)) _ _ _)); (fail_if_success (with_reducible show InvEndN _ _ _ _ _ _ _)); (fail_if_success (with_reducible show VDone _ _ _ _ _ _ _ _)); (fail_if_success (with_reducible show wpAny _ _ (eval (Expr.Subscript _ (Expr.Slice none (some (Expr.BoolOp _ _ _)) none _) _) _) _ _ _)); first | (k_unfold; (try dsimp only)) | (k_end; wrow_close) | walk1 | (dsimp only; walk1) | (leave1; walk_say "STEP leave1"; try dsimp only) | fail "no step"))
        (rename Fr _ _ _ _ => lF')
        (with_unfolding_all refine' For_invVF lF' ?k1 ?k2 ?_; (case k1 => exact rfl); (case k2 => exact rfl))
        (repeat' ((fail_if_success (with_reducible show wpAny _ _ (exec (Stmt.While _ _ _ _) _) _ _ _)); (fail_if_success (with_reducible show KswEnd _ _ _ _ _ _ _ _ _ _ _ _)); (fail_if_success (with_reducible show WDone _ _ _ _ _ _ _ _ _ _)); (fail_if_success (with_reducible show wpAny _ _ (exec (Stmt.If (Expr.Compare (Expr.Call _ _ _ _) _ _ _) _ _ _) _) _ _ _)); (fail_if_success (with_reducible show wpAny _ _ (call (Value.type "list") _) _ _ _)); (fail_if_success (with_reducible show wpAny _ _ (call (Value.ref 44) _) _ _ _)); (fail_if_success (with_reducible show wpAny _ _ (subscriptTail _ _ (Value.ref _) (Value.int _ _)) _ _ _)); (fail_if_success (with_reducible show wpAny _ _ (setItem (Value.ref _) (Value.int _ _) (Value.int _ _)) _ _ _)); (fail_if_success (with_reducible show wpAny _ _ (exec (Stmt.For _ _ _ _ _) _) _ _ _)); (fail_if_success (with_reducible show wpAny _ _ (pyIter (Value.ref _)) _ _ _)); (fail_if_success (with_reducible show InvEndN _ _ _ _ _ _ _)); (fail_if_success (with_reducible show VDone _ _ _ _ _ _ _ _)); (fail_if_success (with_reducible show wpAny _ _ (eval (Expr.Subscript _ (Expr.Slice none (some (Expr.BoolOp _ _ _)) none _) _) _) _ _ _)); first | (k_unfold; (try dsimp only)) | (k_end; wrow_close) | walk1 | (dsimp only; walk1) | (leave1; walk_say "STEP leave1"; try dsimp only) | fail "no step"))
        (rename IsRange _ _ _ _ _ _ _ _ => rgX); (rename Fr _ _ _ _ => lF'); (rename News _ _ _ _ => lN')
        refine' kst_range (σ := List Value × Nat × Int × Tok) (fun c => (D, listOf c.1.toArray c.2.1) :: news) (fun c => [(Str.ofString "result", .int c.2.2.1 c.2.2.2)]) (fun _ => True) [Str.ofString "bchar", Str.ofString "distance", Str.ofString "minimum", Str.ofString "index", Str.ofString "substitute", Str.ofString "insert_delete"]
          (fun pre c => IntsAre c.1 (rowAt (eqS y x) x.length pre.length 0) ∧ (1 ≤ pre.length → c.2.2.1 = 2 * (dp (eqS y x) pre.length x.length : Int))) (us, k1, 0, _) (by rfl) rgX (small1 (by omega) (by omega) (by omega) (by omega)) (rangeSize_nat _ _) lF' lN' trivial ?kk ⟨hI, fun h => by simp at h⟩ ?_ ?_
        case kk => kst_all
        · clear lF' lN' rgX hI
          rintro ⟨vs, k2, res, tres⟩ pre r tr u4 h3 tk3 own hr hrl hoff _ ⟨hI, hres⟩ F N
          dsimp only at hI hres F N hoff ⊢
          simp only [List.map_cons, List.cons_append] at hoff N
          obtain ⟨rn, hrn⟩ : ∃ rn, pre.length = rn := ⟨_, rfl⟩
          rw [hrn] at hr hrl
          simp only [hrn] at hI hres
          subst hr
          try k_fold
          (repeat' ((fail_if_success (with_reducible show wpAny _ _ (exec (Stmt.While _ _ _ _) _) _ _ _)); (fail_if_success (with_reducible show KswEnd _ _ _ _ _ _ _ _ _ _ _ _)); (fail_if_success (with_reducible show WDone _ _ _ _ _ _ _ _ _ _)); (fail_if_success (with_reducible show wpAny _ _ (exec (Stmt.If (Expr.Compare (Expr.Call _ _ _ _) _ _ _) _ _ _) _) _ _ _)); (fail_if_success (with_reducible show wpAny _ _ (call (Value.type "list") _) _ _ _)); (fail_if_success (with_reducible show wpAny _ _ (call (Value.ref 44) _) _ _ _)); (fail_if_success (with_reducible show wpAny _ _ (subscriptTail _ _ (Value.ref _) (Value.int _ _)) _ _ _)); (fail_if_success (with_reducible show wpAny _ _ (setItem (Value.ref _) (Value.int _ _) (Value.int _ _)) _ _ _)); (fail_if_success (with_reducible show wpAny _ _ (exec (Stmt.For _ _ _ _ _) _) _ _ _)); (fail_if_success (with_reducible show wpAny _ _ (pyIter (Value.ref _)) _ _ _)); (fail_if_success (with_reducible show InvEndN _ _ _ _ _ _ _)); (fail_if_success (with_reducible show VDone _ _ _ _ _ _ _ _)); (fail_if_success (with_reducible show wpAny _ _ (eval (Expr.Subscript _ (Expr.Slice none (some (Expr.BoolOp _ _ _)) none _) _) _) _ _ _)); first | (k_unfold; (try dsimp only)) | (k_end; wrow_close) | walk1 | (dsimp only; walk1) | (leave1; walk_say "STEP leave1"; try dsimp only) | fail "no step"))
          (rename Fr _ _ _ _ => lF')
          (with_unfolding_all refine' For_invVF lF' ?k1 ?k2 ?_; (case k1 => exact rfl); (case k2 => exact rfl))
          (repeat' ((fail_if_success (with_reducible show wpAny _ _ (exec (Stmt.While _ _ _ _) _) _ _ _)); (fail_if_success (with_reducible show KswEnd _ _ _ _ _ _ _ _ _ _ _ _)); (fail_if_success (with_reducible show WDone _ _ _ _ _ _ _ _ _ _)); (fail_if_success (with_reducible show wpAny _ _ (exec (Stmt.If (Expr.Compare (Expr.Call _ _ _ _) _ _ _) _ _ _) _) _ _ _)); (fail_if_success (with_reducible show wpAny _ _ (call (Value.type "list") _) _ _ _)); (fail_if_success (with_reducible show wpAny _ _ (call (Value.ref 44) _) _ _ _)); (fail_if_success (with_reducible show wpAny _ _ (subscriptTail _ _ (Value.ref _) (Value.int _ _)) _ _ _)); (fail_if_success (with_reducible show wpAny _ _ (setItem (Value.ref _) (Value.int _ _) (Value.int _ _)) _ _ _)); (fail_if_success (with_reducible show wpAny _ _ (exec (Stmt.For _ _ _ _ _) _) _ _ _)); (fail_if_success (with_reducible show wpAny _ _ (pyIter (Value.ref _)) _ _ _)); (fail_if_success (with_reducible show InvEndN _ _ _ _ _ _ _)); (fail_if_success (with_reducible show VDone _ _ _ _ _ _ _ _)); (fail_if_success (with_reducible show wpAny _ _ (eval (Expr.Subscript _ (Expr.Slice none (some (Expr.BoolOp _ _ _)) none _) _) _) _ _ _)); first | (k_unfold; (try dsimp only)) | (k_end; wrow_close) | walk1 | (dsimp only; walk1) | (leave1; walk_say "STEP leave1"; try dsimp only) | fail "no step"))
          (rename IsRange _ _ _ _ _ _ _ _ => rgX); (rename Fr _ _ _ _ => lF'); (rename News _ _ _ _ => lN')
          refine' kst_range (σ := List Value × Nat × (Int × Tok) × (Int × Tok) × (Int × Tok)) (fun c => (D, listOf c.1.toArray c.2.1) :: (news ++ own)) (fun c => [(Str.ofString "result", .int c.2.2.1.1 c.2.2.1.2), (Str.ofString "distance", .int c.2.2.2.1.1 c.2.2.2.1.2), (Str.ofString "minimum", .int c.2.2.2.2.1 c.2.2.2.2.2)]) (fun _ => True) [Str.ofString "substitute", Str.ofString "insert_delete"]
            (fun pre c => IntsAre c.1 (rowAt (eqS y x) x.length rn pre.length) ∧ c.2.2.2.1.1 = 2 * (dp (eqS y x) rn pre.length : Int) ∧ (c.2.2.1.1 = if pre.length = 0 then 2 * (rn : Int) else 2 * (dp (eqS y x) (rn + 1) pre.length : Int)) ∧ ∀ k, k < pre.length → c.2.2.2.2.1 ≤ 2 * (dp (eqS y x) (rn + 1) (k + 1) : Int)) (vs, k2, (_, _), (_, _), (_, _)) (by rfl) rgX (small1 (by omega) (by omega) (by omega) (by omega)) (rangeSize_nat _ _) lF' lN' trivial ?kk ?kp ?_ ?_
          case kk => kst_all
          case kp => exact ⟨hI, by dsimp only [List.length_nil]; rw [dp_zero']; omega, by simp only [List.length_nil, if_true]; omega, fun k h => by simp at h⟩
          · clear lF' lN' rgX hI
            rintro ⟨ws, k3, ⟨re, tre⟩, ⟨di, tdi⟩, ⟨mi, tmi⟩⟩ pre c1 tc1 u5 h4 tk4 own2 hc1 hcl hoff2 _ ⟨hI, hdi, hre, hmi⟩ F N
            dsimp only at hI hdi hre hmi F N hoff2 ⊢
            simp only [List.map_cons, List.cons_append] at hoff2 N
            obtain ⟨cn, hcn⟩ : ∃ cn, pre.length = cn := ⟨_, rfl⟩
            rw [hcn] at hc1 hcl
            simp only [hcn] at hI hdi hre hmi
            subst hc1
            try k_fold
            (repeat' ((fail_if_success (with_reducible show wpAny _ _ (exec (Stmt.While _ _ _ _) _) _ _ _)); (fail_if_success (with_reducible show KswEnd _ _ _ _ _ _ _ _ _ _ _ _)); (fail_if_success (with_reducible show WDone _ _ _ _ _ _ _ _ _ _)); (fail_if_success (with_reducible show wpAny _ _ (exec (Stmt.If (Expr.Compare (Expr.Call _ _ _ _) _ _ _) _ _ _) _) _ _ _)); (fail_if_success (with_reducible show wpAny _ _ (call (Value.type "list") _) _ _ _)); (fail_if_success (with_reducible show wpAny _ _ (call (Value.ref 44) _) _ _ _)); (fail_if_success (with_reducible show wpAny _ _ (subscriptTail _ _ (Value.ref _) (Value.int _ _)) _ _ _)); (fail_if_success (with_reducible show wpAny _ _ (setItem (Value.ref _) (Value.int _ _) (Value.int _ _)) _ _ _)); (fail_if_success (with_reducible show wpAny _ _ (exec (Stmt.For _ _ _ _ _) _) _ _ _)); (fail_if_success (with_reducible show wpAny _ _ (pyIter (Value.ref _)) _ _ _)); (fail_if_success (with_reducible show InvEndN _ _ _ _ _ _ _)); (fail_if_success (with_reducible show VDone _ _ _ _ _ _ _ _)); (fail_if_success (with_reducible show wpAny _ _ (eval (Expr.Subscript _ (Expr.Slice none (some (Expr.BoolOp _ _ _)) none _) _) _) _ _ _)); first | (k_unfold; (try dsimp only)) | (k_end; wrow_close) | walk1 | (dsimp only; walk1) | (leave1; walk_say "STEP leave1"; try dsimp only) | fail "no step"))
            have hCb := sub_claim w mean mg mb (((D, listOf ws.toArray k3) :: (news ++ own)) ++ own2) (Txt.item y (0 + ↑rn)) (Txt.item x (0 + ↑cn)) tk3 tk4
            dsimp only [CbClaim, CbLists, CbRet] at hCb
            refine' hCb _ _ _ _ _ _ _ _ _ _ _ _ _ _ _ _ _ ?k1 ?k2 ?k3 ?k4 ?k5 ?kK ?kp ?kd ?ku ?kR
            case k1 => k_asm
            case k2 => k_asm
            case k3 => k_asm
            case k4 => k_asm
            case k5 => k_asm
            case kK => first | exact rfl | assumption
            case kp => exact ⟨Lets.item (by assumption) (by omega) (by omega), Lets.item (by assumption) (by omega) (by omega)⟩
            case kd => ktr_room
            case ku => ktr_units
            clear hCb
            intro t9 h9 tk9 F9 N9
            try dsimp only
            try k_fold
            (repeat' ((fail_if_success (with_reducible show wpAny _ _ (exec (Stmt.While _ _ _ _) _) _ _ _)); (fail_if_success (with_reducible show KswEnd _ _ _ _ _ _ _ _ _ _ _ _)); (fail_if_success (with_reducible show WDone _ _ _ _ _ _ _ _ _ _)); (fail_if_success (with_reducible show wpAny _ _ (exec (Stmt.If (Expr.Compare (Expr.Call _ _ _ _) _ _ _) _ _ _) _) _ _ _)); (fail_if_success (with_reducible show wpAny _ _ (call (Value.type "list") _) _ _ _)); (fail_if_success (with_reducible show wpAny _ _ (call (Value.ref 44) _) _ _ _)); (fail_if_success (with_reducible show wpAny _ _ (subscriptTail _ _ (Value.ref _) (Value.int _ _)) _ _ _)); (fail_if_success (with_reducible show wpAny _ _ (setItem (Value.ref _) (Value.int _ _) (Value.int _ _)) _ _ _)); (fail_if_success (with_reducible show wpAny _ _ (exec (Stmt.For _ _ _ _ _) _) _ _ _)); (fail_if_success (with_reducible show wpAny _ _ (pyIter (Value.ref _)) _ _ _)); (fail_if_success (with_reducible show InvEndN _ _ _ _ _ _ _)); (fail_if_success (with_reducible show VDone _ _ _ _ _ _ _ _)); (fail_if_success (with_reducible show wpAny _ _ (eval (Expr.Subscript _ (Expr.Slice none (some (Expr.BoolOp _ _ _)) none _) _) _) _ _ _)); first | (k_unfold; (try dsimp only)) | (k_end; wrow_close) | walk1 | (dsimp only; walk1) | (leave1; walk_say "STEP leave1"; try dsimp only) | fail "no step"))
            (rename News _ _ _ _ => lN')
            refine' ksa_sub lN' (.head _) hI (by omega) (by rw [rowAt_len]; omega) (by omega) ?_
            intro tg
            try dsimp only
            (repeat' ((fail_if_success (with_reducible show wpAny _ _ (exec (Stmt.While _ _ _ _) _) _ _ _)); (fail_if_success (with_reducible show KswEnd _ _ _ _ _ _ _ _ _ _ _ _)); (fail_if_success (with_reducible show WDone _ _ _ _ _ _ _ _ _ _)); (fail_if_success (with_reducible show wpAny _ _ (exec (Stmt.If (Expr.Compare (Expr.Call _ _ _ _) _ _ _) _ _ _) _) _ _ _)); (fail_if_success (with_reducible show wpAny _ _ (call (Value.type "list") _) _ _ _)); (fail_if_success (with_reducible show wpAny _ _ (call (Value.ref 44) _) _ _ _)); (fail_if_success (with_reducible show wpAny _ _ (subscriptTail _ _ (Value.ref _) (Value.int _ _)) _ _ _)); (fail_if_success (with_reducible show wpAny _ _ (setItem (Value.ref _) (Value.int _ _) (Value.int _ _)) _ _ _)); (fail_if_success (with_reducible show wpAny _ _ (exec (Stmt.For _ _ _ _ _) _) _ _ _)); (fail_if_success (with_reducible show wpAny _ _ (pyIter (Value.ref _)) _ _ _)); (fail_if_success (with_reducible show InvEndN _ _ _ _ _ _ _)); (fail_if_success (with_reducible show VDone _ _ _ _ _ _ _ _)); (fail_if_success (with_reducible show wpAny _ _ (eval (Expr.Subscript _ (Expr.Slice none (some (Expr.BoolOp _ _ _)) none _) _) _) _ _ _)); first | (k_unfold; (try dsimp only)) | (k_end; wrow_close) | walk1 | (dsimp only; walk1) | (leave1; walk_say "STEP leave1"; try dsimp only) | fail "no step"))
            have hne : ∀ p ∈ news ++ own ++ own2, p.1 ≠ D := by
              intro p hp
              rcases List.mem_append.mp hp with hp | hp
              · rcases List.mem_append.mp hp with hp | hp
                · exact Nat.ne_of_lt (hlt p hp)
                · exact hoff p hp D (.head _)
              · exact hoff2 p hp D (.head _)
            (rename Fr _ _ _ _ => lF'); (rename News _ _ _ _ => lN')
            refine' my_set lF' lN' hne hI (by omega) (by rw [rowAt_len]; omega) (by omega) ?_
            clear lF' lN'
            intro ws8 h8 F8 N8 hI8
            try dsimp only
            try k_fold
            (repeat' ((fail_if_success (with_reducible show wpAny _ _ (exec (Stmt.While _ _ _ _) _) _ _ _)); (fail_if_success (with_reducible show KswEnd _ _ _ _ _ _ _ _ _ _ _ _)); (fail_if_success (with_reducible show WDone _ _ _ _ _ _ _ _ _ _)); (fail_if_success (with_reducible show wpAny _ _ (exec (Stmt.If (Expr.Compare (Expr.Call _ _ _ _) _ _ _) _ _ _) _) _ _ _)); (fail_if_success (with_reducible show wpAny _ _ (call (Value.type "list") _) _ _ _)); (fail_if_success (with_reducible show wpAny _ _ (call (Value.ref 44) _) _ _ _)); (fail_if_success (with_reducible show wpAny _ _ (subscriptTail _ _ (Value.ref _) (Value.int _ _)) _ _ _)); (fail_if_success (with_reducible show wpAny _ _ (setItem (Value.ref _) (Value.int _ _) (Value.int _ _)) _ _ _)); (fail_if_success (with_reducible show wpAny _ _ (exec (Stmt.For _ _ _ _ _) _) _ _ _)); (fail_if_success (with_reducible show wpAny _ _ (pyIter (Value.ref _)) _ _ _)); (fail_if_success (with_reducible show InvEndN _ _ _ _ _ _ _)); (fail_if_success (with_reducible show VDone _ _ _ _ _ _ _ _)); (fail_if_success (with_reducible show wpAny _ _ (eval (Expr.Subscript _ (Expr.Slice none (some (Expr.BoolOp _ _ _)) none _) _) _) _ _ _)); first | (k_unfold; (try dsimp only)) | (k_end; wrow_close) | walk1 | (dsimp only; walk1) | (leave1; walk_say "STEP leave1"; try dsimp only) | fail "no step"))
            all_goals
              have hst := lev_step (sc := subCost (Txt.item y (0 + ↑rn)) (Txt.item x (0 + ↑cn))) (g := (rowAt (eqS y x) x.length rn cn).getD (0 + (cn : Int)).toNat 0) hdi hre (by rw [show (0 + (cn : Int)).toNat = cn by omega]; exact rowAt_get _ (by omega)) (by rw [subCost_item (by omega) (by omega) (by omega) (by omega), show (0 + (cn : Int)).toNat = cn by omega, show (0 + (rn : Int)).toNat = rn by omega])
              rw [show (0 + (cn : Int)).toNat = cn by omega, rowAt_set _ (by rw [show (0 + (cn : Int)).toNat = cn by omega] at hst; exact hst)] at hI8
              have hlen : (pre ++ [0 + (cn : Int)]).length = cn + 1 := by rw [List.length_append, hcn]; rfl
              (rename Fr _ _ _ _ => lF'); (rename News _ _ _ _ => lN')
              refine' kst_end (ws8, k3, (_, _), (_, _), (_, _)) lF' lN' ?hn ?ho rfl trivial ?hk ?hr ?hp
              case hk => kst_all
              case hn => exact List.forall_mem_cons.mpr ⟨.head _, fun p hp => .tail _ (List.mem_append.mpr (.inl hp))⟩
              case ho => exact fun p hp => .tail _ (List.mem_append.mpr (.inr hp))
              case hr => ((intro z h1 h2 h3; (simp only [List.forall_mem_cons, List.not_mem_nil, false_implies, implies_true, and_true, ne_eq] at h2); (simp only [List.contains_cons, List.contains_nil, Bool.or_false, Bool.or_eq_false_iff, beq_eq_false_iff_ne, ne_eq] at h3); (simp [kstB, h1, h2, h3]; done)))
              case hp =>
                dsimp only
                rw [hlen]
                refine ⟨hI8, ?_, ?_, ?_⟩
                · rw [show (0 + (cn : Int)).toNat = cn by omega]
                  exact rowAt_get _ (by omega)
                · rw [if_neg (Nat.succ_ne_zero _)]
                  exact hst
                · intro k hk
                  by_cases hkc : k = cn
                  · subst hkc
                    first | exact Int.le_of_eq hst | (rw [← hst]; omega)
                  · have := hmi k (by omega)
                    first | omega | exact this
          · clear lF' lN' rgX hI
            rintro ⟨ws, k3, ⟨re, tre⟩, ⟨di, tdi⟩, ⟨mi, tmi⟩⟩ u5 h4 tk4 _ ⟨hI, hdi, hre, hmi⟩ F N
            have hn : (rangeKs 0 ((x.length : Int) - 0).toNat).length = x.length := by rw [rangeKs_length]; omega
            dsimp only at hI hdi hre hmi F N ⊢
            rw [hn] at hI hdi hre hmi
            rw [rowAt_end] at hI
            rw [if_neg (by omega)] at hre
            have hmc : mi ≤ c := by
              obtain ⟨q, hq, hle⟩ := dp_row (eqS y x) rn (y.length - 1 - rn) x.length (by omega)
              have h1 := hmi q hq
              rw [show rn + 1 + (y.length - 1 - rn) = y.length by omega] at hle
              rw [edit_swap] at hc
              unfold Mine.edit at hc
              omega
            try k_fold
            (repeat' ((fail_if_success (with_reducible show wpAny _ _ (exec (Stmt.While _ _ _ _) _) _ _ _)); (fail_if_success (with_reducible show KswEnd _ _ _ _ _ _ _ _ _ _ _ _)); (fail_if_success (with_reducible show WDone _ _ _ _ _ _ _ _ _ _)); (fail_if_success (with_reducible show wpAny _ _ (exec (Stmt.If (Expr.Compare (Expr.Call _ _ _ _) _ _ _) _ _ _) _) _ _ _)); (fail_if_success (with_reducible show wpAny _ _ (call (Value.type "list") _) _ _ _)); (fail_if_success (with_reducible show wpAny _ _ (call (Value.ref 44) _) _ _ _)); (fail_if_success (with_reducible show wpAny _ _ (subscriptTail _ _ (Value.ref _) (Value.int _ _)) _ _ _)); (fail_if_success (with_reducible show wpAny _ _ (setItem (Value.ref _) (Value.int _ _) (Value.int _ _)) _ _ _)); (fail_if_success (with_reducible show wpAny _ _ (exec (Stmt.For _ _ _ _ _) _) _ _ _)); (fail_if_success (with_reducible show wpAny _ _ (pyIter (Value.ref _)) _ _ _)); (fail_if_success (with_reducible show InvEndN _ _ _ _ _ _ _)); (fail_if_success (with_reducible show VDone _ _ _ _ _ _ _ _)); (fail_if_success (with_reducible show wpAny _ _ (eval (Expr.Subscript _ (Expr.Slice none (some (Expr.BoolOp _ _ _)) none _) _) _) _ _ _)); first | (k_unfold; (try dsimp only)) | (k_end; wrow_close) | walk1 | (dsimp only; walk1) | (leave1; walk_say "STEP leave1"; try dsimp only) | fail "no step"))
            have hlen : (pre ++ [0 + (rn : Int)]).length = rn + 1 := by rw [List.length_append, hrn]; rfl
            (rename Fr _ _ _ _ => lF'); (rename News _ _ _ _ => lN')
            refine' kst_end (ws, k3, _, _) lF' lN' ?hn ?ho rfl trivial ?hk ?hr ?hp
            case hk => kst_all
            case hn => exact List.forall_mem_cons.mpr ⟨.head _, fun p hp => .tail _ (List.mem_append.mpr (.inl hp))⟩
            case ho => exact fun p hp => .tail _ (List.mem_append.mpr (.inr hp))
            case hr => ((intro z h1 h2 h3; (simp only [List.forall_mem_cons, List.not_mem_nil, false_implies, implies_true, and_true, ne_eq] at h2); (simp only [List.contains_cons, List.contains_nil, Bool.or_false, Bool.or_eq_false_iff, beq_eq_false_iff_ne, ne_eq] at h3); (simp [kstB, h1, h2, h3]; done)))
            case hp =>
              dsimp only
              rw [hlen]
              exact ⟨hI, fun _ => hre⟩
        · clear lF' lN' rgX hI
          rintro ⟨vs, k2, res, tres⟩ u4 h3 tk3 _ ⟨hI, hres⟩ F N
          have hn : (rangeKs 0 ((y.length : Int) - 0).toNat).length = y.length := by rw [rangeKs_length]; omega
          dsimp only at hI hres F N ⊢
          rw [hn] at hres
          have hres := hres (by omega)
          rw [edit_swap] at hc
          unfold Mine.edit at hc
          try k_fold
          (repeat' ((fail_if_success (with_reducible show wpAny _ _ (exec (Stmt.While _ _ _ _) _) _ _ _)); (fail_if_success (with_reducible show KswEnd _ _ _ _ _ _ _ _ _ _ _ _)); (fail_if_success (with_reducible show WDone _ _ _ _ _ _ _ _ _ _)); (fail_if_success (with_reducible show wpAny _ _ (exec (Stmt.If (Expr.Compare (Expr.Call _ _ _ _) _ _ _) _ _ _) _) _ _ _)); (fail_if_success (with_reducible show wpAny _ _ (call (Value.type "list") _) _ _ _)); (fail_if_success (with_reducible show wpAny _ _ (call (Value.ref 44) _) _ _ _)); (fail_if_success (with_reducible show wpAny _ _ (subscriptTail _ _ (Value.ref _) (Value.int _ _)) _ _ _)); (fail_if_success (with_reducible show wpAny _ _ (setItem (Value.ref _) (Value.int _ _) (Value.int _ _)) _ _ _)); (fail_if_success (with_reducible show wpAny _ _ (exec (Stmt.For _ _ _ _ _) _) _ _ _)); (fail_if_success (with_reducible show wpAny _ _ (pyIter (Value.ref _)) _ _ _)); (fail_if_success (with_reducible show InvEndN _ _ _ _ _ _ _)); (fail_if_success (with_reducible show VDone _ _ _ _ _ _ _ _)); (fail_if_success (with_reducible show wpAny _ _ (eval (Expr.Subscript _ (Expr.Slice none (some (Expr.BoolOp _ _ _)) none _) _) _) _ _ _)); first | (k_unfold; (try dsimp only)) | (k_end; wrow_close) | walk1 | (dsimp only; walk1) | (leave1; walk_say "STEP leave1"; try dsimp only) | fail "no step"))
          exact cb_retI hret (hres.trans hc.symm) (by assumption) (cb_drop (by assumption) (fun p hp => .tail _ hp))
end Mine
end
section
open PySem PySem.W PyProof.Rows PySem.Calls PySem.Spec PySem.Flt
namespace Mine
/-- the greatest, the least of three doubles, as max and min choose -/
def maxF (x y z : UInt64) : UInt64 :=
  let m := if Float64.cmp x y == some .lt then y else x
  if Float64.cmp m z == some .lt then z else m
def minF (x y z : UInt64) : UInt64 :=
  let m := if Float64.cmp y x == some .lt then y else x
  if Float64.cmp z m == some .lt then z else m
section
variable {prog : Program} {w : World} {A : Around} {E : Value → Shared → Prop} {s : Shared} {h₀ : Heap} {L : Addr} {m : Str → Option Value} {news : List (Addr × Obj)} {x y z : UInt64} {t u v : Tok} {Q : Value → Shared → Prop}
theorem my_max3 (hh : A.handled = none) (F : Fr h₀ L s.heap m) (N : News h₀ L s.heap news)
    (h : ∀ h' tk tv, Fr h₀ L h' m → News h₀ L h' news → Q (.float (maxF x y z) tv) { s with heap := h', toks := tk }) :
    wpAny (model prog w) A (call (.builtin "max") [.float x t, .float y u, .float z v]) Q E s := by
  have hT : (s.heap.push { cls := .type "tuple", data := .seq #[.float x t, .float y u, .float z v] }).IsTuple s.heap.objs.size #[.float x t, .float y u, .float z v] := ⟨_, Heap.get?_push_size _ rfl, rfl, 0, rfl⟩
  refine call_max_three (wpAny_pyIter_tuple hT ?_)
  have hsz : (s.heap.push { cls := .type "tuple", data := .seq #[.float x t, .float y u, .float z v] }).objs.size = s.heap.objs.size + 1 := Heap.size_push ..
  have hn : ∀ q ∈ (#[.float x t, .float y u, .float z v] : Array Value), NumV q := by
    intro q hq
    simp only [Array.mem_def, List.mem_cons, List.not_mem_nil, or_false] at hq
    rcases hq with rfl | rfl | rfl <;> exact .float _ _
  refine ⟨_, [_, s.heap.objs.size], [_], _, _, _, _, rfl, Walks.tuple (A := A.in1) hh _ s.heap.objs.size (by rw [hsz]; exact Nat.ne_of_lt (Nat.lt_succ_self _)) #[.float x t, .float y u, .float z v],
    ⟨⟨_, Heap.get?_push_size _ rfl, rfl, rfl⟩, hT.push _⟩, fun d hd => ?_, by simp, cmpOf_gt _ hn, fun r h' tk hP hk => ?_⟩
  · show d < ((s.heap.push _).push _).objs.size
    rw [Heap.size_push, hsz]
    rcases List.mem_cons.mp hd with rfl | hd
    · rw [hsz]; exact Nat.lt_succ_self _
    · rcases List.mem_cons.mp hd with rfl | hd
      · exact Nat.lt_succ_of_lt (Nat.lt_succ_self _)
      · cases hd
  · have hold : ∀ d o, s.heap.get? d = some o → h'.get? d = some o := fun d o e => by
      refine hk d o (fun hm => ?_) (Heap.get?_push_of_some _ (Heap.get?_push_of_some _ e))
      rcases List.mem_cons.mp hm with e1 | hm
      · have := Heap.lt_size e; rw [e1, hsz] at this; exact Nat.lt_irrefl _ (Nat.lt_of_succ_lt this)
      · cases hm
    have hv : ∃ tv, r = .float (maxF x y z) tv := by
      cases c1 : (Float64.cmp x y == some .lt)
      · cases c2 : (Float64.cmp x z == some .lt)
        · exact ⟨t, by simp [argBest, ltV, c1, c2] at hP; simp [maxF, c1, c2, ← hP]⟩
        · exact ⟨v, by simp [argBest, ltV, c1, c2] at hP; simp [maxF, c1, c2, ← hP]⟩
      · cases c2 : (Float64.cmp y z == some .lt)
        · exact ⟨u, by simp [argBest, ltV, c1, c2] at hP; simp [maxF, c1, c2, ← hP]⟩
        · exact ⟨v, by simp [argBest, ltV, c1, c2] at hP; simp [maxF, c1, c2, ← hP]⟩
    obtain ⟨tv, rfl⟩ := hv
    exact h h' tk tv (F.grownK hold) (N.grown hold)
theorem my_min3 (hh : A.handled = none) (F : Fr h₀ L s.heap m) (N : News h₀ L s.heap news)
    (h : ∀ h' tk tv, Fr h₀ L h' m → News h₀ L h' news → Q (.float (minF x y z) tv) { s with heap := h', toks := tk }) :
    wpAny (model prog w) A (call (.builtin "min") [.float x t, .float y u, .float z v]) Q E s := by
  have hT : (s.heap.push { cls := .type "tuple", data := .seq #[.float x t, .float y u, .float z v] }).IsTuple s.heap.objs.size #[.float x t, .float y u, .float z v] := ⟨_, Heap.get?_push_size _ rfl, rfl, 0, rfl⟩
  refine call_min_three (wpAny_pyIter_tuple hT ?_)
  have hsz : (s.heap.push { cls := .type "tuple", data := .seq #[.float x t, .float y u, .float z v] }).objs.size = s.heap.objs.size + 1 := Heap.size_push ..
  have hn : ∀ q ∈ (#[.float x t, .float y u, .float z v] : Array Value), NumV q := by
    intro q hq
    simp only [Array.mem_def, List.mem_cons, List.not_mem_nil, or_false] at hq
    rcases hq with rfl | rfl | rfl <;> exact .float _ _
  refine ⟨_, [_, s.heap.objs.size], [_], _, _, _, _, rfl, Walks.tuple (A := A.in1) hh _ s.heap.objs.size (by rw [hsz]; exact Nat.ne_of_lt (Nat.lt_succ_self _)) #[.float x t, .float y u, .float z v],
    ⟨⟨_, Heap.get?_push_size _ rfl, rfl, rfl⟩, hT.push _⟩, fun d hd => ?_, by simp, cmpOf_lt _ hn, fun r h' tk hP hk => ?_⟩
  · show d < ((s.heap.push _).push _).objs.size
    rw [Heap.size_push, hsz]
    rcases List.mem_cons.mp hd with rfl | hd
    · rw [hsz]; exact Nat.lt_succ_self _
    · rcases List.mem_cons.mp hd with rfl | hd
      · exact Nat.lt_succ_of_lt (Nat.lt_succ_self _)
      · cases hd
  · have hold : ∀ d o, s.heap.get? d = some o → h'.get? d = some o := fun d o e => by
      refine hk d o (fun hm => ?_) (Heap.get?_push_of_some _ (Heap.get?_push_of_some _ e))
      rcases List.mem_cons.mp hm with e1 | hm
      · have := Heap.lt_size e; rw [e1, hsz] at this; exact Nat.lt_irrefl _ (Nat.lt_of_succ_lt this)
      · cases hm
    have hv : ∃ tv, r = .float (minF x y z) tv := by
      cases c1 : (Float64.cmp y x == some .lt)
      · cases c2 : (Float64.cmp z x == some .lt)
        · exact ⟨t, by simp [argBest, ltV, c1, c2] at hP; simp [minF, c1, c2, ← hP]⟩
        · exact ⟨v, by simp [argBest, ltV, c1, c2] at hP; simp [minF, c1, c2, ← hP]⟩
      · cases c2 : (Float64.cmp z y == some .lt)
        · exact ⟨u, by simp [argBest, ltV, c1, c2] at hP; simp [minF, c1, c2, ← hP]⟩
        · exact ⟨v, by simp [argBest, ltV, c1, c2] at hP; simp [minF, c1, c2, ← hP]⟩
    obtain ⟨tv, rfl⟩ := hv
    exact h h' tk tv (F.grownK hold) (N.grown hold)
/-- quarters -/
def qB (n : Nat) : UInt64 := Float64.ofFrac false n 4
theorem my_div4 {a : Int} {c : Nat} {tb : Tok} (hA : A.handled = none) (e : a = (c : Int)) (h1 : c ≤ 4) (h : Q (.float (qB c) s.toks) { s with toks := s.toks + 1 }) : wpAny (model prog w) A (binaryOp .Div (.int a t) (.int 4 tb)) Q E s := by
  refine div_ii_fits hA (by omega) (fun e => by omega) (fun _ _ => ?_)
  have e1 : (decide (a < 0) != decide ((4 : Int) < 0)) = false := by
    rw [decide_eq_false (by omega)]; rfl
  have e2 : a.natAbs = c := by omega
  rw [e1, e2]
  exact h
end
def all16P (P : Fin 4 → Fin 4 → Bool) : Bool := (List.finRange 4).all fun j => (List.finRange 4).all fun k => P j k
theorem all16 {P : Fin 4 → Fin 4 → Bool} (h : all16P P = true) (j k : Fin 4) : P j k = true := by
  unfold all16P at h
  rw [List.all_eq_true] at h
  have h1 := h j (List.mem_finRange j)
  rw [List.all_eq_true] at h1
  exact h1 k (List.mem_finRange k)
/-- a double over the sixteen draws of share and level -/
def FB (x : UInt64) (X : Fin 4 → Fin 4 → UInt64) (j k : Fin 4) : Prop := x = X j k
theorem FB.var {X : Fin 4 → Fin 4 → UInt64} {j k : Fin 4} : FB (X j k) X j k := rfl
theorem FB.const {c : UInt64} {j k : Fin 4} : FB c (fun _ _ => c) j k := rfl
def opF (g : UInt64 → UInt64 → UInt64) (X Y : Fin 4 → Fin 4 → UInt64) (j k : Fin 4) : UInt64 := g (X j k) (Y j k)
def eqF (X Y : Fin 4 → Fin 4 → UInt64) (j k : Fin 4) : Bool := Float64.cmp (X j k) (Y j k) == some Ordering.eq
def op3 (g : UInt64 → UInt64 → UInt64 → UInt64) (X Y Z : Fin 4 → Fin 4 → UInt64) (j k : Fin 4) : UInt64 := g (X j k) (Y j k) (Z j k)
def shareF (j _k : Fin 4) : UInt64 := qB (1 + j.1)
def levelF (_j k : Fin 4) : UInt64 := qB (1 + k.1)
section
variable {prog : Program} {w : World} {A : Around} {E : Value → Shared → Prop} {s : Shared} {h₀ : Heap} {L : Addr} {m : Str → Option Value} {news : List (Addr × Obj)} {x y z : UInt64} {X Y Z : Fin 4 → Fin 4 → UInt64} {j k : Fin 4} {t u v : Tok} {Q : Value → Shared → Prop}
theorem fl_mul (hx : FB x X j k) (hy : FB y Y j k) (h : Q (.float (opF Float64.mul X Y j k) s.toks) { s with toks := s.toks + 1 }) : wpAny (model prog w) A (binaryOp .Mult (.float x t) (.float y u)) Q E s := by
  rw [hx, hy]; exact mul_float h
theorem fl_sub (hx : FB x X j k) (hy : FB y Y j k) (h : Q (.float (opF Float64.sub X Y j k) s.toks) { s with toks := s.toks + 1 }) : wpAny (model prog w) A (binaryOp .Sub (.float x t) (.float y u)) Q E s := by
  rw [hx, hy]; exact sub_float h
theorem fl_add (hx : FB x X j k) (hy : FB y Y j k) (h : Q (.float (opF Float64.add X Y j k) s.toks) { s with toks := s.toks + 1 }) : wpAny (model prog w) A (binaryOp .Add (.float x t) (.float y u)) Q E s := by
  rw [hx, hy]; exact add_float h
theorem fl_subi {n : Int} (hx : FB x X j k) (hn : n.natAbs < 100) (h : Q (.float (opF Float64.sub X (fun _ _ => Float64.ofInt n) j k) s.toks) { s with toks := s.toks + 1 }) : wpAny (model prog w) A (binaryOp .Sub (.float x t) (.int n u)) Q E s := by
  rw [hx]; exact sub_fi_fits (Nat.lt_of_lt_of_le hn (by decide +kernel)) h
theorem fl_muli {n : Int} (hx : FB x X j k) (hn : n.natAbs < 100) (h : Q (.float (opF Float64.mul (fun _ _ => Float64.ofInt n) X j k) s.toks) { s with toks := s.toks + 1 }) : wpAny (model prog w) A (binaryOp .Mult (.int n u) (.float x t)) Q E s := by
  rw [hx]; exact mul_if_fits (Nat.lt_of_lt_of_le hn (by decide +kernel)) h
theorem fl_div (hA : A.handled = none) (hx : FB x X j k) (hy : FB y Y j k) (hz : all16P (fun j k => !Float64.isZero (Y j k)) = true) (h : Q (.float (opF Float64.div X Y j k) s.toks) { s with toks := s.toks + 1 }) : wpAny (model prog w) A (binaryOp .Div (.float x t) (.float y u)) Q E s := by
  have hz' : Float64.isZero (Y j k) = false := by simpa using all16 hz j k
  rw [hx, hy]
  exact truediv_float_or hA (fun e => by rw [hz'] at e; cases e) (fun _ => h)
theorem fl_mod (hA : A.handled = none) (hx : FB x X j k) (hy : FB y Y j k) (hz : all16P (fun j k => !Float64.isZero (Y j k)) = true) (h : Q (.float (opF (fun a b => (Float64.divmod a b).2) X Y j k) s.toks) { s with toks := s.toks + 1 }) : wpAny (model prog w) A (binaryOp .Mod (.float x t) (.float y u)) Q E s := by
  have hz' : Float64.isZero (Y j k) = false := by simpa using all16 hz j k
  rw [hx, hy]
  exact mod_ff hA (fun e => by rw [hz'] at e; cases e) (fun _ => h)
theorem fl_eq (hx : FB x X j k) (hy : FB y Y j k) (h : Q (.bool (eqF X Y j k)) s) : wpAny (model prog w) A (compareOp .Eq (.float x t) (.float y u)) Q E s := by
  rw [hx, hy]; exact AutoFloatOps.eq_0 h
theorem fl_int (n : Int) (hA : A.handled = none) (hx : FB x X j k) (he : all16P (fun j k => Float64.isFinite (X j k) && toInt Float64.truncOf (X j k) == n) = true) (h : Q (.int n s.toks) { s with toks := s.toks + 1 }) : wpAny (model prog w) A (call (.type "int") [.float x t]) Q E s := by
  have h1 := all16 he j k
  rw [Bool.and_eq_true, beq_iff_eq] at h1
  rw [hx]
  exact call_int_float3 hA (fun e => by rw [not_nan_of_finite h1.1] at e; cases e) (fun e => by rw [not_inf_of_finite h1.1] at e; cases e) (fun _ => by rw [h1.2]; exact h)
theorem fl_round (n : Int) (hA : A.handled = none) (hx : FB x X j k) (he : all16P (fun j k => Float64.isFinite (X j k) && toInt Float64.nearestOf (X j k) == n) = true) (h : Q (.int n s.toks) { s with toks := s.toks + 1 }) : wpAny (model prog w) A (call (.builtin "round") [.float x t]) Q E s := by
  have h1 := all16 he j k
  rw [Bool.and_eq_true, beq_iff_eq] at h1
  rw [hx]
  exact call_round_float hA (fun e => by rw [not_nan_of_finite h1.1] at e; cases e) (fun e => by rw [not_inf_of_finite h1.1] at e; cases e) (fun _ => by rw [h1.2]; exact h)
theorem fl_yes {Q : Bool → Shared → Prop} (h : all16P (eqF X Y) = true) (hq : Q true s) : wpAny (model prog w) A (truthy (.bool (eqF X Y j k))) Q E s := by
  rw [all16 h j k]
  exact wpAny_truthy_bool hq
theorem fl_no {Q : Bool → Shared → Prop} (h : all16P (fun j k => !eqF X Y j k) = true) (hq : Q false s) : wpAny (model prog w) A (truthy (.bool (eqF X Y j k))) Q E s := by
  have h1 : eqF X Y j k = false := by simpa using all16 h j k
  rw [h1]
  exact wpAny_truthy_bool hq
theorem fl_max (hh : A.handled = none) (F : Fr h₀ L s.heap m) (N : News h₀ L s.heap news) (hx : FB x X j k) (hy : FB y Y j k) (hz : FB z Z j k)
    (h : ∀ h' tk tv, Fr h₀ L h' m → News h₀ L h' news → Q (.float (op3 maxF X Y Z j k) tv) { s with heap := h', toks := tk }) :
    wpAny (model prog w) A (call (.builtin "max") [.float x t, .float y u, .float z v]) Q E s := by
  rw [hx, hy, hz]; exact my_max3 hh F N h
theorem fl_min (hh : A.handled = none) (F : Fr h₀ L s.heap m) (N : News h₀ L s.heap news) (hx : FB x X j k) (hy : FB y Y j k) (hz : FB z Z j k)
    (h : ∀ h' tk tv, Fr h₀ L h' m → News h₀ L h' news → Q (.float (op3 minF X Y Z j k) tv) { s with heap := h', toks := tk }) :
    wpAny (model prog w) A (call (.builtin "min") [.float x t, .float y u, .float z v]) Q E s := by
  rw [hx, hy, hz]; exact my_min3 hh F N h
end
def letter (n : Int) : Nat := if Int.fmod n 4 = 0 then 107 else if Int.fmod n 4 = 1 then 109 else if Int.fmod n 4 = 2 then 112 else 116
def wordOf (ns : List Int) : Str := ⟨(ns.map letter).toArray⟩
theorem wordOf_snoc (pre : List Int) (n : Int) : wordOf (pre ++ [n]) = wordOf pre ++ ⟨#[letter n]⟩ := by
  show (⟨((pre ++ [n]).map letter).toArray⟩ : Str) = ⟨(pre.map letter).toArray ++ #[letter n]⟩
  simp
theorem wordOf_length (ns : List Int) : (wordOf ns).length = ns.length := by
  show ((ns.map letter).toArray).size = _
  simp
theorem kmpt_item {n : Int} {i : Int} (h : Int.fmod n 4 = i) (h0 : 0 ≤ i) (h1 : i < 4) : Txt.item (Str.ofString "kmpt") i = ⟨#[letter n]⟩ := by
  have : i = 0 ∨ i = 1 ∨ i = 2 ∨ i = 3 := by omega
  unfold letter
  rw [h]
  rcases this with rfl | rfl | rfl | rfl <;> decide
theorem fin4_of (n : Int) : ∃ i : Fin 4, Int.fmod n 4 = (i.1 : Int) := by
  have h0 : 0 ≤ Int.fmod n 4 := Int.fmod_nonneg_of_pos _ (by decide)
  have h1 : Int.fmod n 4 < 4 := Int.fmod_lt_of_pos _ (by decide)
  exact ⟨⟨(Int.fmod n 4).toNat, by omega⟩, by simp only []; omega⟩
end Mine
end
section
open PySem PySem.W PyProof.Rows PySem.Calls PySem.Spec PySem.Flt
set_option pp.deepTerms false
set_option pp.deepTerms.threshold 8
namespace Mine
local macro_rules | `(tactic| walk_at "my FB") => `(tactic| first | (with_reducible exact FB.var) | (with_reducible exact FB.const))
local macro_rules | `(tactic| walk_at "truthy bool") => `(tactic| (k_here; (with_reducible show wpAny _ _ (truthy (Value.bool (eqF _ _ _ _))) _ _ _); first | (refine fl_yes ?hq ?_; (case hq => decide +kernel)) | (refine fl_no ?hq ?_; (case hq => decide +kernel))))
set_option hygiene false in
local macro_rules | `(tactic| walk_at "compareOp Eq float float") => `(tactic| (k_here; (refine' fl_eq (j := jj) (k := kk) ?hx ?hy ?_); (case hx => walk_at "my FB"); (case hy => walk_at "my FB")))
local macro_rules | `(tactic| walk_at "binaryOp Div int int") => `(tactic| (k_here; (with_reducible show wpAny _ _ (binaryOp _ (Value.int _ _) (Value.int _ _)) _ _ _); (refine my_div4 rfl (by assumption) (by omega) ?_)))
set_option hygiene false in
local macro_rules | `(tactic| walk_at "binaryOp Div float float") => `(tactic| (k_here; (refine' fl_div (j := jj) (k := kk) rfl ?hx ?hy ?hz ?_); (case hx => walk_at "my FB"); (case hy => walk_at "my FB"); (case hz => decide +kernel)))
set_option hygiene false in
local macro_rules | `(tactic| walk_at "binaryOp Mod float float") => `(tactic| (k_here; (refine' fl_mod (j := jj) (k := kk) rfl ?hx ?hy ?hz ?_); (case hx => walk_at "my FB"); (case hy => walk_at "my FB"); (case hz => decide +kernel)))
set_option hygiene false in
local macro_rules | `(tactic| walk_at "binaryOp Mult float float") => `(tactic| (k_here; (refine' fl_mul (j := jj) (k := kk) ?hx ?hy ?_); (case hx => walk_at "my FB"); (case hy => walk_at "my FB")))
set_option hygiene false in
local macro_rules | `(tactic| walk_at "binaryOp Add float float") => `(tactic| (k_here; (refine' fl_add (j := jj) (k := kk) ?hx ?hy ?_); (case hx => walk_at "my FB"); (case hy => walk_at "my FB")))
set_option hygiene false in
local macro_rules | `(tactic| walk_at "binaryOp Sub float float") => `(tactic| (k_here; (refine' fl_sub (j := jj) (k := kk) ?hx ?hy ?_); (case hx => walk_at "my FB"); (case hy => walk_at "my FB")))
set_option hygiene false in
local macro_rules | `(tactic| walk_at "binaryOp Sub float int") => `(tactic| (k_here; (refine' fl_subi (j := jj) (k := kk) ?hx ?hn ?_); (case hx => walk_at "my FB"); (case hn => decide)))
set_option hygiene false in
local macro_rules | `(tactic| walk_at "binaryOp Mult int float") => `(tactic| (k_here; (refine' fl_muli (j := jj) (k := kk) ?hx ?hn ?_); (case hx => walk_at "my FB"); (case hn => decide)))
set_option hygiene false in
local macro_rules | `(tactic| walk_at "call type:int") => `(tactic| (k_here; (with_reducible show wpAny _ _ (call (Value.type "int") [Value.float _ _]) _ _ _); first
  | ((refine' fl_int (j := jj) (k := kk) 0 rfl ?hx ?he ?_); (case hx => walk_at "my FB"); (case he => decide +kernel))
  | ((refine' fl_int (j := jj) (k := kk) 1 rfl ?hx ?he ?_); (case hx => walk_at "my FB"); (case he => decide +kernel))
  | ((refine' fl_int (j := jj) (k := kk) 3 rfl ?hx ?he ?_); (case hx => walk_at "my FB"); (case he => decide +kernel))
  | ((refine' fl_int (j := jj) (k := kk) 4 rfl ?hx ?he ?_); (case hx => walk_at "my FB"); (case he => decide +kernel))))
set_option hygiene false in
local macro_rules | `(tactic| walk_at "call builtin:round") => `(tactic| (k_here; (with_reducible show wpAny _ _ (call (Value.builtin "round") [Value.float _ _]) _ _ _); first
  | ((refine' fl_round (j := jj) (k := kk) 0 rfl ?hx ?he ?_); (case hx => walk_at "my FB"); (case he => decide +kernel))
  | ((refine' fl_round (j := jj) (k := kk) 1 rfl ?hx ?he ?_); (case hx => walk_at "my FB"); (case he => decide +kernel))
  | ((refine' fl_round (j := jj) (k := kk) 2 rfl ?hx ?he ?_); (case hx => walk_at "my FB"); (case he => decide +kernel))
  | ((refine' fl_round (j := jj) (k := kk) 3 rfl ?hx ?he ?_); (case hx => walk_at "my FB"); (case he => decide +kernel))))
set_option hygiene false in
local macro_rules | `(tactic| walk_at "call builtin:max") => `(tactic| ((with_reducible show wpAny _ _ (call (Value.builtin "max") [Value.float _ _, Value.float _ _, Value.float _ _]) _ _ _); (rename Fr _ _ _ _ => lF'); (rename News _ _ _ _ => lN'); (refine' fl_max (j := jj) (k := kk) (by rfl) lF' lN' ?hx ?hy ?hz ?_); (case hx => walk_at "my FB"); (case hy => walk_at "my FB"); (case hz => walk_at "my FB"); clear lF' lN'; intro h9 tk9 tv9 F9 N9))
set_option hygiene false in
local macro_rules | `(tactic| walk_at "call builtin:min") => `(tactic| ((with_reducible show wpAny _ _ (call (Value.builtin "min") [Value.float _ _, Value.float _ _, Value.float _ _]) _ _ _); (rename Fr _ _ _ _ => lF'); (rename News _ _ _ _ => lN'); (refine' fl_min (j := jj) (k := kk) (by rfl) lF' lN' ?hx ?hy ?hz ?_); (case hx => walk_at "my FB"); (case hy => walk_at "my FB"); (case hz => walk_at "my FB"); clear lF' lN'; intro h9 tk9 tv9 F9 N9))
local macro_rules | `(tactic| walk_at "inplaceOp Add str str") => `(tactic| (k_here; (refine SBL.iadd (hsz := ?hsz) ?_); (case hsz => (rw [Txt.len_item, sizeLine_eq]; omega)); intro _ _ _))
set_option maxRecDepth 100000 in
set_option maxHeartbeats 8000000 in
theorem word_claim (w : World) (mean : ExcName → Option Value) (mg mb : Str → Option Value) (news : List (Addr × Obj)) (l : Addr) (vs : List Value) (n : Nat) (ns : List Int)
    (hm : (l, listOf vs.toArray n) ∈ news) (hi : IntsAre vs ns) (hlen : ns.length ≤ 8) :
   Says w mean mg mb 58 news [.ref l] (fun t => .str (wordOf ns) t) := by
  w_top off
  unfold Says
  k_fill
  intros
  rename_i hret
  refine wpAny_call ?_
  k_dflt cell_enter
  (repeat' ((((fail_if_success (with_reducible show wpAny _ _ (exec (Stmt.For _ _ _ _ _) _) _ _ _)); (fail_if_success (with_reducible show wpAny _ _ (pyIter (Value.ref _)) (fun it s₂ => LoopAtV _ _ _ _ _ _ _ _ _ it s₂) _ _)); (fail_if_success (with_reducible show InvEndN _ _ _ _ _ _ _)); (fail_if_success (with_reducible show wpAny _ _ (call (Value.ref _) _) _ _ _)); first | (k_unfold; (try dsimp only)) | (k_end; wrow_close) | walk1 | (dsimp only; walk1) | (leave1; walk_say "STEP leave1"; try dsimp only) | fail "no step"))))
  (rename Fr _ _ _ _ => lF')
  (with_unfolding_all refine' For_invVF lF' ?k1 ?k2 ?_; (case k1 => exact rfl); (case k2 => exact rfl))
  (repeat' ((((fail_if_success (with_reducible show wpAny _ _ (exec (Stmt.For _ _ _ _ _) _) _ _ _)); (fail_if_success (with_reducible show wpAny _ _ (pyIter (Value.ref _)) (fun it s₂ => LoopAtV _ _ _ _ _ _ _ _ _ it s₂) _ _)); (fail_if_success (with_reducible show InvEndN _ _ _ _ _ _ _)); (fail_if_success (with_reducible show wpAny _ _ (call (Value.ref _) _) _ _ _)); first | (k_unfold; (try dsimp only)) | (k_end; wrow_close) | walk1 | (dsimp only; walk1) | (leave1; walk_say "STEP leave1"; try dsimp only) | fail "no step"))))
  (rename Fr _ _ _ _ => lF'); (rename News _ _ _ _ => lN')
  refine' kst_listL (σ := Str × Tok) (fun _ => news) (fun c => [(Str.ofString "word", .str c.1 c.2)]) (fun _ => True) [Str.ofString "red", Str.ofString "green", Str.ofString "blue", Str.ofString "hue", Str.ofString "share", Str.ofString "level"]
    (fun pre c => c.1 = wordOf pre) (_, _) (by rfl) (fun _ => hm) hi lF' lN' trivial ?kk (by rfl) ?_ ?_
  case kk => kst_all
  · clear lF' lN'
    rintro ⟨wd, twd⟩ pre post num tnum u h tk own hsplit _ hoff _ hwd F N
    dsimp only at hwd F N ⊢
    have hpl : pre.length < 8 := by
      have := congrArg List.length hsplit
      simp only [List.length_append, List.length_cons] at this
      omega
    obtain ⟨i, hi⟩ := fin4_of num
    obtain ⟨jj, hj⟩ := fin4_of (Int.fdiv num 4)
    obtain ⟨kk, hk⟩ := fin4_of (Int.fdiv num 16)
    have hj1 : 1 + Int.fmod (Int.fdiv num 4) 4 = ((1 + jj.1 : Nat) : Int) := by omega
    have hk1 : 1 + Int.fmod (Int.fdiv num 16) 4 = ((1 + kk.1 : Nat) : Int) := by omega
    have hjl := jj.2
    have hkl := kk.2
    clear hj hk
    try k_fold
    have hwl : wd.length = pre.length := by rw [hwd, wordOf_length]
    match i, hi with
    | ⟨0, _⟩, hi => ((
  dsimp only at hi
  (repeat' ((((fail_if_success (with_reducible show wpAny _ _ (exec (Stmt.For _ _ _ _ _) _) _ _ _)); (fail_if_success (with_reducible show wpAny _ _ (pyIter (Value.ref _)) (fun it s₂ => LoopAtV _ _ _ _ _ _ _ _ _ it s₂) _ _)); (fail_if_success (with_reducible show InvEndN _ _ _ _ _ _ _)); (fail_if_success (with_reducible show wpAny _ _ (call (Value.ref _) _) _ _ _)); first | (k_unfold; (try dsimp only)) | (k_end; wrow_close) | walk1 | (dsimp only; walk1) | (leave1; walk_say "STEP leave1"; try dsimp only) | fail "no step"))))
  rw [show qB (1 + jj.1) = shareF jj kk from rfl, show qB (1 + kk.1) = levelF jj kk from rfl]
  (((with_reducible show wpAny _ _ (call (Value.ref _) _) _ _ _); refine wpAny_call ?_; k_dflt ((refine' code_def ?k1q8 ?k2q8 ?k3q8 ?k4q8 ?k5q8 ?kAq8 ?kFq8 ?kKq8 ?k6q8 ?k7q8 ?k8q8 ?k9q8 ?kBq8 ?_ ?c2q8 ?c3q8 ?c4q8 ?c5q8); (case kAq8 => exact rfl); (case kFq8 => exact rfl); (case kKq8 => first | exact rfl | assumption); (case k1q8 => k_asm); (case k2q8 => k_asm); (case k3q8 => k_asm); (case k4q8 => k_asm); (case k5q8 => k_asm); (case k6q8 => k_is); (case k7q8 => k_is); (case k8q8 => ktr_room); (case k9q8 => exact BindsTo.of_eq rfl); (case c5q8 => decide); (case kBq8 => exact locs rfl); (case c2q8 => exact rfl); (case c3q8 => exact rfl); (case c4q8 => exact rfl); k_whole; intro g' L' h' FG' F' N' B' X' T'; (try dsimp only); (try k_lift B'); (try k_fold))))
  (repeat' ((((fail_if_success (with_reducible show wpAny _ _ (exec (Stmt.For _ _ _ _ _) _) _ _ _)); (fail_if_success (with_reducible show wpAny _ _ (pyIter (Value.ref _)) (fun it s₂ => LoopAtV _ _ _ _ _ _ _ _ _ it s₂) _ _)); (fail_if_success (with_reducible show InvEndN _ _ _ _ _ _ _)); (fail_if_success (with_reducible show wpAny _ _ (call (Value.ref _) _) _ _ _)); first | (k_unfold; (try dsimp only)) | (k_end; wrow_close) | walk1 | (dsimp only; walk1) | (leave1; walk_say "STEP leave1"; try dsimp only) | fail "no step"))))
  (((with_reducible show wpAny _ _ (call (Value.ref _) _) _ _ _); refine wpAny_call ?_; k_dflt ((refine' code_def ?k1q11 ?k2q11 ?k3q11 ?k4q11 ?k5q11 ?kAq11 ?kFq11 ?kKq11 ?k6q11 ?k7q11 ?k8q11 ?k9q11 ?kBq11 ?_ ?c2q11 ?c3q11 ?c4q11 ?c5q11); (case kAq11 => exact rfl); (case kFq11 => exact rfl); (case kKq11 => first | exact rfl | assumption); (case k1q11 => k_asm); (case k2q11 => k_asm); (case k3q11 => k_asm); (case k4q11 => k_asm); (case k5q11 => k_asm); (case k6q11 => k_is); (case k7q11 => k_is); (case k8q11 => ktr_room); (case k9q11 => exact BindsTo.of_eq rfl); (case c5q11 => decide); (case kBq11 => exact locs rfl); (case c2q11 => exact rfl); (case c3q11 => exact rfl); (case c4q11 => exact rfl); k_whole; intro g' L' h' FG' F' N' B' X' T'; (try dsimp only); (try k_lift B'); (try k_fold))))
  (repeat' ((((fail_if_success (with_reducible show wpAny _ _ (exec (Stmt.For _ _ _ _ _) _) _ _ _)); (fail_if_success (with_reducible show wpAny _ _ (pyIter (Value.ref _)) (fun it s₂ => LoopAtV _ _ _ _ _ _ _ _ _ it s₂) _ _)); (fail_if_success (with_reducible show InvEndN _ _ _ _ _ _ _)); (fail_if_success (with_reducible show wpAny _ _ (call (Value.ref _) _) _ _ _)); first | (k_unfold; (try dsimp only)) | (k_end; wrow_close) | walk1 | (dsimp only; walk1) | (leave1; walk_say "STEP leave1"; try dsimp only) | fail "no step"))))
  (rename Fr _ _ _ _ => lF'); (rename News _ _ _ _ => lN')
  refine' kst_end (_, _) lF' lN' ?hnq5 ?hoq5 rfl trivial ?hkq5 ?hrq5 ?hpq5
  case hkq5 => kst_all
  case hnq5 => exact fun p hp => by kst_mem
  case hoq5 => exact fun p hp => by kst_mem
  case hrq5 => ((intro z h1 h2 h3; (simp only [List.forall_mem_cons, List.not_mem_nil, false_implies, implies_true, and_true, ne_eq] at h2); (simp only [List.contains_cons, List.contains_nil, Bool.or_false, Bool.or_eq_false_iff, beq_eq_false_iff_ne, ne_eq] at h3); (simp [kstB, h1, h2, h3]; done)))
  case hpq5 =>
    dsimp only
    rw [wordOf_snoc, hwd, ← kmpt_item hi (by decide) (by decide)]
    rfl))
    | ⟨1, _⟩, hi => ((
  dsimp only at hi
  (repeat' ((((fail_if_success (with_reducible show wpAny _ _ (exec (Stmt.For _ _ _ _ _) _) _ _ _)); (fail_if_success (with_reducible show wpAny _ _ (pyIter (Value.ref _)) (fun it s₂ => LoopAtV _ _ _ _ _ _ _ _ _ it s₂) _ _)); (fail_if_success (with_reducible show InvEndN _ _ _ _ _ _ _)); (fail_if_success (with_reducible show wpAny _ _ (call (Value.ref _) _) _ _ _)); first | (k_unfold; (try dsimp only)) | (k_end; wrow_close) | walk1 | (dsimp only; walk1) | (leave1; walk_say "STEP leave1"; try dsimp only) | fail "no step"))))
  rw [show qB (1 + jj.1) = shareF jj kk from rfl, show qB (1 + kk.1) = levelF jj kk from rfl]
  (((with_reducible show wpAny _ _ (call (Value.ref _) _) _ _ _); refine wpAny_call ?_; k_dflt ((refine' code_def ?k1q18 ?k2q18 ?k3q18 ?k4q18 ?k5q18 ?kAq18 ?kFq18 ?kKq18 ?k6q18 ?k7q18 ?k8q18 ?k9q18 ?kBq18 ?_ ?c2q18 ?c3q18 ?c4q18 ?c5q18); (case kAq18 => exact rfl); (case kFq18 => exact rfl); (case kKq18 => first | exact rfl | assumption); (case k1q18 => k_asm); (case k2q18 => k_asm); (case k3q18 => k_asm); (case k4q18 => k_asm); (case k5q18 => k_asm); (case k6q18 => k_is); (case k7q18 => k_is); (case k8q18 => ktr_room); (case k9q18 => exact BindsTo.of_eq rfl); (case c5q18 => decide); (case kBq18 => exact locs rfl); (case c2q18 => exact rfl); (case c3q18 => exact rfl); (case c4q18 => exact rfl); k_whole; intro g' L' h' FG' F' N' B' X' T'; (try dsimp only); (try k_lift B'); (try k_fold))))
  (repeat' ((((fail_if_success (with_reducible show wpAny _ _ (exec (Stmt.For _ _ _ _ _) _) _ _ _)); (fail_if_success (with_reducible show wpAny _ _ (pyIter (Value.ref _)) (fun it s₂ => LoopAtV _ _ _ _ _ _ _ _ _ it s₂) _ _)); (fail_if_success (with_reducible show InvEndN _ _ _ _ _ _ _)); (fail_if_success (with_reducible show wpAny _ _ (call (Value.ref _) _) _ _ _)); first | (k_unfold; (try dsimp only)) | (k_end; wrow_close) | walk1 | (dsimp only; walk1) | (leave1; walk_say "STEP leave1"; try dsimp only) | fail "no step"))))
  (((with_reducible show wpAny _ _ (call (Value.ref _) _) _ _ _); refine wpAny_call ?_; k_dflt ((refine' code_def ?k1q21 ?k2q21 ?k3q21 ?k4q21 ?k5q21 ?kAq21 ?kFq21 ?kKq21 ?k6q21 ?k7q21 ?k8q21 ?k9q21 ?kBq21 ?_ ?c2q21 ?c3q21 ?c4q21 ?c5q21); (case kAq21 => exact rfl); (case kFq21 => exact rfl); (case kKq21 => first | exact rfl | assumption); (case k1q21 => k_asm); (case k2q21 => k_asm); (case k3q21 => k_asm); (case k4q21 => k_asm); (case k5q21 => k_asm); (case k6q21 => k_is); (case k7q21 => k_is); (case k8q21 => ktr_room); (case k9q21 => exact BindsTo.of_eq rfl); (case c5q21 => decide); (case kBq21 => exact locs rfl); (case c2q21 => exact rfl); (case c3q21 => exact rfl); (case c4q21 => exact rfl); k_whole; intro g' L' h' FG' F' N' B' X' T'; (try dsimp only); (try k_lift B'); (try k_fold))))
  (repeat' ((((fail_if_success (with_reducible show wpAny _ _ (exec (Stmt.For _ _ _ _ _) _) _ _ _)); (fail_if_success (with_reducible show wpAny _ _ (pyIter (Value.ref _)) (fun it s₂ => LoopAtV _ _ _ _ _ _ _ _ _ it s₂) _ _)); (fail_if_success (with_reducible show InvEndN _ _ _ _ _ _ _)); (fail_if_success (with_reducible show wpAny _ _ (call (Value.ref _) _) _ _ _)); first | (k_unfold; (try dsimp only)) | (k_end; wrow_close) | walk1 | (dsimp only; walk1) | (leave1; walk_say "STEP leave1"; try dsimp only) | fail "no step"))))
  (rename Fr _ _ _ _ => lF'); (rename News _ _ _ _ => lN')
  refine' kst_end (_, _) lF' lN' ?hnq15 ?hoq15 rfl trivial ?hkq15 ?hrq15 ?hpq15
  case hkq15 => kst_all
  case hnq15 => exact fun p hp => by kst_mem
  case hoq15 => exact fun p hp => by kst_mem
  case hrq15 => ((intro z h1 h2 h3; (simp only [List.forall_mem_cons, List.not_mem_nil, false_implies, implies_true, and_true, ne_eq] at h2); (simp only [List.contains_cons, List.contains_nil, Bool.or_false, Bool.or_eq_false_iff, beq_eq_false_iff_ne, ne_eq] at h3); (simp [kstB, h1, h2, h3]; done)))
  case hpq15 =>
    dsimp only
    rw [wordOf_snoc, hwd, ← kmpt_item hi (by decide) (by decide)]
    rfl))
    | ⟨2, _⟩, hi => ((
  dsimp only at hi
  (repeat' ((((fail_if_success (with_reducible show wpAny _ _ (exec (Stmt.For _ _ _ _ _) _) _ _ _)); (fail_if_success (with_reducible show wpAny _ _ (pyIter (Value.ref _)) (fun it s₂ => LoopAtV _ _ _ _ _ _ _ _ _ it s₂) _ _)); (fail_if_success (with_reducible show InvEndN _ _ _ _ _ _ _)); (fail_if_success (with_reducible show wpAny _ _ (call (Value.ref _) _) _ _ _)); first | (k_unfold; (try dsimp only)) | (k_end; wrow_close) | walk1 | (dsimp only; walk1) | (leave1; walk_say "STEP leave1"; try dsimp only) | fail "no step"))))
  rw [show qB (1 + jj.1) = shareF jj kk from rfl, show qB (1 + kk.1) = levelF jj kk from rfl]
  (((with_reducible show wpAny _ _ (call (Value.ref _) _) _ _ _); refine wpAny_call ?_; k_dflt ((refine' code_def ?k1q28 ?k2q28 ?k3q28 ?k4q28 ?k5q28 ?kAq28 ?kFq28 ?kKq28 ?k6q28 ?k7q28 ?k8q28 ?k9q28 ?kBq28 ?_ ?c2q28 ?c3q28 ?c4q28 ?c5q28); (case kAq28 => exact rfl); (case kFq28 => exact rfl); (case kKq28 => first | exact rfl | assumption); (case k1q28 => k_asm); (case k2q28 => k_asm); (case k3q28 => k_asm); (case k4q28 => k_asm); (case k5q28 => k_asm); (case k6q28 => k_is); (case k7q28 => k_is); (case k8q28 => ktr_room); (case k9q28 => exact BindsTo.of_eq rfl); (case c5q28 => decide); (case kBq28 => exact locs rfl); (case c2q28 => exact rfl); (case c3q28 => exact rfl); (case c4q28 => exact rfl); k_whole; intro g' L' h' FG' F' N' B' X' T'; (try dsimp only); (try k_lift B'); (try k_fold))))
  (repeat' ((((fail_if_success (with_reducible show wpAny _ _ (exec (Stmt.For _ _ _ _ _) _) _ _ _)); (fail_if_success (with_reducible show wpAny _ _ (pyIter (Value.ref _)) (fun it s₂ => LoopAtV _ _ _ _ _ _ _ _ _ it s₂) _ _)); (fail_if_success (with_reducible show InvEndN _ _ _ _ _ _ _)); (fail_if_success (with_reducible show wpAny _ _ (call (Value.ref _) _) _ _ _)); first | (k_unfold; (try dsimp only)) | (k_end; wrow_close) | walk1 | (dsimp only; walk1) | (leave1; walk_say "STEP leave1"; try dsimp only) | fail "no step"))))
  (((with_reducible show wpAny _ _ (call (Value.ref _) _) _ _ _); refine wpAny_call ?_; k_dflt ((refine' code_def ?k1q31 ?k2q31 ?k3q31 ?k4q31 ?k5q31 ?kAq31 ?kFq31 ?kKq31 ?k6q31 ?k7q31 ?k8q31 ?k9q31 ?kBq31 ?_ ?c2q31 ?c3q31 ?c4q31 ?c5q31); (case kAq31 => exact rfl); (case kFq31 => exact rfl); (case kKq31 => first | exact rfl | assumption); (case k1q31 => k_asm); (case k2q31 => k_asm); (case k3q31 => k_asm); (case k4q31 => k_asm); (case k5q31 => k_asm); (case k6q31 => k_is); (case k7q31 => k_is); (case k8q31 => ktr_room); (case k9q31 => exact BindsTo.of_eq rfl); (case c5q31 => decide); (case kBq31 => exact locs rfl); (case c2q31 => exact rfl); (case c3q31 => exact rfl); (case c4q31 => exact rfl); k_whole; intro g' L' h' FG' F' N' B' X' T'; (try dsimp only); (try k_lift B'); (try k_fold))))
  (repeat' ((((fail_if_success (with_reducible show wpAny _ _ (exec (Stmt.For _ _ _ _ _) _) _ _ _)); (fail_if_success (with_reducible show wpAny _ _ (pyIter (Value.ref _)) (fun it s₂ => LoopAtV _ _ _ _ _ _ _ _ _ it s₂) _ _)); (fail_if_success (with_reducible show InvEndN _ _ _ _ _ _ _)); (fail_if_success (with_reducible show wpAny _ _ (call (Value.ref _) _) _ _ _)); first | (k_unfold; (try dsimp only)) | (k_end; wrow_close) | walk1 | (dsimp only; walk1) | (leave1; walk_say "STEP leave1"; try dsimp only) | fail "no step"))))
  (rename Fr _ _ _ _ => lF'); (rename News _ _ _ _ => lN')
  refine' kst_end (_, _) lF' lN' ?hnq25 ?hoq25 rfl trivial ?hkq25 ?hrq25 ?hpq25
  case hkq25 => kst_all
  case hnq25 => exact fun p hp => by kst_mem
  case hoq25 => exact fun p hp => by kst_mem
  case hrq25 => ((intro z h1 h2 h3; (simp only [List.forall_mem_cons, List.not_mem_nil, false_implies, implies_true, and_true, ne_eq] at h2); (simp only [List.contains_cons, List.contains_nil, Bool.or_false, Bool.or_eq_false_iff, beq_eq_false_iff_ne, ne_eq] at h3); (simp [kstB, h1, h2, h3]; done)))
  case hpq25 =>
    dsimp only
    rw [wordOf_snoc, hwd, ← kmpt_item hi (by decide) (by decide)]
    rfl))
    | ⟨3, _⟩, hi => ((
  dsimp only at hi
  (repeat' ((((fail_if_success (with_reducible show wpAny _ _ (exec (Stmt.For _ _ _ _ _) _) _ _ _)); (fail_if_success (with_reducible show wpAny _ _ (pyIter (Value.ref _)) (fun it s₂ => LoopAtV _ _ _ _ _ _ _ _ _ it s₂) _ _)); (fail_if_success (with_reducible show InvEndN _ _ _ _ _ _ _)); (fail_if_success (with_reducible show wpAny _ _ (call (Value.ref _) _) _ _ _)); first | (k_unfold; (try dsimp only)) | (k_end; wrow_close) | walk1 | (dsimp only; walk1) | (leave1; walk_say "STEP leave1"; try dsimp only) | fail "no step"))))
  rw [show qB (1 + jj.1) = shareF jj kk from rfl, show qB (1 + kk.1) = levelF jj kk from rfl]
  (((with_reducible show wpAny _ _ (call (Value.ref _) _) _ _ _); refine wpAny_call ?_; k_dflt ((refine' code_def ?k1q38 ?k2q38 ?k3q38 ?k4q38 ?k5q38 ?kAq38 ?kFq38 ?kKq38 ?k6q38 ?k7q38 ?k8q38 ?k9q38 ?kBq38 ?_ ?c2q38 ?c3q38 ?c4q38 ?c5q38); (case kAq38 => exact rfl); (case kFq38 => exact rfl); (case kKq38 => first | exact rfl | assumption); (case k1q38 => k_asm); (case k2q38 => k_asm); (case k3q38 => k_asm); (case k4q38 => k_asm); (case k5q38 => k_asm); (case k6q38 => k_is); (case k7q38 => k_is); (case k8q38 => ktr_room); (case k9q38 => exact BindsTo.of_eq rfl); (case c5q38 => decide); (case kBq38 => exact locs rfl); (case c2q38 => exact rfl); (case c3q38 => exact rfl); (case c4q38 => exact rfl); k_whole; intro g' L' h' FG' F' N' B' X' T'; (try dsimp only); (try k_lift B'); (try k_fold))))
  (repeat' ((((fail_if_success (with_reducible show wpAny _ _ (exec (Stmt.For _ _ _ _ _) _) _ _ _)); (fail_if_success (with_reducible show wpAny _ _ (pyIter (Value.ref _)) (fun it s₂ => LoopAtV _ _ _ _ _ _ _ _ _ it s₂) _ _)); (fail_if_success (with_reducible show InvEndN _ _ _ _ _ _ _)); (fail_if_success (with_reducible show wpAny _ _ (call (Value.ref _) _) _ _ _)); first | (k_unfold; (try dsimp only)) | (k_end; wrow_close) | walk1 | (dsimp only; walk1) | (leave1; walk_say "STEP leave1"; try dsimp only) | fail "no step"))))
  (((with_reducible show wpAny _ _ (call (Value.ref _) _) _ _ _); refine wpAny_call ?_; k_dflt ((refine' code_def ?k1q41 ?k2q41 ?k3q41 ?k4q41 ?k5q41 ?kAq41 ?kFq41 ?kKq41 ?k6q41 ?k7q41 ?k8q41 ?k9q41 ?kBq41 ?_ ?c2q41 ?c3q41 ?c4q41 ?c5q41); (case kAq41 => exact rfl); (case kFq41 => exact rfl); (case kKq41 => first | exact rfl | assumption); (case k1q41 => k_asm); (case k2q41 => k_asm); (case k3q41 => k_asm); (case k4q41 => k_asm); (case k5q41 => k_asm); (case k6q41 => k_is); (case k7q41 => k_is); (case k8q41 => ktr_room); (case k9q41 => exact BindsTo.of_eq rfl); (case c5q41 => decide); (case kBq41 => exact locs rfl); (case c2q41 => exact rfl); (case c3q41 => exact rfl); (case c4q41 => exact rfl); k_whole; intro g' L' h' FG' F' N' B' X' T'; (try dsimp only); (try k_lift B'); (try k_fold))))
  (repeat' ((((fail_if_success (with_reducible show wpAny _ _ (exec (Stmt.For _ _ _ _ _) _) _ _ _)); (fail_if_success (with_reducible show wpAny _ _ (pyIter (Value.ref _)) (fun it s₂ => LoopAtV _ _ _ _ _ _ _ _ _ it s₂) _ _)); (fail_if_success (with_reducible show InvEndN _ _ _ _ _ _ _)); (fail_if_success (with_reducible show wpAny _ _ (call (Value.ref _) _) _ _ _)); first | (k_unfold; (try dsimp only)) | (k_end; wrow_close) | walk1 | (dsimp only; walk1) | (leave1; walk_say "STEP leave1"; try dsimp only) | fail "no step"))))
  (rename Fr _ _ _ _ => lF'); (rename News _ _ _ _ => lN')
  refine' kst_end (_, _) lF' lN' ?hnq35 ?hoq35 rfl trivial ?hkq35 ?hrq35 ?hpq35
  case hkq35 => kst_all
  case hnq35 => exact fun p hp => by kst_mem
  case hoq35 => exact fun p hp => by kst_mem
  case hrq35 => ((intro z h1 h2 h3; (simp only [List.forall_mem_cons, List.not_mem_nil, false_implies, implies_true, and_true, ne_eq] at h2); (simp only [List.contains_cons, List.contains_nil, Bool.or_false, Bool.or_eq_false_iff, beq_eq_false_iff_ne, ne_eq] at h3); (simp [kstB, h1, h2, h3]; done)))
  case hpq35 =>
    dsimp only
    rw [wordOf_snoc, hwd, ← kmpt_item hi (by decide) (by decide)]
    rfl))
  · clear lF' lN'
    rintro ⟨wd, twd⟩ u h tk _ hwd F N
    dsimp only at hwd F N ⊢
    try k_fold
    (repeat' ((((fail_if_success (with_reducible show wpAny _ _ (exec (Stmt.For _ _ _ _ _) _) _ _ _)); (fail_if_success (with_reducible show wpAny _ _ (pyIter (Value.ref _)) (fun it s₂ => LoopAtV _ _ _ _ _ _ _ _ _ it s₂) _ _)); (fail_if_success (with_reducible show InvEndN _ _ _ _ _ _ _)); (fail_if_success (with_reducible show wpAny _ _ (call (Value.ref _) _) _ _ _)); first | (k_unfold; (try dsimp only)) | (k_end; wrow_close) | walk1 | (dsimp only; walk1) | (leave1; walk_say "STEP leave1"; try dsimp only) | fail "no step"))))
    exact cb_retS hret hwd (by assumption) (by assumption)
end Mine
end
section
open PySem PySem.W PyProof.Rows PySem.Calls PySem.Spec
namespace Mine
section
variable {prog : Program} {w : World} {A : Around} {E : Value → Shared → Prop} {s : Shared} {h₀ : Heap} {L l : Addr} {m : Str → Option Value} {news : List (Addr × Obj)} {value slice : PySem.Expr} {vs : List Value} {ms : List Int} {vl vu : Value} {lo hi : Option Int} {Q : Value → Shared → Prop}
theorem my_slice (F : Fr h₀ L s.heap m) (N : News h₀ L s.heap news) (hl : s.heap.IsList l vs.toArray) (pl : IsPart vl lo) (pu : IsPart vu hi) (hm : IntsAre (slicePick vs.toArray lo hi none).toList ms) (hz : vs.toArray.size ≤ sizeLine)
    (h : ∀ D ws h', Fr h₀ L h' m → News h₀ L h' ((D, listOf (List.toArray ws) 0) :: news) → (∀ p ∈ news, p.1 < D) → IntsAre ws ms → Q (.ref D) { s with heap := h' })
    (hs : subscripted slice false (.ref l) (.ref s.heap.objs.size) = operate [.ref s.heap.objs.size, .ref l] (getItem (.ref l) (.ref s.heap.objs.size)) := by with_unfolding_all rfl) :
    wpAny (model prog w) A (subscriptTail value slice (.ref l) (.ref s.heap.objs.size)) Q E { s with heap := s.heap.push { cls := .type "slice", data := .fields #[vl, vu, .none] } } := by
  refine tail_any (Heap.IsList.typeIs (s := { s with heap := s.heap.push { cls := .type "slice", data := .fields #[vl, vu, .none] } }) (hl.push _)) list_getitem_lookup
    (wpAny_getItem_list_slice (hl.push _) (Heap.IsSliceOf.new ..) pl pu .none (by simp) ?_ hz) hs
  have N1 := News.push (F.push { cls := .type "slice", data := .fields #[vl, vu, .none] }) (N.grown fun _ _ e => Heap.get?_push_of_some _ e) { cls := .type "list", data := .seq (slicePick vs.toArray lo hi none) }
  have F1 := (F.push { cls := .type "slice", data := .fields #[vl, vu, .none] }).push { cls := .type "list", data := .seq (slicePick vs.toArray lo hi none) }
  rw [Heap.size_push] at N1
  show Q (.ref (s.heap.push _).objs.size) _
  rw [Heap.size_push]
  refine h _ (slicePick vs.toArray lo hi none).toList _ F1 ?_ (fun p hp => Nat.lt_succ_of_lt (Heap.lt_size (N p hp).1)) hm
  rw [Array.toArray_toList]
  exact N1
end
theorem Says.use {w : World} {mean : ExcName → Option Value} {mg mb : Str → Option Value} {f : Addr} {news : List (Addr × Obj)} {vs : List Value} {R : Tok → Value} (H : Says w mean mg mb f news vs R)
    {dp un : Nat} {gd : Option (List Code)} {cn : Str} {cs : Scope} {a : Addr} {ccd : Value} {cl : List (Str × Addr)} {outer : List Env} {A₀ : Around} {base h₀ : Heap} {L : Addr} {m : Str → Option Value} {s : Shared} {Q E : Value → Shared → Prop}
    (k1 : Below A₀ base outer h₀) (k2 : Fr h₀ L s.heap m) (k3 : (Mine.hd.heap_39 w.params).In h₀) (k4 : News h₀ L s.heap news) (k5 : Top Mine.hd.view_39 (looseW Mine.hd.view_39 [Str.ofString "bisect_left"]) mean mg mb h₀) (kK : cs.kind = .function)
    (kd : dp + 4 < recursionLimit) (ku : un + 40 < cLine) (kR : ∀ (t : Tok) (h' : Heap) (tk' : Nat), Fr h₀ L h' m → News h₀ L h' news → Q (R t) { s with heap := h', toks := tk' }) :
    wpAny (model Challenge.rw_pg0152_01.row.prog w) (ktrTop dp un gd cn cs L a ccd cl outer) (call (.ref f) vs) Q E s := H _ _ _ _ _ _ _ _ _ _ _ _ _ _ _ _ _ k1 k2 k3 k4 k5 kK kd ku kR
theorem kmpt_fmod (k : Int) : (⟨#[letter k]⟩ : Str) = Txt.item (Str.ofString "kmpt") (Int.fmod k 4) :=
  (kmpt_item rfl (Int.fmod_nonneg_of_pos _ (by decide)) (Int.fmod_lt_of_pos _ (by decide))).symm
def oneL (k : Int) : Str := ⟨#[letter k]⟩
def joinOf (l : List Int) : Str := Txt.join (Str.ofString "|") (l.map oneL)
def barOf (l : List Int) : Str := ⟨(l.flatMap fun k => [124, letter k]).toArray⟩
theorem four {l : List Int} (h : l.length = 4) : ∃ a b c d, l = [a, b, c, d] := by
  match l, h with
  | [a, b, c, d], _ => exact ⟨a, b, c, d, rfl⟩
theorem joinE_eq {l : List Int} (h : l.length = 4) : Txt.join (Str.ofString "") (l.map oneL) = wordOf l := by
  obtain ⟨a, b, c, d, rfl⟩ := four h
  show (⟨_⟩ : Str) = ⟨_⟩
  congr 1
theorem joinB_eq {l : List Int} (h : l.length = 4) : Str.ofString "|" ++ joinOf l = barOf l := by
  obtain ⟨a, b, c, d, rfl⟩ := four h
  show (⟨_⟩ : Str) = ⟨_⟩
  congr 1
theorem joinB_length {l : List Int} (h : l.length = 4) : (joinOf l).length = 7 := by
  obtain ⟨a, b, c, d, rfl⟩ := four h
  rfl
theorem barOf_length {l : List Int} (h : l.length = 4) : (barOf l).length = 8 := by
  obtain ⟨a, b, c, d, rfl⟩ := four h
  rfl
theorem signs_word (l : List Int) : signs (wordOf l) = l.map oneL := by
  simp [signs, wordOf, oneL]
section
variable {prog : Program} {w : World} {A : Around} {E : Value → Shared → Prop} {s : Shared} {h₀ : Heap} {L D : Addr} {m : Str → Option Value} {news : List (Addr × Obj)} {ys : List Value} {l : List Int} {t : Tok} {Q : Value → Shared → Prop}
theorem my_joinE (hl : s.heap.IsList D ys.toArray) (hc : CarriedAll ys (l.map fun a => PyData.str ⟨#[letter a]⟩)) (h4 : l.length = 4) (h : ∀ t' k, Q (.str (wordOf l) t') { s with toks := k }) :
    wpAny (model prog w) A (call (.builtin "str.join") [.str (Str.ofString "") t, .ref D]) Q E s := by
  refine KT.join_1 (g := oneL) hl hc (fun _ _ => rfl) (by omega) fun t' k _ => ?_
  rw [joinE_eq h4]
  exact h t' k
theorem my_joinB (hl : s.heap.IsList D ys.toArray) (hc : CarriedAll ys (l.map fun a => PyData.str ⟨#[letter a]⟩)) (h4 : l.length = 4) (h : ∀ t' k, Q (.str (joinOf l) t') { s with toks := k }) :
    wpAny (model prog w) A (call (.builtin "str.join") [.str (Str.ofString "|") t, .ref D]) Q E s :=
  KT.join_B (g := oneL) 1 hl hc (fun _ _ => Nat.le_refl _) (by omega) (by decide) fun t' k => h t' k
theorem my_list_word (hh : A.handled = none) (F : Fr h₀ L s.heap m) (N : News h₀ L s.heap news) (h4 : l.length = 4)
    (h : ∀ D us k h' tk, Fr h₀ L h' m → News h₀ L h' ((D, listOf (List.toArray us) k) :: news) → (∀ p ∈ news, p.1 < D) → CarriedAll us (l.map fun a => PyData.str ⟨#[letter a]⟩) → Q (.ref D) { s with heap := h', toks := tk }) :
    wpAny (model prog w) A (call (.type "list") [.str (wordOf l) t]) Q E s := by
  have hlen := wordOf_length l
  refine call_list_str hh (wordOf l) t (hn := by have : (wordOf l).cps.size = (wordOf l).length := rfl; rw [this, hlen, h4, sizeLine_eq]; omega) fun h' tk acc k hk hD hacc => ?_
  have hD' : h'.get? s.heap.objs.size = some (listOf (List.toArray acc.toList) k) := by
    rw [Array.toArray_toList]
    exact hD
  refine h _ acc.toList k h' tk (F.keeps hk) (news_pushed F N hk hD' rfl) (fun p hp => Heap.lt_size (N p hp).1) ?_
  have hc : CarriedAll acc.toList ((signs (wordOf l)).map PyData.str) := by
    refine carriedAll_of_get _ _ (by simp [hacc.1, signs]) fun j v hv => ?_
    obtain ⟨c, u, hc, rfl⟩ := hacc.2 j v (by simpa using hv)
    exact ⟨.str ⟨#[c]⟩, by simp [signs, hc], .str _ _⟩
  rw [signs_word, List.map_map] at hc
  exact hc
end
theorem len4 {vs : List Value} {l : List Int} (h : IntsAre vs l) (h4 : l.length = 4) : ∃ k : List Int, k.length = 4 ∧ IntsAre vs k := ⟨l, h4, h⟩
theorem tr_no {prog : Program} {w : World} {A : Around} {E : Value → Shared → Prop} {s : Shared} {Q : Bool → Shared → Prop} {b : Bool} (e : b = false) (h : Q false s) : wpAny (model prog w) A (truthy (.bool b)) Q E s := by
  rw [e]
  exact wpAny_truthy_bool h
theorem my_addbar {prog : Program} {w : World} {A : Around} {E : Value → Shared → Prop} {s : Shared} {Q : Value → Shared → Prop} {l : List Int} {t u : Tok} (h4 : l.length = 4) (h : ∀ t' k, Q (.str (barOf l) t') { s with toks := k }) :
    wpAny (model prog w) A (binaryOp .Add (.str (Str.ofString "|") t) (.str (joinOf l) u)) Q E s := by
  have h7 := joinB_length h4
  have h1 : (Str.ofString "|").length = 1 := by decide
  refine SBL.add (hsz := by rw [h7, h1, sizeLine_eq]; omega) fun t' k _ => ?_
  rw [joinB_eq h4]
  exact h t' k
theorem led_name {h₀ : Heap} {L D : Addr} {h : Heap} {o : Obj} {rest : List (Addr × Obj)} (_N : News h₀ L h ((D, o) :: rest)) : ∃ M, M = D := ⟨D, rfl⟩
end Mine
end
section
open PySem PySem.W PyProof.Rows
namespace Mine
/-- a mark set in the stead of the first that is not below it -/
def putR : List Int → Int → List Int
  | [], q => [q]
  | a :: l, q => if a < q then a :: putR l q else q :: l
def cnt (ms : List Int) (p : Int) : Nat := (ms.filter (· < p)).length
theorem bisL_cnt (ms : List Int) (p : Int) : bisL ms p = (cnt ms p : Int) := rfl
theorem cnt_nil (p : Int) : cnt [] p = 0 := rfl
theorem cnt_cons (a : Int) (l : List Int) (p : Int) : cnt (a :: l) p = (if a < p then 1 else 0) + cnt l p := by
  unfold cnt
  rw [List.filter_cons]
  by_cases h : a < p
  · rw [if_pos (by simpa using h), if_pos h, List.length_cons]; omega
  · rw [if_neg (by simpa using h), if_neg h]; omega
theorem cnt_none {l : List Int} {p : Int} (h : ∀ b ∈ l, p ≤ b) : cnt l p = 0 := by
  induction l with
  | nil => rfl
  | cons a l ih =>
    rw [cnt_cons, ih fun b hb => h b (.tail _ hb), if_neg]
    have := h a (.head _)
    omega
theorem cnt_le (ms : List Int) (p : Int) : cnt ms p ≤ ms.length := List.length_filter_le ..
theorem putR_mem {ms : List Int} {q b : Int} (h : b ∈ putR ms q) : b = q ∨ b ∈ ms := by
  induction ms with
  | nil => exact .inl (List.mem_singleton.mp h)
  | cons a l ih =>
    unfold putR at h
    split at h
    · rcases List.mem_cons.mp h with rfl | h
      · exact .inr (.head _)
      · rcases ih h with h | h
        · exact .inl h
        · exact .inr (.tail _ h)
    · rcases List.mem_cons.mp h with rfl | h
      · exact .inl rfl
      · exact .inr (.tail _ h)
theorem putR_sorted {ms : List Int} {q : Int} (hs : ms.Pairwise (· < ·)) : (putR ms q).Pairwise (· < ·) := by
  induction ms with
  | nil => exact List.pairwise_singleton ..
  | cons a l ih =>
    obtain ⟨h1, h2⟩ := List.pairwise_cons.mp hs
    unfold putR
    split
    · rename_i ha
      refine List.pairwise_cons.mpr ⟨fun b hb => ?_, ih h2⟩
      rcases putR_mem hb with rfl | hb
      · exact ha
      · exact h1 b hb
    · rename_i ha
      refine List.pairwise_cons.mpr ⟨fun b hb => ?_, h2⟩
      have := h1 b hb
      omega
theorem putR_cnt {ms : List Int} {q p : Int} (hs : ms.Pairwise (· < ·)) : cnt (putR ms q) p = if q < p then max (cnt ms p) (cnt ms q + 1) else cnt ms p := by
  induction ms with
  | nil =>
    unfold putR
    rw [cnt_cons, cnt_nil, cnt_nil]
    split <;> omega
  | cons a l ih =>
    obtain ⟨h1, h2⟩ := List.pairwise_cons.mp hs
    have ih := ih h2
    unfold putR
    by_cases ha : a < q
    · rw [if_pos ha, cnt_cons, ih, cnt_cons, cnt_cons, if_pos ha]
      by_cases hq : q < p
      · rw [if_pos hq, if_pos hq, if_pos (by omega)]; omega
      · rw [if_neg hq, if_neg hq]
    · have z : cnt l q = 0 := cnt_none fun b hb => by have := h1 b hb; omega
      rw [if_neg ha, cnt_cons, cnt_cons, cnt_cons, if_neg ha, z]
      by_cases hq : q < p
      · rw [if_pos hq, if_pos hq]
        by_cases hp : a < p
        · rw [if_pos hp]; omega
        · have z2 : cnt l p = 0 := cnt_none fun b hb => by have := h1 b hb; omega
          rw [if_neg hp, z2]; omega
      · rw [if_neg hq, if_neg hq, if_neg (by omega)]
theorem putR_eq {ms : List Int} {q : Int} (hs : ms.Pairwise (· < ·)) : ms.take (cnt ms q) ++ q :: ms.drop (cnt ms q + 1) = putR ms q := by
  induction ms with
  | nil => rfl
  | cons a l ih =>
    obtain ⟨h1, h2⟩ := List.pairwise_cons.mp hs
    have ih := ih h2
    unfold putR
    by_cases ha : a < q
    · rw [if_pos ha, cnt_cons, if_pos ha, Nat.add_comm 1, List.take_succ_cons, List.drop_succ_cons, List.cons_append, ih]
    · have z : cnt l q = 0 := cnt_none fun b hb => by have := h1 b hb; omega
      rw [if_neg ha, cnt_cons, if_neg ha, z]
      rfl
theorem sorted_len {ms : List Int} {lo hi : Int} (hs : ms.Pairwise (· < ·)) (hb : ∀ b ∈ ms, lo ≤ b ∧ b < hi) : ms.length = 0 ∨ (ms.length : Int) ≤ hi - lo := by
  induction ms generalizing lo with
  | nil => exact .inl rfl
  | cons a l ih =>
    obtain ⟨h1, h2⟩ := List.pairwise_cons.mp hs
    have ha := hb a (.head _)
    right
    rcases ih (lo := a + 1) h2 (fun b hb' => ⟨by have := h1 b hb'; omega, (hb b (.tail _ hb')).2⟩) with h | h
    · rw [List.length_cons, h]; omega
    · rw [List.length_cons]; omega
/-- the marks: risen, within the eight places -/
def Marks (ms : List Int) : Prop := ms.Pairwise (· < ·) ∧ ∀ b ∈ ms, 0 ≤ b ∧ b < 8
theorem Marks.nil : Marks [] := ⟨List.Pairwise.nil, fun _ h => nomatch h⟩
theorem Marks.len {ms : List Int} (h : Marks ms) : ms.length ≤ 8 := by
  rcases sorted_len h.1 h.2 with h | h <;> omega
theorem Marks.le {ms : List Int} (h : Marks ms) : ms.Pairwise (· ≤ ·) := h.1.imp fun h => Int.le_of_lt h
theorem Marks.put {ms : List Int} {q : Int} (h : Marks ms) (h0 : 0 ≤ q) (h8 : q < 8) : Marks (putR ms q) :=
  ⟨putR_sorted h.1, fun b hb => (putR_mem hb).elim (fun e => e ▸ ⟨h0, h8⟩) fun hb => h.2 b hb⟩
/-- the row of counts after t places, from the last to the first -/
def up (R : Nat → Nat) (c : Nat → Bool) : Nat → Nat → Nat
  | 0, p => R p
  | t + 1, p => if c (7 - t) = true ∧ 7 - t < p then max (up R c t p) (up R c t (7 - t) + 1) else up R c t p
def RowIs (ms : List Int) (R : Nat → Nat) : Prop := ∀ p : Nat, cnt ms (p : Int) = R p
theorem RowIs.step {ms : List Int} {R : Nat → Nat} {c : Nat → Bool} {t : Nat} (hm : Marks ms) (h : RowIs ms (up R c t)) (ht : t < 8) :
    (c (7 - t) = true → RowIs (putR ms ((7 : Int) - (t : Int))) (up R c (t + 1))) ∧ (c (7 - t) = false → RowIs ms (up R c (t + 1))) := by
  constructor
  · intro hc p
    have e : (7 : Int) - (t : Int) = ((7 - t : Nat) : Int) := by omega
    rw [e, putR_cnt hm.1, h p, h (7 - t)]
    show _ = if c (7 - t) = true ∧ 7 - t < p then _ else _
    by_cases hp : 7 - t < p
    · rw [if_pos (by omega), if_pos ⟨hc, hp⟩]
    · rw [if_neg (by omega), if_neg fun x => hp x.2]
  · intro hc p
    show _ = if c (7 - t) = true ∧ 7 - t < p then _ else _
    rw [if_neg fun x => by rw [hc] at x; exact absurd x.1 (by decide)]
    exact h p
/-- rows rise by one at most -/
def ML (R : Nat → Nat) : Prop := ∀ p, R p ≤ R (p + 1) ∧ R (p + 1) ≤ R p + 1
theorem ML.up {R : Nat → Nat} {c : Nat → Bool} (h : ML R) : ∀ t, ML (up R c t)
  | 0 => h
  | t + 1 => fun p => by
    have ih := ML.up (c := c) h t
    have h1 := ih p
    have h2 := ih (7 - t)
    show (if c (7 - t) = true ∧ 7 - t < p then max (Mine.up R c t p) (Mine.up R c t (7 - t) + 1) else Mine.up R c t p) ≤ (if c (7 - t) = true ∧ 7 - t < p + 1 then max (Mine.up R c t (p + 1)) (Mine.up R c t (7 - t) + 1) else Mine.up R c t (p + 1)) ∧
      (if c (7 - t) = true ∧ 7 - t < p + 1 then max (Mine.up R c t (p + 1)) (Mine.up R c t (7 - t) + 1) else Mine.up R c t (p + 1)) ≤ (if c (7 - t) = true ∧ 7 - t < p then max (Mine.up R c t p) (Mine.up R c t (7 - t) + 1) else Mine.up R c t p) + 1
    by_cases hc : c (7 - t) = true
    · by_cases hp : 7 - t < p
      · rw [if_pos ⟨hc, hp⟩, if_pos ⟨hc, by omega⟩]; omega
      · by_cases hp' : 7 - t < p + 1
        · have : p = 7 - t := by omega
          subst this
          rw [if_neg fun x => hp x.2, if_pos ⟨hc, hp'⟩]; omega
        · rw [if_neg fun x => hp x.2, if_neg fun x => hp' x.2]; exact h1
    · rw [if_neg fun x => hc x.1, if_neg fun x => hc x.1]; exact h1
def barC (q : Nat) : Bool := q % 2 == 0
def matC (m : Nat → Bool) (q : Nat) : Bool := q % 2 == 1 && m (q / 2)
theorem up_low (R : Nat → Nat) (c : Nat → Bool) : ∀ t p, t + p ≤ 8 → up R c t p = R p
  | 0, _, _ => rfl
  | t + 1, p, h => by
    show (if c (7 - t) = true ∧ 7 - t < p then _ else up R c t p) = _
    rw [if_neg fun x => by have := x.2; omega]
    exact up_low R c t p (by omega)
/-- the row at the next place -/
theorem up_next {R : Nat → Nat} {c : Nat → Bool} (h : ML R) {p : Nat} (hp : p < 8) : ∀ t, t ≤ 8 → up R c t (p + 1) = max (max (R (p + 1)) (up R c t p)) (if c p = true ∧ 8 ≤ t + p then R p + 1 else 0)
  | 0, _ => by
    have := (h p).1
    show R (p + 1) = max (max (R (p + 1)) (R p)) _
    rw [if_neg fun x => by have := x.2; omega, Nat.max_eq_left this, Nat.max_zero]
  | t + 1, ht => by
    have ih := up_next (c := c) h hp t (by omega)
    show (if c (7 - t) = true ∧ 7 - t < p + 1 then max (up R c t (p + 1)) (up R c t (7 - t) + 1) else up R c t (p + 1)) = max (max (R (p + 1)) (if c (7 - t) = true ∧ 7 - t < p then max (up R c t p) (up R c t (7 - t) + 1) else up R c t p)) _
    rw [ih]
    clear ih
    rcases Nat.lt_trichotomy (7 - t) p with hq | hq | hq
    · have e1 : 8 ≤ t + p := by omega
      have e2 : 8 ≤ t + 1 + p := by omega
      have e3 : 7 - t < p + 1 := by omega
      simp only [hq, e1, e2, e3, and_true]
      generalize (if c p = true then R p + 1 else 0) = X
      split
      · rw [Nat.max_assoc, Nat.max_assoc, Nat.max_assoc, Nat.max_assoc, Nat.max_comm X]
      · rfl
    · have e1 : ¬ 8 ≤ t + p := by omega
      have e2 : 8 ≤ t + 1 + p := by omega
      have e3 : 7 - t < p + 1 := by omega
      subst hq
      have e4 : up R c t (7 - t) = R (7 - t) := up_low R c t (7 - t) (by omega)
      simp only [e1, e2, e3, e4, and_true, and_false, if_false, Nat.max_zero, Nat.lt_irrefl]
      split
      · rfl
      · rw [Nat.max_zero]
    · have e1 : ¬ 8 ≤ t + p := by omega
      have e2 : ¬ 8 ≤ t + 1 + p := by omega
      have e3 : ¬ 7 - t < p + 1 := by omega
      have e4 : ¬ 7 - t < p := by omega
      simp only [e1, e2, e3, e4, and_false, if_false]
theorem up_eight {R : Nat → Nat} {c : Nat → Bool} (h : ML R) {p : Nat} (hp : p < 8) : up R c 8 (p + 1) = max (max (R (p + 1)) (up R c 8 p)) (if c p = true then R p + 1 else 0) := by
  rw [up_next h hp 8 (Nat.le_refl _)]
  simp only [Nat.le_add_right, and_true]
theorem up_zero (R : Nat → Nat) (c : Nat → Bool) : ∀ t, up R c t 0 = R 0
  | 0 => rfl
  | t + 1 => by
    show (if c (7 - t) = true ∧ 7 - t < 0 then _ else up R c t 0) = _
    rw [if_neg fun x => absurd x.2 (Nat.not_lt_zero _)]
    exact up_zero R c t
theorem up_above {R : Nat → Nat} {c : Nat → Bool} (h : ML R) : ∀ p, p < 9 → up R c 8 p ≤ R p + 1
  | 0, _ => by rw [up_zero]; exact Nat.le_succ _
  | p + 1, hp => by
    have ih := up_above (c := c) h p (by omega)
    have hl := (h p).1
    rw [up_eight h (by omega)]
    refine Nat.max_le.mpr ⟨Nat.max_le.mpr ⟨Nat.le_succ _, by omega⟩, ?_⟩
    split
    · exact Nat.succ_le_succ hl
    · exact Nat.zero_le _
theorem bar_even {R : Nat → Nat} (h : ML R) {j : Nat} (hj : j < 4) : up R barC 8 (2 * j + 2) = max (R (2 * j + 2)) (R (2 * j) + 1) ∧ up R barC 8 (2 * j + 1) = R (2 * j) + 1 := by
  have h1 : up R barC 8 (2 * j + 1) = R (2 * j) + 1 := by
    have ha := up_above (c := barC) h (2 * j) (by omega)
    have hb := (h (2 * j)).2
    rw [up_eight h (by omega), if_pos (show barC (2 * j) = true by unfold barC; rw [Nat.mul_mod_right]; rfl)]
    exact Nat.max_eq_right (Nat.max_le.mpr ⟨hb, ha⟩)
  refine ⟨?_, h1⟩
  rw [up_eight h (by omega), h1, if_neg (show ¬ barC (2 * j + 1) = true by unfold barC; rw [Nat.mul_add_mod]; decide), Nat.max_zero]
theorem mat_even {B : Nat → Nat} (h : ML B) (m : Nat → Bool) {j : Nat} (hj : j < 4) : up B (matC m) 8 (2 * j + 2) = max (max (B (2 * j + 2)) (up B (matC m) 8 (2 * j))) (if m j = true then B (2 * j + 1) + 1 else 0) := by
  have h1 := (h (2 * j + 1)).1
  have e1 : matC m (2 * j + 1) = m j := by
    unfold matC
    rw [Nat.mul_add_mod, Nat.mul_add_div (by decide)]
    show (true && m (j + 0)) = m j
    rw [Bool.true_and]; rfl
  have e0 : ¬ matC m (2 * j) = true := by
    unfold matC
    rw [Nat.mul_mod_right]
    exact Bool.false_ne_true
  rw [up_eight h (by omega), up_eight (c := matC m) h (by omega), if_neg e0, Nat.max_zero, e1, ← Nat.max_assoc, Nat.max_eq_left h1]
/-- the rows by signs of the first word -/
def rowN (e : Nat → Nat → Bool) : Nat → Nat → Nat
  | 0 => fun _ => 0
  | i + 1 => up (up (rowN e i) barC 8) (matC (e i)) 8
theorem rowN_ML (e : Nat → Nat → Bool) : ∀ i, ML (rowN e i)
  | 0 => fun _ => ⟨Nat.le_refl _, Nat.zero_le _⟩
  | i + 1 => ML.up (ML.up (rowN_ML e i) 8) 8
theorem rowN_zero (e : Nat → Nat → Bool) : ∀ i, rowN e i 0 = 0
  | 0 => rfl
  | i + 1 => by
    show up (up (rowN e i) barC 8) (matC (e i)) 8 0 = 0
    rw [up_zero, up_zero, rowN_zero e i]
theorem rowN_dp (e : Nat → Nat → Bool) : ∀ i j, j ≤ 4 → rowN e i (2 * j) + dp e i j = i + j
  | 0, j, _ => by rw [dp_zero]; show 0 + j = 0 + j; rfl
  | i + 1, 0, _ => by rw [dp_zero', Nat.mul_zero, rowN_zero]; omega
  | i + 1, j + 1, hj => by
    have h1 := rowN_dp e i j (by omega)
    have h2 := rowN_dp e i (j + 1) hj
    have h3 := rowN_dp e (i + 1) j (by omega)
    have hb := bar_even (rowN_ML e i) (j := j) (by omega)
    have hm := mat_even (ML.up (c := barC) (rowN_ML e i) 8) (e i) (j := j) (by omega)
    have hs : rowN e (i + 1) (2 * (j + 1)) = up (up (rowN e i) barC 8) (matC (e i)) 8 (2 * j + 2) := rfl
    have hs' : rowN e (i + 1) (2 * j) = up (up (rowN e i) barC 8) (matC (e i)) 8 (2 * j) := rfl
    have ht : rowN e i (2 * (j + 1)) = rowN e i (2 * j + 2) := rfl
    rw [hs, hm, hb.1, hb.2, dp_succ]
    rw [hs'] at h3
    rw [ht] at h2
    clear hb hm hs hs' ht
    generalize up (up (rowN e i) barC 8) (matC (e i)) 8 (2 * j) = z at *
    generalize rowN e i (2 * j) = x at *
    generalize rowN e i (2 * j + 2) = y at *
    generalize dp e i j = a at *
    generalize dp e i (j + 1) = b at *
    generalize dp e (i + 1) j = c at *
    by_cases he : e i j = true
    · rw [if_pos he, if_pos he]; omega
    · rw [if_neg he, if_neg he]; omega
end Mine
end
section
open PySem PySem.W PyProof.Rows PySem.Calls PySem.Spec
namespace Mine
theorem bis_use {w : World} {mean : ExcName → Option Value} {mg mb : Str → Option Value} {news : List (Addr × Obj)} {l : Addr} {vs : List Value} {n : Nat} {ns : List Int} {x : Int} {tx : Tok}
    (hm : (l, listOf vs.toArray n) ∈ news) (hi : IntsAre vs ns) (hs : ns.Pairwise (· ≤ ·)) (hlen : ns.length ≤ 8)
    {dp un : Nat} {gd : Option (List Code)} {cn : Str} {cs : Scope} {a : Addr} {ccd : Value} {cl : List (Str × Addr)} {outer : List Env} {A₀ : Around} {base h₀ : Heap} {L : Addr} {m : Str → Option Value} {s : Shared} {Q E : Value → Shared → Prop}
    (k1 : Below A₀ base outer h₀) (k2 : Fr h₀ L s.heap m) (k3 : (Mine.hd.heap_39 w.params).In h₀) (k4 : News h₀ L s.heap news) (k5 : Top Mine.hd.view_39 (looseW Mine.hd.view_39 [Str.ofString "bisect_left"]) mean mg mb h₀) (kK : cs.kind = .function)
    (kd : dp + 1 < recursionLimit) (ku : un + 8 < cLine) (kR : ∀ (t : Tok) (h' : Heap) (tk' : Nat), Fr h₀ L h' m → News h₀ L h' news → Q (.int (bisL ns x) t) { s with heap := h', toks := tk' }) :
    wpAny (model Challenge.rw_pg0152_01.row.prog w) (ktrTop dp un gd cn cs L a ccd cl outer) (call (.ref 23) [.ref l, .int x tx]) Q E s := by
  have h := bis_claim w mean mg mb news l vs n ns x tx hm hi hs hlen
  dsimp only [BisClaim, CbClaim, CbLists, CbRet] at h
  exact h _ _ _ _ _ _ _ _ _ _ _ _ _ _ _ _ _ k1 k2 k3 k4 k5 kK trivial kd ku kR
theorem word_lets (l : List Int) : Lets (wordOf l) := by
  intro c hc
  have : c ∈ l.map letter := by simpa [wordOf] using hc
  obtain ⟨k, _, rfl⟩ := List.mem_map.mp this
  unfold letter
  split
  · simp
  · split
    · simp
    · split <;> simp
theorem Lets.to {x : Str} {j : Int} (h : Lets x) (h0 : 0 ≤ j) (h1 : j ≤ x.length) : Lets (Txt.slice x none (some j)) := by
  intro c hc
  rw [sl_to h0 h1] at hc
  exact h c (List.mem_of_mem_take hc)
theorem to_len {x : Str} {j : Int} (h0 : 0 ≤ j) (h1 : j ≤ x.length) : (Txt.slice x none (some j)).length = j.toNat := by
  rw [← len_list, sl_to h0 h1, List.length_take, len_list]; omega
theorem edit_to {x y : Str} {i j : Int} (h0 : 0 ≤ i) (h1 : i ≤ x.length) (g0 : 0 ≤ j) (g1 : j ≤ y.length) : edit (Txt.slice x none (some i)) (Txt.slice y none (some j)) = dp (eqS x y) i.toNat j.toNat := by
  refine edit_lists (a := x) (b := y) (to_len h0 h1) (to_len g0 g1) fun k l hk hl => ?_
  unfold eqS
  rw [sl_to h0 h1, sl_to g0 g1]
  simp only [List.getD_eq_getElem?_getD, List.getElem?_take]
  rw [if_pos hk, if_pos hl]
theorem due_eq {nsA nsB ms : List Int} {rn jn : Nat} (hA : nsA.length = 4) (hB : nsB.length = 4) (hrow : RowIs ms (rowN (eqS (wordOf nsA) (wordOf nsB)) rn)) (hr : rn ≤ 4) (hj : jn ≤ 4) :
    2 * ((0 + (rn : Int)) + (0 + (jn : Int)) - bisL ms (2 * (0 + (jn : Int)))) = 2 * (edit (Txt.slice (wordOf nsA) none (some (0 + (rn : Int)))) (Txt.slice (wordOf nsB) none (some (0 + (jn : Int)))) : Int) := by
  have lA := wordOf_length nsA
  have lB := wordOf_length nsB
  rw [edit_to (by omega) (by omega) (by omega) (by omega), bisL_cnt]
  have h1 := hrow (2 * jn)
  have h2 := rowN_dp (eqS (wordOf nsA) (wordOf nsB)) rn jn hj
  rw [show (2 * (0 + (jn : Int))) = ((2 * jn : Nat) : Int) by omega, h1, show (0 + (rn : Int)).toNat = rn by omega, show (0 + (jn : Int)).toNat = jn by omega]
  omega
theorem letter_bar (k : Int) : letter k ≠ 124 := by
  unfold letter
  split
  · decide
  · split
    · decide
    · split <;> decide
theorem bar_item {l : List Int} {q : Int} {t : Nat} (h4 : l.length = 4) (hq : q = (7 : Int) - (t : Int)) (ht : t < 8) : Txt.item (barOf l) q = ⟨#[if barC (7 - t) = true then 124 else letter (l.getD ((7 - t) / 2) 0)]⟩ := by
  obtain ⟨a, b, c, d, rfl⟩ := four h4
  have hh : t = 0 ∨ t = 1 ∨ t = 2 ∨ t = 3 ∨ t = 4 ∨ t = 5 ∨ t = 6 ∨ t = 7 := by omega
  subst hq
  rcases hh with rfl | rfl | rfl | rfl | rfl | rfl | rfl | rfl <;> rfl
theorem bar_eq {l : List Int} {q : Int} {t : Nat} (h4 : l.length = 4) (hq : q = (7 : Int) - (t : Int)) (ht : t < 8) : (Txt.item (barOf l) q == Str.ofString "|") = barC (7 - t) := by
  rw [bar_item h4 hq ht, show Str.ofString "|" = (⟨#[124]⟩ : Str) by decide, one_beq]
  by_cases h : barC (7 - t) = true
  · rw [if_pos h, h]; rfl
  · rw [if_neg h, Bool.eq_false_iff.mpr h]
    exact beq_eq_false_iff_ne.mpr (letter_bar _)
theorem word_getD {l : List Int} {i : Nat} (hi : i < l.length) : (wordOf l).cps.toList.getD i 0 = letter (l.getD i 0) := by
  have : (wordOf l).cps.toList = l.map letter := by simp [wordOf]
  rw [this]
  simp [List.getD, hi]
theorem mat_eq {nsA nsB : List Int} {q i : Int} {t rn : Nat} (hA : nsA.length = 4) (hB : nsB.length = 4) (hq : q = (7 : Int) - (t : Int)) (ht : t < 8) (hi : i = 0 + (rn : Int)) (hr : rn < 4) :
    (Txt.item (barOf nsB) q == Txt.item (wordOf nsA) i) = matC (eqS (wordOf nsA) (wordOf nsB) rn) (7 - t) := by
  have lA := wordOf_length nsA
  rw [bar_item hB hq ht, it_pos (by omega) (by omega), one_beq, show i.toNat = rn by omega, word_getD (by omega)]
  unfold matC eqS
  rw [word_getD (by omega), word_getD (by omega)]
  by_cases h : barC (7 - t) = true
  · rw [if_pos h]
    have : ((7 - t) % 2 == 1) = false := by
      unfold barC at h
      rw [beq_iff_eq] at h
      rw [beq_eq_false_iff_ne]
      omega
    rw [this, Bool.false_and]
    exact beq_eq_false_iff_ne.mpr fun e => letter_bar _ e.symm
  · rw [if_neg h]
    have : ((7 - t) % 2 == 1) = true := by
      unfold barC at h
      rw [beq_iff_eq] at h
      rw [beq_iff_eq]
      omega
    rw [this, Bool.true_and]
    rw [Bool.eq_iff_iff, beq_iff_eq, beq_iff_eq]
    exact eq_comm
end Mine
end
section
open PySem PySem.W PyProof.Rows PySem.Calls PySem.Spec
namespace Mine
section
variable {prog : Program} {w : World} {A : Around} {E : Value → Shared → Prop} {s : Shared} {D sl K : Addr} {xs ys : Array Value} {n k : Nat} {vl vu : Value} {a b : Int} {Q : Unit → Shared → Prop}
theorem my_setSliceRaw (hD : s.heap.get? D = some (listOf xs n)) (hK : s.heap.get? K = some (listOf ys k)) (hs : s.heap.IsSliceOf sl vl vu .none) (pl : IsPart vl (some a)) (pu : IsPart vu (some b)) (hne : (D == K) = false)
    (h0 : 0 ≤ a) (h1 : 0 ≤ b) (hx : xs.size ≤ 100) (hy : ys.size ≤ 100)
    (h : Q () { s with heap := s.heap.update D (Obj.mapSeq fun zs => zs.extract 0 (sliceBounds (some a) (some b) none xs.size).1.toNat ++ ys ++ zs.extract (max (sliceBounds (some a) (some b) none xs.size).1 (sliceBounds (some a) (some b) none xs.size).2.1).toNat) }) :
    wpAny (model prog w) A (setItem (.ref D) (.ref sl) (.ref K)) Q E s := by
  have hl : s.heap.IsList D xs := PySem.IsL.isList (n := n) hD
  obtain ⟨os, hos, hcs, hds⟩ := id hs
  have hTs : s.TypeIs (.ref sl) "slice" := ⟨os, hos, hcs⟩
  have hTk : s.TypeIs (.ref K) "list" := (PySem.IsL.isList (n := k) hK).typeIs
  unfold setItem
  try with_reducible refine wpAny_holding ?_
  first | refine wpAny_bind (wpAny_pure ?_) | skip
  refine wpAny_bind (wpAny_sequenceKey hl.typeIs (by decide) ?_)
  refine wpAny_bind (wpAny_callSpecial?_slot (name := Str.ofString "__setitem__") hl.typeIs slot_list_setitem
    (wpAny_call_entry slot_list_setitem hl.typeIs entry_list_setitem ?_ (args_list_setitem _ _ _)))
  show wpAny _ _ (Builtin.List.listSubscript? (.ref sl) >>= _) _ _ s
  refine wpAny_bind ?_
  unfold Builtin.List.listSubscript?
  refine wpAny_bind (wpAny_specialOf hTs slice_no_index ?_)
  simp only [Option.isNone_none, if_true]
  refine wpAny_pure ?_
  show wpAny _ _ (typeOf (.ref sl) >>= _) _ _ s
  refine wpAny_bind (wpAny_typeOf hTs ?_)
  rw [if_neg (by decide)]
  rw [listSliceParts_eq]
  refine wpAny_bind (wpAny_bind (wpAny_field hos hds (x := .none) rfl (wpAny_bind (wpAny_listPart .none ?_))))
  rw [if_neg (by exact Bool.false_ne_true)]
  refine wpAny_bind (wpAny_field hos hds (x := vl) rfl (wpAny_bind (wpAny_listPart pl ?_)))
  refine wpAny_bind (wpAny_field hos hds (x := vu) rfl (wpAny_bind (wpAny_listPart pu (wpAny_pure ?_))))
  rw [if_neg (show ¬ (Builtin.List.listSameRef (Value.ref D) (Value.ref K) = true) by show ¬ ((D == K) = true); rw [hne]; exact Bool.false_ne_true)]
  refine wpAny_bind ?_
  unfold Builtin.List.listAllItems
  refine wpAny_bind (wpAny_typeOf hTk ?_)
  rw [if_pos (by decide)]
  unfold Builtin.List.listItems
  refine wpAny_bind (wpAny_seqItems hK rfl (wpAny_pure ?_))
  refine wpAny_bind ?_
  refine wpAny_bind (wpAny_seqItems hD rfl (wpAny_pure ?_))
  refine wpAny_bind (wpAny_of_eq (sliceIndices_raw (some a) (some b) none xs.size (by simp)) ?_)
  rw [if_pos (show ((sliceBounds (some a) (some b) none xs.size).2.2 == 1) = true by rfl)]
  refine wpAny_bind (wpAny_rule ?_)
  rw [if_neg (show ¬ (Builtin.List.listTooLong (xs.size + ys.size) = true) by unfold Builtin.List.listTooLong; rw [sizeLine_eq]; simp only [decide_eq_true_eq]; omega)]
  refine wpAny_bind (wpAny_updateSeq hD rfl ?_ (by rw [sizeLine_eq]; omega) ?_)
  · refine wpAny_bind (wpAny_letGo ?_)
    exact wpAny_pure ⟨.none, rfl, wpAny_pure h⟩
  · rw [sizeLine_eq]
    simp only [Array.size_append, Array.size_extract]
    omega
end
theorem ints_app : ∀ {vs : List Value} {ms : List Int} {ws : List Value} {ks : List Int}, IntsAre vs ms → IntsAre ws ks → IntsAre (vs ++ ws) (ms ++ ks)
  | _, _, _, _, .nil, h => h
  | _, _, _, _, .cons i t r, h => .cons i t (ints_app r h)
theorem put_arr {vs : List Value} {ms : List Int} {f : Nat} {v : Value} (hi : IntsAre vs ms) (hf : f ≤ ms.length) :
    vs.toArray.extract 0 (sliceBounds (some (f : Int)) (some ((f : Int) + 1)) none vs.toArray.size).1.toNat ++ #[v] ++ vs.toArray.extract (max (sliceBounds (some (f : Int)) (some ((f : Int) + 1)) none vs.toArray.size).1 (sliceBounds (some (f : Int)) (some ((f : Int) + 1)) none vs.toArray.size).2.1).toNat
      = (vs.take f ++ v :: vs.drop (f + 1)).toArray := by
  have hl := hi.length
  have e1 : (sliceBounds (some (f : Int)) (some ((f : Int) + 1)) none vs.toArray.size).1 = (f : Int) := by
    simp only [sliceBounds, Option.getD_none, show (1 : Int) > 0 by decide, if_true, if_neg (show ¬ ((f : Int) < 0) by omega), List.size_toArray]
    omega
  have e2 : (sliceBounds (some (f : Int)) (some ((f : Int) + 1)) none vs.toArray.size).2.1 = ((min (f + 1) vs.length : Nat) : Int) := by
    simp only [sliceBounds, Option.getD_none, show (1 : Int) > 0 by decide, if_true, if_neg (show ¬ ((f : Int) + 1 < 0) by omega), List.size_toArray]
    omega
  rw [e1, e2]
  have e3 : (max (f : Int) ((min (f + 1) vs.length : Nat) : Int)).toNat = min (f + 1) vs.length := by omega
  rw [e3]
  apply Array.toList_inj.mp
  rw [Array.toList_append, Array.toList_append, Array.toList_extract, Array.toList_extract]
  simp only [Int.toNat_natCast, List.extract_eq_take_drop, List.drop_zero, Nat.sub_zero, List.size_toArray]
  rw [kmk_drop_min, List.take_of_length_le (l := List.drop (f + 1) vs) (by rw [List.length_drop]; omega)]
  simp
theorem put_ints {vs : List Value} {ms : List Int} {q : Int} {t : Tok} (hi : IntsAre vs ms) (hs : ms.Pairwise (· < ·)) :
    IntsAre (vs.take (cnt ms q) ++ Value.int q t :: vs.drop (cnt ms q + 1)) (putR ms q) := by
  rw [← putR_eq hs]
  exact ints_app (hi.take _) (.cons q t (hi.drop _))
section
variable {ms l nsA nsB : List Int} {q i : Int} {t rn : Nat} {R : Nat → Nat}
theorem bar_no (h4 : l.length = 4) (hq : q = (7 : Int) - (t : Int)) (ht : t < 8) (hm : Marks ms) (hrow : RowIs ms (up R barC t)) (h : (Txt.item (barOf l) q == Str.ofString "|") = false) : RowIs ms (up R barC (t + 1)) :=
  (hrow.step hm ht).2 (by rw [← bar_eq h4 hq ht]; exact h)
theorem bar_yes (h4 : l.length = 4) (hq : q = (7 : Int) - (t : Int)) (ht : t < 8) (hm : Marks ms) (hrow : RowIs ms (up R barC t)) (h : (Txt.item (barOf l) q == Str.ofString "|") = true) : RowIs (putR ms q) (up R barC (t + 1)) := by
  have := (hrow.step hm ht).1 (by rw [← bar_eq h4 hq ht]; exact h)
  rw [hq]; exact this
theorem mat_no (hA : nsA.length = 4) (hB : nsB.length = 4) (hq : q = (7 : Int) - (t : Int)) (ht : t < 8) (hi : i = 0 + (rn : Int)) (hr : rn < 4) (hm : Marks ms) (hrow : RowIs ms (up R (matC (eqS (wordOf nsA) (wordOf nsB) rn)) t)) (h : (Txt.item (barOf nsB) q == Txt.item (wordOf nsA) i) = false) :
    RowIs ms (up R (matC (eqS (wordOf nsA) (wordOf nsB) rn)) (t + 1)) :=
  (hrow.step hm ht).2 (by rw [← mat_eq hA hB hq ht hi hr]; exact h)
theorem mat_yes (hA : nsA.length = 4) (hB : nsB.length = 4) (hq : q = (7 : Int) - (t : Int)) (ht : t < 8) (hi : i = 0 + (rn : Int)) (hr : rn < 4) (hm : Marks ms) (hrow : RowIs ms (up R (matC (eqS (wordOf nsA) (wordOf nsB) rn)) t)) (h : (Txt.item (barOf nsB) q == Txt.item (wordOf nsA) i) = true) :
    RowIs (putR ms q) (up R (matC (eqS (wordOf nsA) (wordOf nsB) rn)) (t + 1)) := by
  have := (hrow.step hm ht).1 (by rw [← mat_eq hA hB hq ht hi hr]; exact h)
  rw [hq]; exact this
end
theorem my_put {prog : Program} {w : World} {A : Around} {E : Value → Shared → Prop} {s : Shared} {h₀ : Heap} {L K M : Addr} {m : Str → Option Value} {rest : List (Addr × Obj)} {vs : List Value} {ms : List Int} {n k : Nat} {q : Int} {tq ta tb : Tok} {Q : Unit → Shared → Prop}
    (F : Fr h₀ L s.heap m) (N : News h₀ L s.heap ((K, listOf #[.int q tq] k) :: (M, listOf vs.toArray n) :: rest)) (hKM : M < K) (hr : ∀ p ∈ rest, p.1 ≠ M) (hi : IntsAre vs ms) (hmk : Marks ms)
    (h : ∀ ws n' h', Fr h₀ L h' m → News h₀ L h' ((M, listOf (List.toArray ws) n') :: rest) → IntsAre ws (putR ms q) → Q () { s with heap := h' }) :
    wpAny (model prog w) A (setItem (.ref M) (.ref s.heap.objs.size) (.ref K)) Q E { s with heap := s.heap.push { cls := .type "slice", data := .fields #[.int (bisL ms q) ta, .int (bisL ms q + 1) tb, .none] } } := by
  have N1 : News h₀ L (s.heap.push { cls := .type "slice", data := .fields #[.int (bisL ms q) ta, .int (bisL ms q + 1) tb, .none] }) ([(K, listOf #[.int q tq] k)] ++ (M, listOf vs.toArray n) :: rest) := fun p hp => ⟨Heap.get?_push_of_some _ (N p hp).1, (N p hp).2⟩
  have zM := N1 (M, listOf vs.toArray n) (.tail _ (.head _))
  have zK := N1 (K, listOf #[.int q tq] k) (.head _)
  have hl := hi.length
  have h8 := hmk.len
  refine my_setSliceRaw (a := bisL ms q) (b := bisL ms q + 1) zM.1 zK.1 (Heap.IsSliceOf.new ..) (.int _ _) (.int _ _) (by rw [beq_eq_false_iff_ne]; exact Nat.ne_of_lt hKM) (by rw [bisL_cnt]; omega) (by rw [bisL_cnt]; omega) (by rw [List.size_toArray]; omega) (by simp) ?_
  have N2 := ki_turn (D := M) (its := vs.toArray) (n := n) (fun zs => zs.extract 0 (sliceBounds (some (bisL ms q)) (some (bisL ms q + 1)) none vs.toArray.size).1.toNat ++ #[.int q tq] ++ zs.extract (max (sliceBounds (some (bisL ms q)) (some (bisL ms q + 1)) none vs.toArray.size).1 (sliceBounds (some (bisL ms q)) (some (bisL ms q + 1)) none vs.toArray.size).2.1).toNat)
    (its' := (vs.take (cnt ms q) ++ Value.int q tq :: vs.drop (cnt ms q + 1)).toArray) N1 (fun p hp => by rw [List.mem_singleton.mp hp]; exact Nat.ne_of_gt hKM) hr (put_arr hi (cnt_le ms q)) rfl
  exact h _ _ _ ((F.push _).change (Heap.SameBut.update ..) zM.2.1 zM.2.2) (fun p hp => N2 p (.tail _ hp)) (put_ints hi hmk.1)
end Mine
end
section
open PySem PySem.W PyProof.Rows PySem.Calls PySem.Spec
set_option pp.deepTerms false
set_option pp.deepTerms.threshold 8
namespace Mine
local macro_rules | `(tactic| walk_at "subscriptTail") => `(tactic| (k_here; (with_reducible show wpAny _ _ (subscriptTail (Expr.List _ _) (PySem.Expr.Slice (some _) none none _) (Value.ref _) (Value.ref _)) _ _ _); (refine' my_slice (s := ⟨_, _, _, _, _⟩) ?F ?N ?l ?p ?q (kmk_from (IntsAre.cons _ _ (IntsAre.cons _ _ (IntsAre.cons _ _ (IntsAre.cons _ _ IntsAre.nil)))) ?h0) ?z ?_ ?s); (case F => k_asm); (case N => k_asm); (case l => exact News.isList (by k_asm) (by k_mem)); (case p => kmk_part); (case q => kmk_part); (case h0 => omega); (case z => exact Nat.le_of_ble_eq_true rfl); (case s => with_unfolding_all rfl); intro D' ws' h' F' N' l1 hI'; (try k_lt l1); (try k_sweep)))
local macro_rules | `(tactic| walk_at "call builtin:str.join") => `(tactic| (k_here; first
  | (refine' my_joinE ?hl (by assumption) (by assumption) ?_; (case hl => exact News.isList (by k_asm) (by k_mem)); intro _ _)
  | (refine' my_joinB ?hl (by assumption) (by assumption) ?_; (case hl => exact News.isList (by k_asm) (by k_mem)); intro _ _)))
local macro_rules | `(tactic| walk_at "call type:list") => `(tactic| (k_here; (with_reducible show wpAny _ _ (call (Value.type _) [Value.str (wordOf _) _]) _ _ _); (rename Fr _ _ _ _ => lF'); (rename News _ _ _ _ => lN'); (refine' my_list_word (by rfl) lF' lN' (by assumption) ?_); (clear lF' lN'); intro D' us' k' h' tk' F' N' l1 hc'))
local macro_rules | `(tactic| walk_at "binaryOp Add str str") => `(tactic| (k_here; (refine my_addbar (by assumption) ?_); intro _ _))
local macro_rules | `(tactic| walk_at "truthy bool") => `(tactic| (k_here; (with_reducible show wpAny _ _ (truthy (Value.bool _)) _ _ _); (refine tr_no ?e ?_); (case e => (simp; done))))
local macro_rules | `(tactic| walk_at "subscriptTail Name Slice str ref") => `(tactic| (k_here; (with_reducible show wpAny _ _ (subscriptTail _ (Expr.Slice none (some _) none _) (Value.str (wordOf _) _) (Value.ref _)) _ _ _); (with_reducible rename Fr _ _ _ _ => F'); (with_reducible rename News _ _ _ _ => N'); (with_reducible refine slice_strN_ns (hsz := ?hsz) (s := ⟨_, _, _, _, _⟩) F' N' ?_); (case hsz => (rw [wordOf_length, sizeLine_eq]; omega)); intro _ _ _ _ _))
local macro_rules | `(tactic| walk_at "binaryOp Mult int int") => `(tactic| (k_here; (with_reducible show wpAny _ _ (binaryOp Operator.Mult (Value.int 2 _) (Value.int _ _)) _ _ _); refine mul_int ?_ (IntMulOk.of_left (intBits_le_64 (by decide) (by decide)))))
set_option maxRecDepth 100000 in
set_option maxHeartbeats 8000000 in
theorem law_holds : PySem.Challenge.rw_pg0152_01.Holds := by
  w_top off
  refine hd ?_
  w_strict (
    k_go0
    all_goals try k_fold
    rename List Int => ns
    (repeat' ((((fail_if_success (with_reducible show wpAny _ _ (exec (Stmt.For _ _ _ _ _) _) _ _ _)); (fail_if_success (with_reducible show wpAny _ _ (pyIter (Value.ref _)) (fun it s₂ => LoopAtV _ _ _ _ _ _ _ _ _ it s₂) _ _)); (fail_if_success (with_reducible show InvEndN _ _ _ _ _ _ _)); (fail_if_success (with_reducible show LCg.CompSrc _ _ _ _ _ _ _ _ _ _ _ _ _ _)); (fail_if_success (with_reducible show wpAny _ _ (eval (Expr.ListComp _ _ _ _) _) _ _ _)); (fail_if_success (with_reducible show wpAny _ _ (setItem (Value.ref _) (Value.ref _) _) _ _ _)); (fail_if_success (with_reducible show LCg.CompEnd _ _ _ _ _ _ _ _ _ _ _ _ _ _)); (fail_if_success (with_reducible show wpAny _ _ (call (Value.ref _) _) _ _ _)); first | (k_unfold; (try dsimp only)) | (k_end; wrow_close) | walk1 | (dsimp only; walk1) | (leave1; walk_say "STEP leave1"; try dsimp only) | fail "no step"))))
    rename IntsAre _ (_ ++ List.drop _ [17, 3, 6, 12]) => hiB
    rename IntsAre _ (_ ++ List.drop _ [4, 9, 2, 23]) => hiA
    obtain ⟨nsA, h4A, hA⟩ := len4 hiA (by (simp only [List.length_append, List.length_take, List.length_drop, List.length_cons, List.length_nil]); omega)
    obtain ⟨nsB, h4B, hB⟩ := len4 hiB (by (simp only [List.length_append, List.length_take, List.length_drop, List.length_cons, List.length_nil]); omega)
    clear hiA hiB
    (((refine' Says.use (word_claim _ _ _ _ _ _ _ _ _ ?hmq3 ?hiq3 ?hlenq3) ?k1q3 ?k2q3 ?k3q3 ?k4q3 ?k5q3 ?kKq3 ?kdq3 ?kuq3 ?kRq3); (case k1q3 => k_asm); (case k2q3 => k_asm); (case k3q3 => k_asm); (case k5q3 => k_asm); (case k4q3 => k_asm); (case kKq3 => first | exact rfl | assumption); (case kdq3 => ktr_room); (case kuq3 => ktr_units); (case hmq3 => k_mem); (case hiq3 => assumption); (case hlenq3 => omega); intro t9 h9 tk9 F9 N9; (try dsimp only); (try k_fold)))
    (repeat' ((((fail_if_success (with_reducible show wpAny _ _ (exec (Stmt.For _ _ _ _ _) _) _ _ _)); (fail_if_success (with_reducible show wpAny _ _ (pyIter (Value.ref _)) (fun it s₂ => LoopAtV _ _ _ _ _ _ _ _ _ it s₂) _ _)); (fail_if_success (with_reducible show InvEndN _ _ _ _ _ _ _)); (fail_if_success (with_reducible show LCg.CompSrc _ _ _ _ _ _ _ _ _ _ _ _ _ _)); (fail_if_success (with_reducible show wpAny _ _ (eval (Expr.ListComp _ _ _ _) _) _ _ _)); (fail_if_success (with_reducible show wpAny _ _ (setItem (Value.ref _) (Value.ref _) _) _ _ _)); (fail_if_success (with_reducible show LCg.CompEnd _ _ _ _ _ _ _ _ _ _ _ _ _ _)); (fail_if_success (with_reducible show wpAny _ _ (call (Value.ref _) _) _ _ _)); first | (k_unfold; (try dsimp only)) | (k_end; wrow_close) | walk1 | (dsimp only; walk1) | (leave1; walk_say "STEP leave1"; try dsimp only) | fail "no step"))))
    (((refine' Says.use (word_claim _ _ _ _ _ _ _ _ _ ?hmq6 ?hiq6 ?hlenq6) ?k1q6 ?k2q6 ?k3q6 ?k4q6 ?k5q6 ?kKq6 ?kdq6 ?kuq6 ?kRq6); (case k1q6 => k_asm); (case k2q6 => k_asm); (case k3q6 => k_asm); (case k5q6 => k_asm); (case k4q6 => k_asm); (case kKq6 => first | exact rfl | assumption); (case kdq6 => ktr_room); (case kuq6 => ktr_units); (case hmq6 => k_mem); (case hiq6 => assumption); (case hlenq6 => omega); intro t9 h9 tk9 F9 N9; (try dsimp only); (try k_fold)))
    (repeat' ((((fail_if_success (with_reducible show wpAny _ _ (exec (Stmt.For _ _ _ _ _) _) _ _ _)); (fail_if_success (with_reducible show wpAny _ _ (pyIter (Value.ref _)) (fun it s₂ => LoopAtV _ _ _ _ _ _ _ _ _ it s₂) _ _)); (fail_if_success (with_reducible show InvEndN _ _ _ _ _ _ _)); (fail_if_success (with_reducible show LCg.CompSrc _ _ _ _ _ _ _ _ _ _ _ _ _ _)); (fail_if_success (with_reducible show wpAny _ _ (eval (Expr.ListComp _ _ _ _) _) _ _ _)); (fail_if_success (with_reducible show wpAny _ _ (setItem (Value.ref _) (Value.ref _) _) _ _ _)); (fail_if_success (with_reducible show LCg.CompEnd _ _ _ _ _ _ _ _ _ _ _ _ _ _)); (fail_if_success (with_reducible show wpAny _ _ (call (Value.ref _) _) _ _ _)); first | (k_unfold; (try dsimp only)) | (k_end; wrow_close) | walk1 | (dsimp only; walk1) | (leave1; walk_say "STEP leave1"; try dsimp only) | fail "no step"))))
    ((k_dflt (refine LCg.ListComp_U (F₀ := by k_asm) (by with_unfolding_all rfl) (by decide) (by rfl) (by decide) (by rfl) ?_); walk1; k_dflt (refine LCg.CompSrc.ledger (by rfl) (by k_asm) (by k_asm) (by k_mem) ?cszq9 ?_; (case cszq9 => (rw [List.size_toArray, IntsAre.length (by assumption), sizeLine_eq]; omega)); intro g'; (refine' kct_list (fun k => ⟨#[letter k]⟩) (by assumption) (fun k' t' I' oI' C' oC' D' m' ys' h' tk' E' hk' hC' hx' F' N' off' ne' mk' => ?_) ?_); (try (simp only [LCg.Off3, and_true] at off')); kcf_last); (focus ((repeat' ((((fail_if_success (with_reducible show wpAny _ _ (exec (Stmt.For _ _ _ _ _) _) _ _ _)); (fail_if_success (with_reducible show wpAny _ _ (pyIter (Value.ref _)) (fun it s₂ => LoopAtV _ _ _ _ _ _ _ _ _ it s₂) _ _)); (fail_if_success (with_reducible show InvEndN _ _ _ _ _ _ _)); (fail_if_success (with_reducible show LCg.CompSrc _ _ _ _ _ _ _ _ _ _ _ _ _ _)); (fail_if_success (with_reducible show wpAny _ _ (eval (Expr.ListComp _ _ _ _) _) _ _ _)); (fail_if_success (with_reducible show wpAny _ _ (setItem (Value.ref _) (Value.ref _) _) _ _ _)); (fail_if_success (with_reducible show LCg.CompEnd _ _ _ _ _ _ _ _ _ _ _ _ _ _)); (fail_if_success (with_reducible show wpAny _ _ (call (Value.ref _) _) _ _ _)); first | (k_unfold; (try dsimp only)) | (k_end; wrow_close) | walk1 | (dsimp only; walk1) | (leave1; walk_say "STEP leave1"; try dsimp only) | fail "no step")))); (k_unfold; (try dsimp only)); (refine' LCg.CompEnd.intro (by assumption) (by assumption) _ ?zsubq9 ?zoffq9 ?zSq9 (kct_el (kmpt_fmod _) rfl rfl)); (case zsubq9 => kcf_all); (case zoffq9 => first | assumption | (simp only [LCg.Off3, and_true]; done) | (simp only [LCg.Off3, and_true]; assumption)); (case zSq9 => first | lcg_src | assumption)))))
    unfold KPfDone
    intro ysA hysA hysl
    (repeat' ((((fail_if_success (with_reducible show wpAny _ _ (exec (Stmt.For _ _ _ _ _) _) _ _ _)); (fail_if_success (with_reducible show wpAny _ _ (pyIter (Value.ref _)) (fun it s₂ => LoopAtV _ _ _ _ _ _ _ _ _ it s₂) _ _)); (fail_if_success (with_reducible show InvEndN _ _ _ _ _ _ _)); (fail_if_success (with_reducible show LCg.CompSrc _ _ _ _ _ _ _ _ _ _ _ _ _ _)); (fail_if_success (with_reducible show wpAny _ _ (eval (Expr.ListComp _ _ _ _) _) _ _ _)); (fail_if_success (with_reducible show wpAny _ _ (setItem (Value.ref _) (Value.ref _) _) _ _ _)); (fail_if_success (with_reducible show LCg.CompEnd _ _ _ _ _ _ _ _ _ _ _ _ _ _)); (fail_if_success (with_reducible show wpAny _ _ (call (Value.ref _) _) _ _ _)); first | (k_unfold; (try dsimp only)) | (k_end; wrow_close) | walk1 | (dsimp only; walk1) | (leave1; walk_say "STEP leave1"; try dsimp only) | fail "no step"))))
    ((k_dflt (refine LCg.ListComp_U (F₀ := by k_asm) (by with_unfolding_all rfl) (by decide) (by rfl) (by decide) (by rfl) ?_); walk1; k_dflt (refine LCg.CompSrc.ledger (by rfl) (by k_asm) (by k_asm) (by k_mem) ?cszq14 ?_; (case cszq14 => (rw [List.size_toArray, IntsAre.length (by assumption), sizeLine_eq]; omega)); intro g'; (refine' kct_list (fun k => ⟨#[letter k]⟩) (by assumption) (fun k' t' I' oI' C' oC' D' m' ys' h' tk' E' hk' hC' hx' F' N' off' ne' mk' => ?_) ?_); (try (simp only [LCg.Off3, and_true] at off')); kcf_last); (focus ((repeat' ((((fail_if_success (with_reducible show wpAny _ _ (exec (Stmt.For _ _ _ _ _) _) _ _ _)); (fail_if_success (with_reducible show wpAny _ _ (pyIter (Value.ref _)) (fun it s₂ => LoopAtV _ _ _ _ _ _ _ _ _ it s₂) _ _)); (fail_if_success (with_reducible show InvEndN _ _ _ _ _ _ _)); (fail_if_success (with_reducible show LCg.CompSrc _ _ _ _ _ _ _ _ _ _ _ _ _ _)); (fail_if_success (with_reducible show wpAny _ _ (eval (Expr.ListComp _ _ _ _) _) _ _ _)); (fail_if_success (with_reducible show wpAny _ _ (setItem (Value.ref _) (Value.ref _) _) _ _ _)); (fail_if_success (with_reducible show LCg.CompEnd _ _ _ _ _ _ _ _ _ _ _ _ _ _)); (fail_if_success (with_reducible show wpAny _ _ (call (Value.ref _) _) _ _ _)); first | (k_unfold; (try dsimp only)) | (k_end; wrow_close) | walk1 | (dsimp only; walk1) | (leave1; walk_say "STEP leave1"; try dsimp only) | fail "no step")))); (k_unfold; (try dsimp only)); (refine' LCg.CompEnd.intro (by assumption) (by assumption) _ ?zsubq14 ?zoffq14 ?zSq14 (kct_el (kmpt_fmod _) rfl rfl)); (case zsubq14 => kcf_all); (case zoffq14 => first | assumption | (simp only [LCg.Off3, and_true]; done) | (simp only [LCg.Off3, and_true]; assumption)); (case zSq14 => first | lcg_src | assumption)))))
    unfold KPfDone
    intro ysB hysB hysl
    (repeat' ((((fail_if_success (with_reducible show wpAny _ _ (exec (Stmt.For _ _ _ _ _) _) _ _ _)); (fail_if_success (with_reducible show wpAny _ _ (pyIter (Value.ref _)) (fun it s₂ => LoopAtV _ _ _ _ _ _ _ _ _ it s₂) _ _)); (fail_if_success (with_reducible show InvEndN _ _ _ _ _ _ _)); (fail_if_success (with_reducible show LCg.CompSrc _ _ _ _ _ _ _ _ _ _ _ _ _ _)); (fail_if_success (with_reducible show wpAny _ _ (eval (Expr.ListComp _ _ _ _) _) _ _ _)); (fail_if_success (with_reducible show wpAny _ _ (setItem (Value.ref _) (Value.ref _) _) _ _ _)); (fail_if_success (with_reducible show LCg.CompEnd _ _ _ _ _ _ _ _ _ _ _ _ _ _)); (fail_if_success (with_reducible show wpAny _ _ (call (Value.ref _) _) _ _ _)); first | (k_unfold; (try dsimp only)) | (k_end; wrow_close) | walk1 | (dsimp only; walk1) | (leave1; walk_say "STEP leave1"; try dsimp only) | fail "no step"))))
    (rename Fr _ _ _ _ => lF')
    (with_unfolding_all refine' For_invVF lF' ?k1 ?k2 ?_; (case k1 => exact rfl); (case k2 => exact rfl))
    (repeat' ((((fail_if_success (with_reducible show wpAny _ _ (exec (Stmt.For _ _ _ _ _) _) _ _ _)); (fail_if_success (with_reducible show wpAny _ _ (pyIter (Value.ref _)) (fun it s₂ => LoopAtV _ _ _ _ _ _ _ _ _ it s₂) _ _)); (fail_if_success (with_reducible show InvEndN _ _ _ _ _ _ _)); (fail_if_success (with_reducible show LCg.CompSrc _ _ _ _ _ _ _ _ _ _ _ _ _ _)); (fail_if_success (with_reducible show wpAny _ _ (eval (Expr.ListComp _ _ _ _) _) _ _ _)); (fail_if_success (with_reducible show wpAny _ _ (setItem (Value.ref _) (Value.ref _) _) _ _ _)); (fail_if_success (with_reducible show LCg.CompEnd _ _ _ _ _ _ _ _ _ _ _ _ _ _)); (fail_if_success (with_reducible show wpAny _ _ (call (Value.ref _) _) _ _ _)); first | (k_unfold; (try dsimp only)) | (k_end; wrow_close) | walk1 | (dsimp only; walk1) | (leave1; walk_say "STEP leave1"; try dsimp only) | fail "no step"))))
    (rename News _ _ _ _ => lN')
    obtain ⟨M, hM⟩ := led_name lN'
    subst hM
    (rename IsRange _ _ _ _ _ _ _ _ => rgX); (rename Fr _ _ _ _ => lF'); (rename News _ _ _ _ => lN')
    have kMark := kstMark
    refine' kst_range (σ := List Value × Nat) (fun c => [(M, listOf c.1.toArray c.2)]) (fun _ => []) (fun _ => True) [Str.ofString "j", Str.ofString "due", Str.ofString "place", Str.ofString "found"]
      (fun pre c => ∃ ms, IntsAre c.1 ms ∧ Marks ms ∧ (pre.length ≤ 4 → RowIs ms (rowN (eqS (wordOf nsA) (wordOf nsB)) pre.length))) ([], 0) (by rfl) rgX (by decide) (rangeSize_nat _ _) lF' (kst_newsOf lN' (List.forall_mem_cons.mpr ⟨.head _, List.forall_mem_nil _⟩)) trivial ?kk ⟨[], IntsAre.nil, Marks.nil, fun _ _ => rfl⟩ ?kt ?kd
    case kk => kst_all
    case kd =>
      clear lF' lN' rgX
      rintro ⟨vs, c0⟩ u1 h1 tk1 _ _ F N
      dsimp only at F N ⊢
      try k_fold
      (repeat' ((((fail_if_success (with_reducible show wpAny _ _ (exec (Stmt.For _ _ _ _ _) _) _ _ _)); (fail_if_success (with_reducible show wpAny _ _ (pyIter (Value.ref _)) (fun it s₂ => LoopAtV _ _ _ _ _ _ _ _ _ it s₂) _ _)); (fail_if_success (with_reducible show InvEndN _ _ _ _ _ _ _)); (fail_if_success (with_reducible show LCg.CompSrc _ _ _ _ _ _ _ _ _ _ _ _ _ _)); (fail_if_success (with_reducible show wpAny _ _ (eval (Expr.ListComp _ _ _ _) _) _ _ _)); (fail_if_success (with_reducible show wpAny _ _ (setItem (Value.ref _) (Value.ref _) _) _ _ _)); (fail_if_success (with_reducible show LCg.CompEnd _ _ _ _ _ _ _ _ _ _ _ _ _ _)); (fail_if_success (with_reducible show wpAny _ _ (call (Value.ref _) _) _ _ _)); first | (k_unfold; (try dsimp only)) | (k_end; wrow_close) | walk1 | (dsimp only; walk1) | (leave1; walk_say "STEP leave1"; try dsimp only) | fail "no step"))))
    case kt =>
      clear lF' lN' rgX
      rintro ⟨vs, c0⟩ pre i ti u1 h1 tk1 own hi hil hoff _ ⟨ms, hms, hmk, hrow⟩ F N
      dsimp only at hms F N hoff ⊢
      simp only [List.map_cons, List.map_nil, List.cons_append, List.nil_append] at hoff N
      obtain ⟨rn, hrn⟩ : ∃ rn, pre.length = rn := ⟨_, rfl⟩
      rw [hrn] at hi hil hrow
      subst hi
      try k_fold
      (repeat' ((((fail_if_success (with_reducible show wpAny _ _ (exec (Stmt.For _ _ _ _ _) _) _ _ _)); (fail_if_success (with_reducible show wpAny _ _ (pyIter (Value.ref _)) (fun it s₂ => LoopAtV _ _ _ _ _ _ _ _ _ it s₂) _ _)); (fail_if_success (with_reducible show InvEndN _ _ _ _ _ _ _)); (fail_if_success (with_reducible show LCg.CompSrc _ _ _ _ _ _ _ _ _ _ _ _ _ _)); (fail_if_success (with_reducible show wpAny _ _ (eval (Expr.ListComp _ _ _ _) _) _ _ _)); (fail_if_success (with_reducible show wpAny _ _ (setItem (Value.ref _) (Value.ref _) _) _ _ _)); (fail_if_success (with_reducible show LCg.CompEnd _ _ _ _ _ _ _ _ _ _ _ _ _ _)); (fail_if_success (with_reducible show wpAny _ _ (call (Value.ref _) _) _ _ _)); first | (k_unfold; (try dsimp only)) | (k_end; wrow_close) | walk1 | (dsimp only; walk1) | (leave1; walk_say "STEP leave1"; try dsimp only) | fail "no step"))))
      (((rename Fr _ _ _ _ => lF'); (with_unfolding_all refine' For_invVF lF' ?k1q25 ?k2q25 ?_; (case k1q25 => exact rfl); (case k2q25 => exact rfl))))
      (repeat' ((((fail_if_success (with_reducible show wpAny _ _ (exec (Stmt.For _ _ _ _ _) _) _ _ _)); (fail_if_success (with_reducible show wpAny _ _ (pyIter (Value.ref _)) (fun it s₂ => LoopAtV _ _ _ _ _ _ _ _ _ it s₂) _ _)); (fail_if_success (with_reducible show InvEndN _ _ _ _ _ _ _)); (fail_if_success (with_reducible show LCg.CompSrc _ _ _ _ _ _ _ _ _ _ _ _ _ _)); (fail_if_success (with_reducible show wpAny _ _ (eval (Expr.ListComp _ _ _ _) _) _ _ _)); (fail_if_success (with_reducible show wpAny _ _ (setItem (Value.ref _) (Value.ref _) _) _ _ _)); (fail_if_success (with_reducible show LCg.CompEnd _ _ _ _ _ _ _ _ _ _ _ _ _ _)); (fail_if_success (with_reducible show wpAny _ _ (call (Value.ref _) _) _ _ _)); first | (k_unfold; (try dsimp only)) | (k_end; wrow_close) | walk1 | (dsimp only; walk1) | (leave1; walk_say "STEP leave1"; try dsimp only) | fail "no step"))))
      (rename IsRange _ _ _ _ _ _ _ _ => rgX); (rename Fr _ _ _ _ => lF'); (rename News _ _ _ _ => lN')
      refine' kst_range (σ := Unit) (fun _ => (M, listOf vs.toArray c0) :: own) (fun _ => []) (fun _ => True) [Str.ofString "due"] (fun _ _ => True) () (by rfl) rgX (by decide) (rangeSize_nat _ _) lF' lN' trivial ?kk trivial ?jt ?jd
      case kk => kst_all
      case jt =>
        clear lF' lN' rgX
        rintro ⟨⟩ pre2 j tj u2 h2 tk2 own2 hj hjl hoff2 _ _ F N
        dsimp only at F N hoff2 ⊢
        simp only [List.map_cons, List.cons_append] at hoff2 N
        obtain ⟨jn, hjn⟩ : ∃ jn, pre2.length = jn := ⟨_, rfl⟩
        rw [hjn] at hj hjl
        subst hj
        try k_fold
        (repeat' ((((fail_if_success (with_reducible show wpAny _ _ (exec (Stmt.For _ _ _ _ _) _) _ _ _)); (fail_if_success (with_reducible show wpAny _ _ (pyIter (Value.ref _)) (fun it s₂ => LoopAtV _ _ _ _ _ _ _ _ _ it s₂) _ _)); (fail_if_success (with_reducible show InvEndN _ _ _ _ _ _ _)); (fail_if_success (with_reducible show LCg.CompSrc _ _ _ _ _ _ _ _ _ _ _ _ _ _)); (fail_if_success (with_reducible show wpAny _ _ (eval (Expr.ListComp _ _ _ _) _) _ _ _)); (fail_if_success (with_reducible show wpAny _ _ (setItem (Value.ref _) (Value.ref _) _) _ _ _)); (fail_if_success (with_reducible show LCg.CompEnd _ _ _ _ _ _ _ _ _ _ _ _ _ _)); (fail_if_success (with_reducible show wpAny _ _ (call (Value.ref _) _) _ _ _)); first | (k_unfold; (try dsimp only)) | (k_end; wrow_close) | walk1 | (dsimp only; walk1) | (leave1; walk_say "STEP leave1"; try dsimp only) | fail "no step"))))
        (((refine' bis_use ?hmq30 ?hiq30 ?hsq30 ?hlq30 ?k1q30 ?k2q30 ?k3q30 ?k4q30 ?k5q30 ?kKq30 ?kdq30 ?kuq30 ?kRq30); (case k1q30 => k_asm); (case k2q30 => k_asm); (case k3q30 => k_asm); (case k5q30 => k_asm); (case k4q30 => k_asm); (case kKq30 => first | exact rfl | assumption); (case kdq30 => ktr_room); (case kuq30 => ktr_units); (case hmq30 => exact List.Mem.head _); (case hiq30 => assumption); (case hsq30 => exact Marks.le (by assumption)); (case hlq30 => exact Marks.len (by assumption)); intro t9 h9 tk9 F9 N9; (try dsimp only); (try k_fold)))
        (repeat' ((((fail_if_success (with_reducible show wpAny _ _ (exec (Stmt.For _ _ _ _ _) _) _ _ _)); (fail_if_success (with_reducible show wpAny _ _ (pyIter (Value.ref _)) (fun it s₂ => LoopAtV _ _ _ _ _ _ _ _ _ it s₂) _ _)); (fail_if_success (with_reducible show InvEndN _ _ _ _ _ _ _)); (fail_if_success (with_reducible show LCg.CompSrc _ _ _ _ _ _ _ _ _ _ _ _ _ _)); (fail_if_success (with_reducible show wpAny _ _ (eval (Expr.ListComp _ _ _ _) _) _ _ _)); (fail_if_success (with_reducible show wpAny _ _ (setItem (Value.ref _) (Value.ref _) _) _ _ _)); (fail_if_success (with_reducible show LCg.CompEnd _ _ _ _ _ _ _ _ _ _ _ _ _ _)); (fail_if_success (with_reducible show wpAny _ _ (call (Value.ref _) _) _ _ _)); first | (k_unfold; (try dsimp only)) | (k_end; wrow_close) | walk1 | (dsimp only; walk1) | (leave1; walk_say "STEP leave1"; try dsimp only) | fail "no step"))))
        have hrow' := hrow (by omega)
        (((refine' Says.use (lev_claim _ _ _ _ _ _ _ _ _ _ _ ?haq33 ?hbq33 ?laq33 ?lbq33 ?hcq33) ?k1q33 ?k2q33 ?k3q33 ?k4q33 ?k5q33 ?kKq33 ?kdq33 ?kuq33 ?kRq33); (case k1q33 => k_asm); (case k2q33 => k_asm); (case k3q33 => k_asm); (case k5q33 => k_asm); (case k4q33 => k_asm); (case kKq33 => first | exact rfl | assumption); (case kdq33 => ktr_room); (case kuq33 => ktr_units); (case haq33 => exact (word_lets _).to (by omega) (by rw [wordOf_length]; omega)); (case hbq33 => exact (word_lets _).to (by omega) (by rw [wordOf_length]; omega)); (case laq33 => (rw [to_len (by omega) (by rw [wordOf_length]; omega)]; omega)); (case lbq33 => (rw [to_len (by omega) (by rw [wordOf_length]; omega)]; omega)); (case hcq33 => exact due_eq (by assumption) (by assumption) (by assumption) (by omega) (by omega)); intro t9 h9 tk9 F9 N9; (try dsimp only); (try k_fold)))
        (repeat' ((((fail_if_success (with_reducible show wpAny _ _ (exec (Stmt.For _ _ _ _ _) _) _ _ _)); (fail_if_success (with_reducible show wpAny _ _ (pyIter (Value.ref _)) (fun it s₂ => LoopAtV _ _ _ _ _ _ _ _ _ it s₂) _ _)); (fail_if_success (with_reducible show InvEndN _ _ _ _ _ _ _)); (fail_if_success (with_reducible show LCg.CompSrc _ _ _ _ _ _ _ _ _ _ _ _ _ _)); (fail_if_success (with_reducible show wpAny _ _ (eval (Expr.ListComp _ _ _ _) _) _ _ _)); (fail_if_success (with_reducible show wpAny _ _ (setItem (Value.ref _) (Value.ref _) _) _ _ _)); (fail_if_success (with_reducible show LCg.CompEnd _ _ _ _ _ _ _ _ _ _ _ _ _ _)); (fail_if_success (with_reducible show wpAny _ _ (call (Value.ref _) _) _ _ _)); first | (k_unfold; (try dsimp only)) | (k_end; wrow_close) | walk1 | (dsimp only; walk1) | (leave1; walk_say "STEP leave1"; try dsimp only) | fail "no step"))))
        (rename Fr _ _ _ _ => lF'); (rename News _ _ _ _ => lN')
        refine' kst_end () lF' lN' ?hn ?ho rfl trivial ?hk ?hr trivial
        case hk => kst_all
        case hn => exact List.forall_mem_cons.mpr ⟨.head _, fun p hp => .tail _ (List.mem_append.mpr (.inl hp))⟩
        case ho => exact fun p hp => .tail _ (List.mem_append.mpr (.inr hp))
        case hr => ((intro z h1 h2 h3; (simp only [List.forall_mem_cons, List.not_mem_nil, false_implies, implies_true, and_true, ne_eq] at h2); (simp only [List.contains_cons, List.contains_nil, Bool.or_false, Bool.or_eq_false_iff, beq_eq_false_iff_ne, ne_eq] at h3); (simp [kstB, h1, h2, h3]; done)))
      case jd =>
        clear lF' lN' rgX
        rintro ⟨⟩ u2 h2 tk2 _ _ F N
        dsimp only at F N ⊢
        try k_fold
        (repeat' ((((fail_if_success (with_reducible show wpAny _ _ (exec (Stmt.For _ _ _ _ _) _) _ _ _)); (fail_if_success (with_reducible show wpAny _ _ (pyIter (Value.ref _)) (fun it s₂ => LoopAtV _ _ _ _ _ _ _ _ _ it s₂) _ _)); (fail_if_success (with_reducible show InvEndN _ _ _ _ _ _ _)); (fail_if_success (with_reducible show LCg.CompSrc _ _ _ _ _ _ _ _ _ _ _ _ _ _)); (fail_if_success (with_reducible show wpAny _ _ (eval (Expr.ListComp _ _ _ _) _) _ _ _)); (fail_if_success (with_reducible show wpAny _ _ (setItem (Value.ref _) (Value.ref _) _) _ _ _)); (fail_if_success (with_reducible show LCg.CompEnd _ _ _ _ _ _ _ _ _ _ _ _ _ _)); (fail_if_success (with_reducible show wpAny _ _ (call (Value.ref _) _) _ _ _)); first | (k_unfold; (try dsimp only)) | (k_end; wrow_close) | walk1 | (dsimp only; walk1) | (leave1; walk_say "STEP leave1"; try dsimp only) | fail "no step"))))
        (((rename Fr _ _ _ _ => lF'); (with_unfolding_all refine' For_invVF lF' ?k1q39 ?k2q39 ?_; (case k1q39 => exact rfl); (case k2q39 => exact rfl))))
        (repeat' ((((fail_if_success (with_reducible show wpAny _ _ (exec (Stmt.For _ _ _ _ _) _) _ _ _)); (fail_if_success (with_reducible show wpAny _ _ (pyIter (Value.ref _)) (fun it s₂ => LoopAtV _ _ _ _ _ _ _ _ _ it s₂) _ _)); (fail_if_success (with_reducible show InvEndN _ _ _ _ _ _ _)); (fail_if_success (with_reducible show LCg.CompSrc _ _ _ _ _ _ _ _ _ _ _ _ _ _)); (fail_if_success (with_reducible show wpAny _ _ (eval (Expr.ListComp _ _ _ _) _) _ _ _)); (fail_if_success (with_reducible show wpAny _ _ (setItem (Value.ref _) (Value.ref _) _) _ _ _)); (fail_if_success (with_reducible show LCg.CompEnd _ _ _ _ _ _ _ _ _ _ _ _ _ _)); (fail_if_success (with_reducible show wpAny _ _ (call (Value.ref _) _) _ _ _)); first | (k_unfold; (try dsimp only)) | (k_end; wrow_close) | walk1 | (dsimp only; walk1) | (leave1; walk_say "STEP leave1"; try dsimp only) | fail "no step"))))
        (rename IsRange _ _ _ _ _ _ _ _ => rgX); (rename Fr _ _ _ _ => lF'); (rename News _ _ _ _ => lN')
        refine' kst_rangeD (σ := List Value × Nat) (fun c => (M, listOf c.1.toArray c.2) :: own) (fun _ => []) (fun _ => True) [Str.ofString "found"]
          (fun pre c => ∃ ms, IntsAre c.1 ms ∧ Marks ms ∧ (rn < 4 → RowIs ms (up (rowN (eqS (wordOf nsA) (wordOf nsB)) rn) barC pre.length))) (vs, c0) (by rfl) rgX (by decide) (rangeSize_downNat _ _) lF' lN' trivial ?kk ⟨ms, hms, hmk, fun _ => hrow (by omega)⟩ ?pt ?pd
        case kk => kst_all
        case pt =>
          clear lF' lN' rgX
          rintro ⟨vs1, c1⟩ pre2 q tq u2 h2 tk2 own2 hq hql hoff2 _ ⟨ms1, hms1, hmk1, hrow1⟩ F N
          dsimp only at hms1 F N hoff2 ⊢
          simp only [List.map_cons, List.cons_append] at hoff2 N
          obtain ⟨qn, hqn⟩ : ∃ qn, pre2.length = qn := ⟨_, rfl⟩
          rw [hqn] at hq hql hrow1
          have hbl := barOf_length h4B
          have hwl := wordOf_length nsA
          have hne : ∀ p ∈ own ++ own2, p.1 ≠ M := by
            intro p hp
            rcases List.mem_append.mp hp with hp | hp
            · exact hoff p hp M (.head _)
            · exact hoff2 p hp M (.head _)
          have hlen : (pre2 ++ [q]).length = qn + 1 := by rw [List.length_append, hqn]; rfl
          try k_fold
          (repeat' ((((fail_if_success (with_reducible show wpAny _ _ (exec (Stmt.For _ _ _ _ _) _) _ _ _)); (fail_if_success (with_reducible show wpAny _ _ (pyIter (Value.ref _)) (fun it s₂ => LoopAtV _ _ _ _ _ _ _ _ _ it s₂) _ _)); (fail_if_success (with_reducible show InvEndN _ _ _ _ _ _ _)); (fail_if_success (with_reducible show LCg.CompSrc _ _ _ _ _ _ _ _ _ _ _ _ _ _)); (fail_if_success (with_reducible show wpAny _ _ (eval (Expr.ListComp _ _ _ _) _) _ _ _)); (fail_if_success (with_reducible show wpAny _ _ (setItem (Value.ref _) (Value.ref _) _) _ _ _)); (fail_if_success (with_reducible show LCg.CompEnd _ _ _ _ _ _ _ _ _ _ _ _ _ _)); (fail_if_success (with_reducible show wpAny _ _ (call (Value.ref _) _) _ _ _)); first | (k_unfold; (try dsimp only)) | (k_end; wrow_close) | walk1 | (dsimp only; walk1) | (leave1; walk_say "STEP leave1"; try dsimp only) | fail "no step"))))
          · (((refine' bis_use ?hmq44 ?hiq44 ?hsq44 ?hlq44 ?k1q44 ?k2q44 ?k3q44 ?k4q44 ?k5q44 ?kKq44 ?kdq44 ?kuq44 ?kRq44); (case k1q44 => k_asm); (case k2q44 => k_asm); (case k3q44 => k_asm); (case k5q44 => k_asm); (case k4q44 => k_asm); (case kKq44 => first | exact rfl | assumption); (case kdq44 => ktr_room); (case kuq44 => ktr_units); (case hmq44 => exact List.Mem.head _); (case hiq44 => assumption); (case hsq44 => exact Marks.le (by assumption)); (case hlq44 => exact Marks.len (by assumption)); intro t9 h9 tk9 F9 N9; (try dsimp only); (try k_fold)))
            (repeat' ((((fail_if_success (with_reducible show wpAny _ _ (exec (Stmt.For _ _ _ _ _) _) _ _ _)); (fail_if_success (with_reducible show wpAny _ _ (pyIter (Value.ref _)) (fun it s₂ => LoopAtV _ _ _ _ _ _ _ _ _ it s₂) _ _)); (fail_if_success (with_reducible show InvEndN _ _ _ _ _ _ _)); (fail_if_success (with_reducible show LCg.CompSrc _ _ _ _ _ _ _ _ _ _ _ _ _ _)); (fail_if_success (with_reducible show wpAny _ _ (eval (Expr.ListComp _ _ _ _) _) _ _ _)); (fail_if_success (with_reducible show wpAny _ _ (setItem (Value.ref _) (Value.ref _) _) _ _ _)); (fail_if_success (with_reducible show LCg.CompEnd _ _ _ _ _ _ _ _ _ _ _ _ _ _)); (fail_if_success (with_reducible show wpAny _ _ (call (Value.ref _) _) _ _ _)); first | (k_unfold; (try dsimp only)) | (k_end; wrow_close) | walk1 | (dsimp only; walk1) | (leave1; walk_say "STEP leave1"; try dsimp only) | fail "no step"))))
            (rename Fr _ _ _ _ => lF'); (rename News _ _ _ _ => lN')
            refine' my_put (s := ⟨_, _, _, _, _⟩) lF' lN' (And.left (by assumption : M < _ ∧ AllLt _ _)) hne hms1 hmk1 ?_
            clear lF' lN'
            intro ws9 n9 h9 F9 N9 hI9
            try dsimp only
            try k_fold
            (repeat' ((((fail_if_success (with_reducible show wpAny _ _ (exec (Stmt.For _ _ _ _ _) _) _ _ _)); (fail_if_success (with_reducible show wpAny _ _ (pyIter (Value.ref _)) (fun it s₂ => LoopAtV _ _ _ _ _ _ _ _ _ it s₂) _ _)); (fail_if_success (with_reducible show InvEndN _ _ _ _ _ _ _)); (fail_if_success (with_reducible show LCg.CompSrc _ _ _ _ _ _ _ _ _ _ _ _ _ _)); (fail_if_success (with_reducible show wpAny _ _ (eval (Expr.ListComp _ _ _ _) _) _ _ _)); (fail_if_success (with_reducible show wpAny _ _ (setItem (Value.ref _) (Value.ref _) _) _ _ _)); (fail_if_success (with_reducible show LCg.CompEnd _ _ _ _ _ _ _ _ _ _ _ _ _ _)); (fail_if_success (with_reducible show wpAny _ _ (call (Value.ref _) _) _ _ _)); first | (k_unfold; (try dsimp only)) | (k_end; wrow_close) | walk1 | (dsimp only; walk1) | (leave1; walk_say "STEP leave1"; try dsimp only) | fail "no step"))))
            (rename Fr _ _ _ _ => lF'); (rename News _ _ _ _ => lN')
            refine' kst_end (ws9, n9) lF' lN' ?hn ?ho rfl trivial ?hk ?hr ⟨_, hI9, hmk1.put (by omega) (by omega), fun hr => by rw [hlen]; exact bar_yes h4B hq hql hmk1 (hrow1 hr) (by assumption)⟩
            case hk => kst_all
            case hn => exact List.forall_mem_cons.mpr ⟨.head _, fun p hp => .tail _ (List.mem_append.mpr (.inl hp))⟩
            case ho => exact fun p hp => .tail _ (List.mem_append.mpr (.inr hp))
            case hr => ((intro z h1 h2 h3; (simp only [List.forall_mem_cons, List.not_mem_nil, false_implies, implies_true, and_true, ne_eq] at h2); (simp only [List.contains_cons, List.contains_nil, Bool.or_false, Bool.or_eq_false_iff, beq_eq_false_iff_ne, ne_eq] at h3); (simp [kstB, h1, h2, h3]; done)))
          · (rename Fr _ _ _ _ => lF'); (rename News _ _ _ _ => lN')
            refine' kst_end (vs1, c1) lF' lN' ?hn ?ho rfl trivial ?hk ?hr ⟨ms1, hms1, hmk1, fun hr => by rw [hlen]; exact bar_no h4B hq hql hmk1 (hrow1 hr) (by assumption)⟩
            case hk => kst_all
            case hn => exact List.forall_mem_cons.mpr ⟨.head _, fun p hp => .tail _ (List.mem_append.mpr (.inl hp))⟩
            case ho => exact fun p hp => .tail _ (List.mem_append.mpr (.inr hp))
            case hr => ((intro z h1 h2 h3; (simp only [List.forall_mem_cons, List.not_mem_nil, false_implies, implies_true, and_true, ne_eq] at h2); (simp only [List.contains_cons, List.contains_nil, Bool.or_false, Bool.or_eq_false_iff, beq_eq_false_iff_ne, ne_eq] at h3); (simp [kstB, h1, h2, h3]; done)))
          · (rename Fr _ _ _ _ => lF'); (rename News _ _ _ _ => lN')
            refine' kst_end (vs1, c1) lF' lN' ?hn ?ho rfl trivial ?hk ?hr ⟨ms1, hms1, hmk1, fun hr => absurd hr (by omega)⟩
            case hk => kst_all
            case hn => exact List.forall_mem_cons.mpr ⟨.head _, fun p hp => .tail _ (List.mem_append.mpr (.inl hp))⟩
            case ho => exact fun p hp => .tail _ (List.mem_append.mpr (.inr hp))
            case hr => ((intro z h1 h2 h3; (simp only [List.forall_mem_cons, List.not_mem_nil, false_implies, implies_true, and_true, ne_eq] at h2); (simp only [List.contains_cons, List.contains_nil, Bool.or_false, Bool.or_eq_false_iff, beq_eq_false_iff_ne, ne_eq] at h3); (simp [kstB, h1, h2, h3]; done)))
        case pd =>
          clear lF' lN' rgX
          rintro ⟨vs1, c1⟩ u2 h2 tk2 _ ⟨ms1, hms1, hmk1, hrow1⟩ F N
          have hn8 : (downKs 7 ((7 : Int) - (-1 : Int)).toNat).length = 8 := by rw [downKs_length]; rfl
          dsimp only at hms1 F N ⊢
          rw [hn8] at hrow1
          try k_fold
          (repeat' ((((fail_if_success (with_reducible show wpAny _ _ (exec (Stmt.For _ _ _ _ _) _) _ _ _)); (fail_if_success (with_reducible show wpAny _ _ (pyIter (Value.ref _)) (fun it s₂ => LoopAtV _ _ _ _ _ _ _ _ _ it s₂) _ _)); (fail_if_success (with_reducible show InvEndN _ _ _ _ _ _ _)); (fail_if_success (with_reducible show LCg.CompSrc _ _ _ _ _ _ _ _ _ _ _ _ _ _)); (fail_if_success (with_reducible show wpAny _ _ (eval (Expr.ListComp _ _ _ _) _) _ _ _)); (fail_if_success (with_reducible show wpAny _ _ (setItem (Value.ref _) (Value.ref _) _) _ _ _)); (fail_if_success (with_reducible show LCg.CompEnd _ _ _ _ _ _ _ _ _ _ _ _ _ _)); (fail_if_success (with_reducible show wpAny _ _ (call (Value.ref _) _) _ _ _)); first | (k_unfold; (try dsimp only)) | (k_end; wrow_close) | walk1 | (dsimp only; walk1) | (leave1; walk_say "STEP leave1"; try dsimp only) | fail "no step"))))
          (((rename Fr _ _ _ _ => lF'); (with_unfolding_all refine' For_invVF lF' ?k1q54 ?k2q54 ?_; (case k1q54 => exact rfl); (case k2q54 => exact rfl))))
          (repeat' ((((fail_if_success (with_reducible show wpAny _ _ (exec (Stmt.For _ _ _ _ _) _) _ _ _)); (fail_if_success (with_reducible show wpAny _ _ (pyIter (Value.ref _)) (fun it s₂ => LoopAtV _ _ _ _ _ _ _ _ _ it s₂) _ _)); (fail_if_success (with_reducible show InvEndN _ _ _ _ _ _ _)); (fail_if_success (with_reducible show LCg.CompSrc _ _ _ _ _ _ _ _ _ _ _ _ _ _)); (fail_if_success (with_reducible show wpAny _ _ (eval (Expr.ListComp _ _ _ _) _) _ _ _)); (fail_if_success (with_reducible show wpAny _ _ (setItem (Value.ref _) (Value.ref _) _) _ _ _)); (fail_if_success (with_reducible show LCg.CompEnd _ _ _ _ _ _ _ _ _ _ _ _ _ _)); (fail_if_success (with_reducible show wpAny _ _ (call (Value.ref _) _) _ _ _)); first | (k_unfold; (try dsimp only)) | (k_end; wrow_close) | walk1 | (dsimp only; walk1) | (leave1; walk_say "STEP leave1"; try dsimp only) | fail "no step"))))
          (rename IsRange _ _ _ _ _ _ _ _ => rgX); (rename Fr _ _ _ _ => lF'); (rename News _ _ _ _ => lN')
          refine' kst_rangeD (σ := List Value × Nat) (fun c => (M, listOf c.1.toArray c.2) :: own) (fun _ => []) (fun _ => True) [Str.ofString "found"]
            (fun pre c => ∃ ms, IntsAre c.1 ms ∧ Marks ms ∧ (rn < 4 → RowIs ms (up (up (rowN (eqS (wordOf nsA) (wordOf nsB)) rn) barC 8) (matC ((eqS (wordOf nsA) (wordOf nsB)) rn)) pre.length))) (vs1, c1) (by rfl) rgX (by decide) (rangeSize_downNat _ _) lF' lN' trivial ?kk ⟨ms1, hms1, hmk1, hrow1⟩ ?pt ?pd
          case kk => kst_all
          case pt =>
            clear lF' lN' rgX
            rintro ⟨vs2, c2⟩ pre2 q tq u2 h2 tk2 own2 hq hql hoff2 _ ⟨ms2, hms2, hmk2, hrow2⟩ F N
            dsimp only at hms2 F N hoff2 ⊢
            simp only [List.map_cons, List.cons_append] at hoff2 N
            obtain ⟨qn, hqn⟩ : ∃ qn, pre2.length = qn := ⟨_, rfl⟩
            rw [hqn] at hq hql hrow2
            have hbl := barOf_length h4B
            have hwl := wordOf_length nsA
            have hne : ∀ p ∈ own ++ own2, p.1 ≠ M := by
              intro p hp
              rcases List.mem_append.mp hp with hp | hp
              · exact hoff p hp M (.head _)
              · exact hoff2 p hp M (.head _)
            have hlen : (pre2 ++ [q]).length = qn + 1 := by rw [List.length_append, hqn]; rfl
            try k_fold
            (repeat' ((((fail_if_success (with_reducible show wpAny _ _ (exec (Stmt.For _ _ _ _ _) _) _ _ _)); (fail_if_success (with_reducible show wpAny _ _ (pyIter (Value.ref _)) (fun it s₂ => LoopAtV _ _ _ _ _ _ _ _ _ it s₂) _ _)); (fail_if_success (with_reducible show InvEndN _ _ _ _ _ _ _)); (fail_if_success (with_reducible show LCg.CompSrc _ _ _ _ _ _ _ _ _ _ _ _ _ _)); (fail_if_success (with_reducible show wpAny _ _ (eval (Expr.ListComp _ _ _ _) _) _ _ _)); (fail_if_success (with_reducible show wpAny _ _ (setItem (Value.ref _) (Value.ref _) _) _ _ _)); (fail_if_success (with_reducible show LCg.CompEnd _ _ _ _ _ _ _ _ _ _ _ _ _ _)); (fail_if_success (with_reducible show wpAny _ _ (call (Value.ref _) _) _ _ _)); first | (k_unfold; (try dsimp only)) | (k_end; wrow_close) | walk1 | (dsimp only; walk1) | (leave1; walk_say "STEP leave1"; try dsimp only) | fail "no step"))))
            · (((refine' bis_use ?hmq59 ?hiq59 ?hsq59 ?hlq59 ?k1q59 ?k2q59 ?k3q59 ?k4q59 ?k5q59 ?kKq59 ?kdq59 ?kuq59 ?kRq59); (case k1q59 => k_asm); (case k2q59 => k_asm); (case k3q59 => k_asm); (case k5q59 => k_asm); (case k4q59 => k_asm); (case kKq59 => first | exact rfl | assumption); (case kdq59 => ktr_room); (case kuq59 => ktr_units); (case hmq59 => exact List.Mem.head _); (case hiq59 => assumption); (case hsq59 => exact Marks.le (by assumption)); (case hlq59 => exact Marks.len (by assumption)); intro t9 h9 tk9 F9 N9; (try dsimp only); (try k_fold)))
              (repeat' ((((fail_if_success (with_reducible show wpAny _ _ (exec (Stmt.For _ _ _ _ _) _) _ _ _)); (fail_if_success (with_reducible show wpAny _ _ (pyIter (Value.ref _)) (fun it s₂ => LoopAtV _ _ _ _ _ _ _ _ _ it s₂) _ _)); (fail_if_success (with_reducible show InvEndN _ _ _ _ _ _ _)); (fail_if_success (with_reducible show LCg.CompSrc _ _ _ _ _ _ _ _ _ _ _ _ _ _)); (fail_if_success (with_reducible show wpAny _ _ (eval (Expr.ListComp _ _ _ _) _) _ _ _)); (fail_if_success (with_reducible show wpAny _ _ (setItem (Value.ref _) (Value.ref _) _) _ _ _)); (fail_if_success (with_reducible show LCg.CompEnd _ _ _ _ _ _ _ _ _ _ _ _ _ _)); (fail_if_success (with_reducible show wpAny _ _ (call (Value.ref _) _) _ _ _)); first | (k_unfold; (try dsimp only)) | (k_end; wrow_close) | walk1 | (dsimp only; walk1) | (leave1; walk_say "STEP leave1"; try dsimp only) | fail "no step"))))
              (rename Fr _ _ _ _ => lF'); (rename News _ _ _ _ => lN')
              refine' my_put (s := ⟨_, _, _, _, _⟩) lF' lN' (And.left (by assumption : M < _ ∧ AllLt _ _)) hne hms2 hmk2 ?_
              clear lF' lN'
              intro ws9 n9 h9 F9 N9 hI9
              try dsimp only
              try k_fold
              (repeat' ((((fail_if_success (with_reducible show wpAny _ _ (exec (Stmt.For _ _ _ _ _) _) _ _ _)); (fail_if_success (with_reducible show wpAny _ _ (pyIter (Value.ref _)) (fun it s₂ => LoopAtV _ _ _ _ _ _ _ _ _ it s₂) _ _)); (fail_if_success (with_reducible show InvEndN _ _ _ _ _ _ _)); (fail_if_success (with_reducible show LCg.CompSrc _ _ _ _ _ _ _ _ _ _ _ _ _ _)); (fail_if_success (with_reducible show wpAny _ _ (eval (Expr.ListComp _ _ _ _) _) _ _ _)); (fail_if_success (with_reducible show wpAny _ _ (setItem (Value.ref _) (Value.ref _) _) _ _ _)); (fail_if_success (with_reducible show LCg.CompEnd _ _ _ _ _ _ _ _ _ _ _ _ _ _)); (fail_if_success (with_reducible show wpAny _ _ (call (Value.ref _) _) _ _ _)); first | (k_unfold; (try dsimp only)) | (k_end; wrow_close) | walk1 | (dsimp only; walk1) | (leave1; walk_say "STEP leave1"; try dsimp only) | fail "no step"))))
              (rename Fr _ _ _ _ => lF'); (rename News _ _ _ _ => lN')
              refine' kst_end (ws9, n9) lF' lN' ?hn ?ho rfl trivial ?hk ?hr ⟨_, hI9, hmk2.put (by omega) (by omega), fun hr => by rw [hlen]; exact mat_yes h4A h4B hq hql rfl hr hmk2 (hrow2 hr) (by assumption)⟩
              case hk => kst_all
              case hn => exact List.forall_mem_cons.mpr ⟨.head _, fun p hp => .tail _ (List.mem_append.mpr (.inl hp))⟩
              case ho => exact fun p hp => .tail _ (List.mem_append.mpr (.inr hp))
              case hr => ((intro z h1 h2 h3; (simp only [List.forall_mem_cons, List.not_mem_nil, false_implies, implies_true, and_true, ne_eq] at h2); (simp only [List.contains_cons, List.contains_nil, Bool.or_false, Bool.or_eq_false_iff, beq_eq_false_iff_ne, ne_eq] at h3); (simp [kstB, h1, h2, h3]; done)))
            · (rename Fr _ _ _ _ => lF'); (rename News _ _ _ _ => lN')
              refine' kst_end (vs2, c2) lF' lN' ?hn ?ho rfl trivial ?hk ?hr ⟨ms2, hms2, hmk2, fun hr => by rw [hlen]; exact mat_no h4A h4B hq hql rfl hr hmk2 (hrow2 hr) (by assumption)⟩
              case hk => kst_all
              case hn => exact List.forall_mem_cons.mpr ⟨.head _, fun p hp => .tail _ (List.mem_append.mpr (.inl hp))⟩
              case ho => exact fun p hp => .tail _ (List.mem_append.mpr (.inr hp))
              case hr => ((intro z h1 h2 h3; (simp only [List.forall_mem_cons, List.not_mem_nil, false_implies, implies_true, and_true, ne_eq] at h2); (simp only [List.contains_cons, List.contains_nil, Bool.or_false, Bool.or_eq_false_iff, beq_eq_false_iff_ne, ne_eq] at h3); (simp [kstB, h1, h2, h3]; done)))
            · (rename Fr _ _ _ _ => lF'); (rename News _ _ _ _ => lN')
              refine' kst_end (vs2, c2) lF' lN' ?hn ?ho rfl trivial ?hk ?hr ⟨ms2, hms2, hmk2, fun hr => absurd hr (by omega)⟩
              case hk => kst_all
              case hn => exact List.forall_mem_cons.mpr ⟨.head _, fun p hp => .tail _ (List.mem_append.mpr (.inl hp))⟩
              case ho => exact fun p hp => .tail _ (List.mem_append.mpr (.inr hp))
              case hr => ((intro z h1 h2 h3; (simp only [List.forall_mem_cons, List.not_mem_nil, false_implies, implies_true, and_true, ne_eq] at h2); (simp only [List.contains_cons, List.contains_nil, Bool.or_false, Bool.or_eq_false_iff, beq_eq_false_iff_ne, ne_eq] at h3); (simp [kstB, h1, h2, h3]; done)))
          case pd =>
            clear lF' lN' rgX
            rintro ⟨vs2, c2⟩ u2 h2 tk2 _ ⟨ms2, hms2, hmk2, hrow2⟩ F N
            have hn8 : (downKs 7 ((7 : Int) - (-1 : Int)).toNat).length = 8 := by rw [downKs_length]; rfl
            dsimp only at hms2 F N ⊢
            rw [hn8] at hrow2
            try k_fold
            (repeat' ((((fail_if_success (with_reducible show wpAny _ _ (exec (Stmt.For _ _ _ _ _) _) _ _ _)); (fail_if_success (with_reducible show wpAny _ _ (pyIter (Value.ref _)) (fun it s₂ => LoopAtV _ _ _ _ _ _ _ _ _ it s₂) _ _)); (fail_if_success (with_reducible show InvEndN _ _ _ _ _ _ _)); (fail_if_success (with_reducible show LCg.CompSrc _ _ _ _ _ _ _ _ _ _ _ _ _ _)); (fail_if_success (with_reducible show wpAny _ _ (eval (Expr.ListComp _ _ _ _) _) _ _ _)); (fail_if_success (with_reducible show wpAny _ _ (setItem (Value.ref _) (Value.ref _) _) _ _ _)); (fail_if_success (with_reducible show LCg.CompEnd _ _ _ _ _ _ _ _ _ _ _ _ _ _)); (fail_if_success (with_reducible show wpAny _ _ (call (Value.ref _) _) _ _ _)); first | (k_unfold; (try dsimp only)) | (k_end; wrow_close) | walk1 | (dsimp only; walk1) | (leave1; walk_say "STEP leave1"; try dsimp only) | fail "no step"))))
            have hlen : (pre ++ [0 + (rn : Int)]).length = rn + 1 := by rw [List.length_append, hrn]; rfl
            (rename Fr _ _ _ _ => lF'); (rename News _ _ _ _ => lN')
            refine' kst_end (vs2, c2) lF' lN' ?hn ?ho rfl trivial ?hk ?hr ⟨ms2, hms2, hmk2, fun hr => by rw [hlen] at hr ⊢; exact hrow2 (by omega)⟩
            case hk => kst_all
            case hn => exact List.forall_mem_cons.mpr ⟨.head _, List.forall_mem_nil _⟩
            case ho => exact fun p hp => .tail _ hp
            case hr => ((intro z h1 h2 h3; (simp only [List.forall_mem_cons, List.not_mem_nil, false_implies, implies_true, and_true, ne_eq] at h2); (simp only [List.contains_cons, List.contains_nil, Bool.or_false, Bool.or_eq_false_iff, beq_eq_false_iff_ne, ne_eq] at h3); (simp [kstB, h1, h2, h3]; done))))
end Mine
end
theorem PySem.Challenge.cw_pg0152_01_holds : PySem.Challenge.rw_pg0152_01.Holds := by
  exact Mine.law_holds
