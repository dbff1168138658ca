import PyProof.Rows.All
import Wide.All
import OpenK.AllK
import Wide.FinOn
import PySem.Challenge.RW_ky0009_01

section -- KyHd
open PySem PySem.W PyProof.Rows
set_option Elab.async false
namespace Ky
set_option maxRecDepth 100000
set_option maxHeartbeats 8000000
open_top hd for PySem.Challenge.rw_ky0009_01
end Ky
end

section -- KyMath
namespace Ky
def D (sw : Bool) (a b : Nat → Nat) (i j : Nat) : Nat :=
  match i, j with
  | 0, j => j
  | i + 1, 0 => i + 1
  | i + 1, j + 1 =>
    if sw = true ∧ 0 < i ∧ 0 < j ∧ a i = b (j - 1) ∧ a (i - 1) = b j ∧ a i ≠ b j then
      min (min (min (D sw a b i (j + 1) + 1) (D sw a b (i + 1) j + 1)) (D sw a b i j + (if a i ≠ b j then 1 else 0))) (D sw a b (i - 1) (j - 1) + 1)
    else min (min (D sw a b i (j + 1) + 1) (D sw a b (i + 1) j + 1)) (D sw a b i j + (if a i ≠ b j then 1 else 0))
termination_by i + j

def B (sw : Bool) (a b : Nat → Nat) (i j : Nat) : Nat := min (min (D sw a b i (j + 1) + 1) (D sw a b (i + 1) j + 1)) (D sw a b i j + (if a i ≠ b j then 1 else 0))
def SwC (sw : Bool) (a b : Nat → Nat) (i j : Nat) : Prop := sw = true ∧ 0 < i ∧ 0 < j ∧ a i = b (j - 1) ∧ a (i - 1) = b j ∧ a i ≠ b j

section
variable {sw : Bool} {a b : Nat → Nat}
theorem D_zero (j : Nat) : D sw a b 0 j = j := by rw [D]
theorem D_col (i : Nat) : D sw a b i 0 = i := by cases i <;> rw [D]
theorem D_succ (i j : Nat) : D sw a b (i + 1) (j + 1) =
    if sw = true ∧ 0 < i ∧ 0 < j ∧ a i = b (j - 1) ∧ a (i - 1) = b j ∧ a i ≠ b j then min (B sw a b i j) (D sw a b (i - 1) (j - 1) + 1) else B sw a b i j := by
  rw [D]; rfl
theorem D_sw {i j : Nat} (h : SwC sw a b i j) : D sw a b (i + 1) (j + 1) = min (B sw a b i j) (D sw a b (i - 1) (j - 1) + 1) := by rw [D_succ]; exact if_pos h
theorem D_nsw {i j : Nat} (h : ¬ SwC sw a b i j) : D sw a b (i + 1) (j + 1) = B sw a b i j := by rw [D_succ]; exact if_neg h
theorem D_le_B (i j : Nat) : D sw a b (i + 1) (j + 1) ≤ B sw a b i j := by
  rw [D_succ]; split
  · exact Nat.min_le_left ..
  · exact Nat.le_refl _
theorem B_le1 (i j : Nat) : B sw a b i j ≤ D sw a b i (j + 1) + 1 := by unfold B; omega
theorem B_le2 (i j : Nat) : B sw a b i j ≤ D sw a b (i + 1) j + 1 := by unfold B; omega
theorem B_le3 (i j : Nat) : B sw a b i j ≤ D sw a b i j + (if a i ≠ b j then 1 else 0) := by unfold B; omega

theorem D_down (i j : Nat) : D sw a b (i + 1) j ≤ D sw a b i j + 1 := by
  cases j with
  | zero => rw [D_col, D_col]; exact Nat.le_refl _
  | succ j => exact Nat.le_trans (D_le_B i j) (B_le1 i j)
theorem D_right (i j : Nat) : D sw a b i (j + 1) ≤ D sw a b i j + 1 := by
  cases i with
  | zero => rw [D_zero, D_zero]; exact Nat.le_refl _
  | succ i => exact Nat.le_trans (D_le_B i j) (B_le2 i j)
theorem D_diag (i j : Nat) : D sw a b (i + 1) (j + 1) ≤ D sw a b i j + 1 := by
  have h1 := D_le_B (sw := sw) (a := a) (b := b) i j
  have h2 := B_le3 (sw := sw) (a := a) (b := b) i j
  split at h2 <;> omega
theorem D_same {i j : Nat} (h : a i = b j) : D sw a b (i + 1) (j + 1) ≤ D sw a b i j := by
  have h1 := D_le_B (sw := sw) (a := a) (b := b) i j
  have h2 := B_le3 (sw := sw) (a := a) (b := b) i j
  rw [if_neg (by simp [h])] at h2
  omega
theorem D_swap {i j : Nat} (hs : sw = true) (h1 : a i = b (j + 1)) (h2 : a (i + 1) = b j) : D sw a b (i + 2) (j + 2) ≤ D sw a b i j + 1 := by
  by_cases h : a (i + 1) = b (j + 1)
  · have e1 := D_same (sw := sw) (a := a) (b := b) h
    have e2 := D_diag (sw := sw) (a := a) (b := b) i j
    exact Nat.le_trans e1 e2
  · have c : SwC sw a b (i + 1) (j + 1) := ⟨hs, by omega, by omega, by simpa using h2, by simpa using h1, h⟩
    rw [D_sw c]
    simp only [Nat.add_sub_cancel]
    exact Nat.min_le_right ..

theorem D_le_add : ∀ (i j : Nat), D sw a b i j ≤ i + j
  | 0, j => by rw [D_zero]; omega
  | i + 1, j => by
    have := D_down (sw := sw) (a := a) (b := b) i j
    have := D_le_add i j
    omega

/-- where an entry comes from -/
theorem D_from (i j : Nat) (h : ¬ (i = 0 ∧ j = 0)) :
    (∃ i', i = i' + 1 ∧ D sw a b i j = D sw a b i' j + 1) ∨ (∃ j', j = j' + 1 ∧ D sw a b i j = D sw a b i j' + 1) ∨
    (∃ i' j', i = i' + 1 ∧ j = j' + 1 ∧ D sw a b i j = D sw a b i' j' + 1) ∨
    (∃ i' j', i = i' + 1 ∧ j = j' + 1 ∧ a i' = b j' ∧ D sw a b i j = D sw a b i' j') ∨
    (∃ i' j', i = i' + 2 ∧ j = j' + 2 ∧ sw = true ∧ a i' = b (j' + 1) ∧ a (i' + 1) = b j' ∧ D sw a b i j = D sw a b i' j' + 1) := by
  cases i with
  | zero =>
    cases j with
    | zero => exact absurd ⟨rfl, rfl⟩ h
    | succ j => exact .inr (.inl ⟨j, rfl, by rw [D_zero, D_zero]⟩)
  | succ i =>
    cases j with
    | zero => exact .inl ⟨i, rfl, by rw [D_col, D_col]⟩
    | succ j =>
      have hB : B sw a b i j = D sw a b i (j + 1) + 1 ∨ B sw a b i j = D sw a b (i + 1) j + 1 ∨ B sw a b i j = D sw a b i j + (if a i ≠ b j then 1 else 0) := by
        unfold B; omega
      have base : D sw a b (i + 1) (j + 1) = B sw a b i j → (∃ i', i + 1 = i' + 1 ∧ D sw a b (i + 1) (j + 1) = D sw a b i' (j + 1) + 1) ∨ (∃ j', j + 1 = j' + 1 ∧ D sw a b (i + 1) (j + 1) = D sw a b (i + 1) j' + 1) ∨
          (∃ i' j', i + 1 = i' + 1 ∧ j + 1 = j' + 1 ∧ D sw a b (i + 1) (j + 1) = D sw a b i' j' + 1) ∨
          (∃ i' j', i + 1 = i' + 1 ∧ j + 1 = j' + 1 ∧ a i' = b j' ∧ D sw a b (i + 1) (j + 1) = D sw a b i' j') ∨
          (∃ i' j', i + 1 = i' + 2 ∧ j + 1 = j' + 2 ∧ sw = true ∧ a i' = b (j' + 1) ∧ a (i' + 1) = b j' ∧ D sw a b (i + 1) (j + 1) = D sw a b i' j' + 1) := fun e => by
        rcases hB with hB | hB | hB
        · exact .inl ⟨i, rfl, e.trans hB⟩
        · exact .inr (.inl ⟨j, rfl, e.trans hB⟩)
        · by_cases hq : a i = b j
          · rw [if_neg (by simp [hq])] at hB
            exact .inr (.inr (.inr (.inl ⟨i, j, rfl, rfl, hq, e.trans hB⟩)))
          · rw [if_pos hq] at hB
            exact .inr (.inr (.inl ⟨i, j, rfl, rfl, e.trans hB⟩))
      by_cases hc : SwC sw a b i j
      · have e := D_sw hc
        have hm : D sw a b (i + 1) (j + 1) = B sw a b i j ∨ D sw a b (i + 1) (j + 1) = D sw a b (i - 1) (j - 1) + 1 := by omega
        rcases hm with hm | hm
        · exact base hm
        · obtain ⟨hs, hi, hj, e1, e2, _⟩ := hc
          obtain ⟨i', rfl⟩ : ∃ i', i = i' + 1 := ⟨i - 1, by omega⟩
          obtain ⟨j', rfl⟩ : ∃ j', j = j' + 1 := ⟨j - 1, by omega⟩
          simp only [Nat.add_sub_cancel] at e1 e2 hm
          exact .inr (.inr (.inr (.inr ⟨i', j', rfl, rfl, hs, e2, e1, hm⟩)))
      · exact base (D_nsw hc)

theorem B_symm (n : Nat) (ih : ∀ i j, i + j < n → D sw a b i j = D sw b a j i) (i j : Nat) (h : i + j + 1 < n) : B sw a b i j = B sw b a j i := by
  unfold B
  rw [ih i (j + 1) (by omega), ih (i + 1) j (by omega), ih i j (by omega)]
  have e : (if a i ≠ b j then 1 else 0) = (if b j ≠ a i then (1 : Nat) else 0) := by
    by_cases hq : a i = b j
    · rw [if_neg (by simp [hq]), if_neg (by simp [hq])]
    · rw [if_pos hq, if_pos (Ne.symm hq)]
  rw [e]; omega

theorem D_symm_aux (n : Nat) : ∀ i j, i + j < n → D sw a b i j = D sw b a j i := by
  induction n with
  | zero => intro i j h; omega
  | succ n ih =>
    intro i j h
    cases i with
    | zero => rw [D_zero, D_col]
    | succ i =>
      cases j with
      | zero => rw [D_zero, D_col]
      | succ j =>
        have hB := B_symm n ih i j (by omega)
        by_cases hc : SwC sw a b i j
        · have hc' : SwC sw b a j i := by
            obtain ⟨h1, h2, h3, h4, h5, h6⟩ := hc
            exact ⟨h1, h3, h2, h5.symm, h4.symm, fun e => h6 e.symm⟩
          rw [D_sw hc, D_sw hc', hB, ih (i - 1) (j - 1) (by omega)]
        · have hc' : ¬ SwC sw b a j i := by
            rintro ⟨h1, h2, h3, h4, h5, h6⟩
            exact hc ⟨h1, h3, h2, h5.symm, h4.symm, fun e => h6 e.symm⟩
          rw [D_nsw hc, D_nsw hc', hB]
theorem D_symm (i j : Nat) : D sw a b i j = D sw b a j i := D_symm_aux (i + j + 1) i j (by omega)

theorem row_grows (L i m : Nat) (h : ∀ j, j ≤ m → L < D sw a b (i + 1) j) : ∀ k, ∀ j, j ≤ m → L < D sw a b (i + 1 + k) j ∧ L ≤ D sw a b (i + k) j := by
  intro k
  induction k with
  | zero =>
    intro j hj
    have h1 := h j hj
    have h2 := D_down (sw := sw) (a := a) (b := b) i j
    exact ⟨h1, by simp only [Nat.add_zero]; omega⟩
  | succ k ih =>
    intro j
    induction j with
    | zero =>
      intro hj
      have h1 := ih 0 hj
      simp only [D_col] at h1 ⊢
      omega
    | succ j ihj =>
      intro hj
      refine ⟨?_, by have := (ih (j + 1) hj).1; rw [show i + (k + 1) = i + 1 + k by omega]; omega⟩
      have e : i + 1 + (k + 1) = (i + 1 + k) + 1 := by omega
      rw [e]
      rcases D_from (sw := sw) (a := a) (b := b) (i + 1 + k + 1) (j + 1) (by omega) with ⟨i', hi', hd⟩ | ⟨j', hj', hd⟩ | ⟨i', j', hi', hj', hd⟩ | ⟨i', j', hi', hj', _, hd⟩ | ⟨i', j', hi', hj', _, _, _, hd⟩
      · have : i' = i + 1 + k := by omega
        subst this
        have := (ih (j + 1) hj).1
        omega
      · have : j' = j := by omega
        subst this
        have := (ihj (by omega)).1
        rw [e] at this
        omega
      · have h1 : i' = i + 1 + k := by omega
        have h2 : j' = j := by omega
        subst h1; subst h2
        have := (ih j' (by omega)).1
        omega
      · have h1 : i' = i + 1 + k := by omega
        have h2 : j' = j := by omega
        subst h1; subst h2
        have := (ih j' (by omega)).1
        omega
      · have h1 : i' = i + k := by omega
        have h2 : j = j' + 1 := by omega
        subst h1; subst h2
        have := (ih j' (by omega)).2
        omega

theorem row_over {L i n m : Nat} (hi : i < n) (h : ∀ j, j ≤ m → L < D sw a b (i + 1) j) : L < D sw a b n m := by
  have := (row_grows L i m h (n - (i + 1)) m (Nat.le_refl _)).1
  rwa [show i + 1 + (n - (i + 1)) = n by omega] at this
end
end Ky
end

section -- KyBase
open PySem PySem.W PyProof.Rows
set_option Elab.async false
set_option maxRecDepth 100000
namespace Ky

section
variable {prog : Program} {w : World} {A : Around} {E : Value → Shared → Prop} {s : Shared} {env : Env} {h₀ : Heap} {x : Str} {body : List Stmt} {Q : Flow → Shared → Prop}

def TEnd (h₀ : Heap) (L : Addr) (I : Addr) (it : Obj) (J : (Str → Option Value) → List (Addr × Obj) → Prop) (s₁ s₂ : Shared) : Prop :=
  ∃ h' tk m' news', s₂ = { s₁ with heap := h', toks := tk } ∧ Fr h₀ L h' m' ∧ News h₀ L h' ((I, it) :: news') ∧ (∀ p ∈ news', p.1 ≠ I) ∧ J m' news'

def TPost (h₀ : Heap) (L : Addr) (I : Addr) (it : Obj) (J : (Str → Option Value) → List (Addr × Obj) → Prop) (s₁ : Shared) (Q : Flow → Shared → Prop) (f : Flow) (s₂ : Shared) : Prop :=
  match f with
  | .ret v => Q (.ret v) s₂
  | .brk => Q .next s₂
  | _ => TEnd h₀ L I it J s₁ s₂

theorem TEnd.intro {L I : Addr} {it : Obj} {J : (Str → Option Value) → List (Addr × Obj) → Prop} {s₁ : Shared} {h' : Heap} {tk : Nat} {m' : Str → Option Value} {news' : List (Addr × Obj)}
    (F : Fr h₀ L h' m') (N : News h₀ L h' ((I, it) :: news')) (hc : ∀ p ∈ news', p.1 ≠ I) (hJ : J m' news') : TEnd h₀ L I it J s₁ { s₁ with heap := h', toks := tk } :=
  ⟨h', tk, m', news', rfl, F, N, hc, hJ⟩

theorem loop_of_walks {I : Addr} {fp : List Addr} {n : Nat} {P : Nat → Value → Prop} {St : Nat → Heap → Prop} {m₀ : Str → Option Value} {news : List (Addr × Obj)}
    (J : Nat → (Str → Option Value) → List (Addr × Obj) → Prop) (W : Walks prog w A I fp [I] n P St)
    (hI : ∀ i h, St i h → ∃ it : Obj, h.get? I = some it)
    (hLf : env.locals ∉ fp) (hI0 : h₀.get? I = none) (hnI : ∀ p ∈ news, p.1 ≠ I) (hst : St 0 s.heap)
    (F : Fr h₀ env.locals s.heap m₀) (N : News h₀ env.locals s.heap news) (hJ : J 0 m₀ news)
    (hfp : ∀ i m₁ news₁, J i m₁ news₁ → ∀ b ∈ fp, b ≠ I → h₀.get? b = none → ∃ o, (b, o) ∈ news₁)
    (turn : ∀ i v m₁ news₁ h tk (it : Obj), i < n → P i v → (∀ p ∈ news₁, p.1 ≠ I) → J i m₁ news₁ → Fr h₀ env.locals h (fun y => if y = x then some v else m₁ y) → News h₀ env.locals h ((I, it) :: news₁) →
      wpAny (model prog w) A (execs body env) (fun f s₂ => TPost h₀ env.locals I it (fun m₂ news₂ => J (i + 1) m₂ news₂ ∧ ∀ b ∈ fp, b ≠ I → h₀.get? b = none → ∀ o, (b, o) ∈ news₁ → (b, o) ∈ news₂) { s with heap := h, toks := tk } Q f s₂) E { s with heap := h, toks := tk })
    (done : ∀ m₁ news₁ h tk, J n m₁ news₁ → Fr h₀ env.locals h m₁ → News h₀ env.locals h news₁ → Q .next { s with heap := h, toks := tk }) :
    LoopAtV prog w A h₀ env x body Q E (.ref I) s := by
  refine ⟨I, fp, [I], n, P, St, m₀, news, J, rfl, W, hLf, ?_, ?_, hst, F, N, hJ, ?_, ?_⟩
  · intro b hb; rw [List.mem_singleton.mp hb]; exact hI0
  · intro p hp hb; exact hnI p hp (List.mem_singleton.mp hb)
  · rintro i v m₁ news₁ s₁ own ⟨hh', tk', rfl⟩ hin hP hJ₁ hoff hown hget hall hst₁ F₁ N₁
    obtain ⟨it, hit⟩ := hI _ _ hst₁
    have hmemI := hall I (W.sub _ (List.mem_singleton.mpr rfl)) hI0 _ hit
    have N₂ : News h₀ env.locals hh' ((I, it) :: news₁) := fun p hp => by
      rcases List.mem_cons.mp hp with rfl | hp
      · exact N₁ _ (List.mem_append_left _ hmemI)
      · exact N₁ _ (List.mem_append_right _ hp)
    refine wpAny_mono (turn i v m₁ news₁ hh' tk' it hin hP (fun p hp e => hoff p hp (List.mem_singleton.mpr e)) hJ₁ F₁ N₂) (fun f s₂ p => ?_) fun _ _ e => e
    have fin : TEnd h₀ env.locals I it (fun m₂ news₂ => J (i + 1) m₂ news₂ ∧ ∀ b ∈ fp, b ≠ I → h₀.get? b = none → ∀ o, (b, o) ∈ news₁ → (b, o) ∈ news₂) { s with heap := hh', toks := tk' } s₂ → LoopStepU h₀ env.locals [I] own (J (i + 1)) { s with heap := hh', toks := tk' } .next s₂ := by
      rintro ⟨h', tk, m', news', e, F', N', hc, hj, hkeep⟩
      refine ⟨rfl, h', tk, m', news', e, F', fun p hp => ?_, fun p hp hb => ?_, hj⟩
      · rcases List.mem_append.mp hp with hp | hp
        · have h2 : hh'.get? p.1 = some p.2 := hget p hp
          by_cases hpI : p.1 = I
          · have h3 : p = (I, it) := by
              rw [hpI, hit] at h2
              exact Prod.ext hpI (Option.some.inj h2).symm
            rw [h3]; exact N' _ (List.mem_cons_self ..)
          · have hp0 := (N₁ p (List.mem_append_left _ hp)).2.2
            obtain ⟨o, ho⟩ := hfp i m₁ news₁ hJ₁ p.1 (hown p hp) hpI hp0
            have h4 := (N₁ _ (List.mem_append_right _ ho)).1
            rw [h2] at h4
            have h5 : p.2 = o := Option.some.inj h4
            have h6 : p = (p.1, o) := Prod.ext rfl h5
            rw [h6]
            exact N' _ (List.mem_cons_of_mem _ (hkeep p.1 (hown p hp) hpI hp0 o ho))
        · exact N' _ (List.mem_cons_of_mem _ hp)
      · exact hc p hp (List.mem_singleton.mp hb)
    cases f with
    | ret v => exact .ret p
    | brk => exact .brk p
    | next => exact .next (fin p)
    | cont => exact .cont (fin p)
  · rintro h' tk m' news' F' N' _ hJ'
    exact done m' news' h' tk hJ' F' N'

theorem fits_small {a : Int} (h0 : 0 ≤ a) (h : a ≤ 2 ^ 24) : Builtin.Range.small 0 a 1 = true := by
  have hf : ∀ c : Int, -(2 ^ 25) ≤ c → c ≤ 2 ^ 25 → Builtin.Range.rangeFitsLong c = true := by
    intro c h1 h2
    unfold Builtin.Range.rangeFitsLong
    simp only [Bool.and_eq_true, decide_eq_true_eq]
    omega
  have hs : Builtin.Range.rangeSize 0 a 1 = a := by rw [rangeSize_nat]; omega
  unfold Builtin.Range.small
  rw [hs, hf 0 (by omega) (by omega), hf a (by omega) (by omega), hf 1 (by omega) (by omega), if_pos (by omega), hf (a + (1 - 1)) (by omega) (by omega)]
  simp

theorem iter_range {r : Addr} {n : Nat} {b : Int} {t₀ u₀ v₀ : Tok} {m₀ : Str → Option Value} {news : List (Addr × Obj)} (J : Nat → (Str → Option Value) → List (Addr × Obj) → Prop)
    (hh : A.handled = none) (hr : IsRange s.heap r 0 b 1 t₀ u₀ v₀) (hb : b = (n : Int)) (hn : n ≤ 2 ^ 24) (F : Fr h₀ env.locals s.heap m₀) (N : News h₀ env.locals s.heap news) (hJ : J 0 m₀ news)
    (turn : ∀ i t m₁ news₁ h tk I (it : Obj), i < n → (∀ p ∈ news₁, p.1 ≠ I) → J i m₁ news₁ → Fr h₀ env.locals h (fun y => if y = x then some (.int (i : Nat) t) else m₁ y) → News h₀ env.locals h ((I, it) :: news₁) →
      wpAny (model prog w) A (execs body env) (TPost h₀ env.locals I it (J (i + 1)) { s with heap := h, toks := tk } Q) E { s with heap := h, toks := tk })
    (done : ∀ m₁ news₁ h tk, J n m₁ news₁ → Fr h₀ env.locals h m₁ → News h₀ env.locals h news₁ → Q .next { s with heap := h, toks := tk }) :
    wpAny (model prog w) A (pyIter (.ref r)) (fun it s₂ => LoopAtV prog w A h₀ env x body Q E it s₂) E s := by
  subst hb
  refine wpAny_pyIter_range hr (fits_small (by omega) (by omega)) ?_
  have hsz : Builtin.Range.rangeSize 0 (n : Int) 1 = (n : Int) := by rw [rangeSize_nat]; omega
  have W : Walks prog w A s.heap.objs.size [s.heap.objs.size] [s.heap.objs.size] n (fun i v => ∃ t, v = .int (0 + i * 1) t)
      (fun i h => IsRangeIter h s.heap.objs.size (0 + (i : Nat) * 1) ((n : Int) - (i : Nat)) 1) := Walks.range hh _ 0 1 n
  refine loop_of_walks J W (fun i h st => ⟨_, st⟩) ?_ (next_is_new F) ?_ ?_ (F.push _) (fun p hp => ⟨Heap.get?_push_of_some _ (N p hp).1, (N p hp).2⟩) hJ ?_ ?_ ?_
  · intro hm
    exact absurd F.ns.lt ((List.mem_singleton.mp hm) ▸ Nat.lt_irrefl _)
  · intro p hp hI
    exact absurd (Heap.lt_size (N p hp).1) (hI ▸ Nat.lt_irrefl _)
  · show IsRangeIter _ _ _ _ _
    rw [hsz]
    simpa using Heap.get?_push_size _ rfl
  · intro i m₁ news₁ _ b hb hne
    exact absurd (List.mem_singleton.mp hb) hne
  · rintro i v m₁ news₁ h tk it hin ⟨t, rfl⟩ hic hJ₁ F₁ N₁
    have e : (0 + (i : Int) * 1) = (i : Int) := by omega
    rw [e] at F₁
    refine wpAny_mono (turn i t m₁ news₁ h tk _ it hin hic hJ₁ F₁ N₁) (fun f s₂ p => ?_) fun _ _ e => e
    have fin : TEnd h₀ env.locals s.heap.objs.size it (J (i + 1)) { s with heap := h, toks := tk } s₂ → TEnd h₀ env.locals s.heap.objs.size it (fun m₂ news₂ => J (i + 1) m₂ news₂ ∧ ∀ b ∈ [s.heap.objs.size], b ≠ s.heap.objs.size → h₀.get? b = none → ∀ o, (b, o) ∈ news₁ → (b, o) ∈ news₂) { s with heap := h, toks := tk } s₂ := by
      rintro ⟨h', tk, m', news', e, F', N', hc, hj⟩
      exact ⟨h', tk, m', news', e, F', N', hc, hj, fun b hb hne => absurd (List.mem_singleton.mp hb) hne⟩
    cases f with
    | ret v => exact p
    | brk => exact p
    | next => exact fin p
    | cont => exact fin p
  · intro m₁ news₁ h tk hJ₁ F₁ N₁
    exact done m₁ news₁ h tk hJ₁ F₁ N₁
end

end Ky
end

section -- KySeq
open PySem PySem.W PyProof.Rows
set_option Elab.async false
set_option maxRecDepth 100000
namespace Ky

def one (c : Nat) : Str := ⟨#[c]⟩
theorem one_bne (c d : Nat) : (one c != one d) = decide (c ≠ d) := by
  by_cases h : c = d
  · subst h; simp
  · have : one c ≠ one d := fun e => h (by injection e with e; injection e with e; injection e)
    simp [h, this]
theorem one_beq (c d : Nat) : (one c == one d) = decide (c = d) := by
  by_cases h : c = d
  · subst h; simp
  · have : one c ≠ one d := fun e => h (by injection e with e; injection e with e; injection e)
    simp [h, this]

def SeqV (h : Heap) (v : Value) (xs : List Nat) : Prop :=
  (∃ t, v = .str ⟨xs.toArray⟩ t) ∨ ∃ a vs, v = .ref a ∧ h.IsList a vs.toArray ∧ StrsAre vs (xs.map one)

theorem SeqV.keeps {h h' : Heap} {v : Value} {xs : List Nat} (S : SeqV h v xs) (hk : ∀ b o, h.get? b = some o → h'.get? b = some o) : SeqV h' v xs := by
  rcases S with ⟨t, e⟩ | ⟨a, vs, e, hl, hs⟩
  · exact .inl ⟨t, e⟩
  · exact .inr ⟨a, vs, e, hl.at fun o eo => hk _ o eo, hs⟩
theorem SeqV.fr {h₀ h : Heap} {L : Addr} {m : Str → Option Value} {v : Value} {xs : List Nat} (S : SeqV h₀ v xs) (F : Fr h₀ L h m) : SeqV h v xs := S.keeps F.keep

section
variable {prog : Program} {w : World} {A : Around} {E : Value → Shared → Prop} {s : Shared}

theorem len_seq {v : Value} {xs : List Nat} {Q : Value → Shared → Prop} (S : SeqV s.heap v xs) (hb : xs.length ≤ 2 ^ 20)
    (h : ∀ t tk, Q (.int xs.length t) { s with toks := tk }) : wpAny (model prog w) A (call (.builtin "len") [v]) Q E s := by
  rcases S with ⟨t, rfl⟩ | ⟨a, vs, rfl, hl, hs⟩
  · have e : (⟨xs.toArray⟩ : Str).length = xs.length := by simp [Str.length]
    refine PyProof.Rows.len_str (by rw [e]; omega) ?_
    rw [e]; exact h _ _
  · refine len_strsA hl hs (by rw [List.length_map]; omega) ?_
    rw [List.length_map]; exact h _ _

theorem sub_seq {value slice : Expr} {v : Value} {xs : List Nat} {i : Nat} {u : Tok} {Q : Value → Shared → Prop} (S : SeqV s.heap v xs) (hb : xs.length ≤ 2 ^ 20) (hi : i < xs.length)
    (h : ∀ t tk, Q (.str (one (xs.getD i 0)) t) { s with toks := tk })
    (hs1 : ∀ x t, subscripted slice false (.str x t) (.int i u) = operate [.str x t, .int i u] (getItem (.str x t) (.int i u)) := by intro _ _; with_unfolding_all rfl)
    (hs2 : ∀ a, subscripted slice false (.ref a) (.int i u) = operate [.ref a, .int i u] (getItem (.ref a) (.int i u)) := by intro _; with_unfolding_all rfl)
    (hg : ∀ a r, letTemporaryGo value (.ref a) r = pure () := by intro _ _; with_unfolding_all rfl) :
    wpAny (model prog w) A (subscriptTail value slice v (.int i u)) Q E s := by
  rcases S with ⟨t, rfl⟩ | ⟨a, vs, rfl, hl, hs⟩
  · have e : (⟨xs.toArray⟩ : Str).length = xs.length := by simp [Str.length]
    refine tail_any (typeIs_str s _ t) slot_str_getitem.lookup (PyProof.Rows.getItem_str (c := xs.getD i 0) ?_ ?_ (h _ _)) (hs1 _ _)
    · simp; omega
    · have : seqIndex? (i : Int) (⟨xs.toArray⟩ : Str).length = some i := by
        have := StrLaws.seqIndex_nonneg (i := (i : Int)) (n := (⟨xs.toArray⟩ : Str).length) (by omega) (by rw [e]; omega)
        simpa using this
      rw [this]
      simp [hi]
  · have hi' : (i : Int) < ((xs.map one).length : Nat) := by rw [List.length_map]; omega
    refine item_strsA hl hs (by omega) hi' (by omega) ?_ (hs2 _) (hg _)
    intro t'
    have e2 : (xs.map one).getD ((i : Int)).toNat Str.empty = one (xs.getD i 0) := by
      simp [hi]
    rw [e2]
    exact h t' s.toks

theorem sub_ints {value slice : Expr} {l : Addr} {vs : List Value} {ns : List Int} {k : Int} {j : Nat} {u : Tok} {c : Int} {Q : Value → Shared → Prop} (hl : s.heap.IsList l vs.toArray) (hi : IntsAre vs ns)
    (hb : ns.length ≤ 2 ^ 20) (hk : k = j ∨ (k < 0 ∧ k + ns.length = j)) (hx : ns[j]? = some c) (h : ∀ t, Q (.int c t) s)
    (hs : ∀ a, subscripted slice false (.ref a) (.int k u) = operate [.ref a, .int k u] (getItem (.ref a) (.int k u)) := by intro _; with_unfolding_all rfl) :
    wpAny (model prog w) A (subscriptTail value slice (.ref l) (.int k u)) Q E s := by
  obtain ⟨t, ht⟩ := hi.get j c hx
  have hlen := hi.length
  have hj : j < ns.length := (List.getElem?_eq_some_iff.mp hx).1
  refine tail_any hl.typeIs slot_list_getitem.lookup ?_ (hs l)
  rcases hk with rfl | ⟨hneg, hk⟩
  · exact wpAny_getItem_list hl (by omega) (by omega) (by simpa using ht) (h t)
  · refine wpAny_getItem_list_neg hl hneg (by rw [List.size_toArray]; omega) (by omega) ?_ (h t)
    have : (k + (vs.toArray.size : Nat)).toNat = j := by rw [List.size_toArray]; omega
    rw [this]; simpa using ht
end
end Ky
end

section -- KyLev
open PySem PySem.W PyProof.Rows
set_option Elab.async false
set_option maxRecDepth 100000
namespace Ky
def stAt (i : Nat) : Stmt := PySem.Challenge.pw_ky0009_01.main.body.getD i (.Pass default)
def defBody : Stmt → List Stmt
  | .FunctionDef _ _ b _ _ _ _ _ _ _ => b
  | _ => []
def defScope : Stmt → Scope
  | .FunctionDef _ _ _ _ _ _ sc _ _ _ => sc
  | _ => default
def defParams : Stmt → Arguments
  | .FunctionDef _ a _ _ _ _ _ _ _ _ => a
  | _ => ⟨[], [], none, [], [], none, []⟩
def forBody : Stmt → List Stmt
  | .For _ _ b _ _ => b
  | .If _ b _ _ => b
  | .While _ b _ _ => b
  | _ => []
def nth (l : List Stmt) (i : Nat) : Stmt := l.getD i (.Pass default)
abbrev levScope : Scope := defScope (stAt 2)
abbrev levBody : List Stmt := defBody (stAt 2)
abbrev levOuter : List Stmt := forBody (nth levBody 2)
abbrev levInner : List Stmt := forBody (nth levOuter 1)

structure Glo (h : Heap) (mg mb : Str → Option Value) : Prop where
  g : h.Ns mainGlobals mg
  b : h.Ns builtinsNs mb
  nolimit : h.NoLimit
  xrange : mg "xrange" = some (.type "range")
  gmin : mg "min" = none
  glen : mg "len" = none
  glist : mg "list" = none
  grange : mg "range" = none
  gset : mg "set" = none
  bmin : mb "min" = some (.builtin "min")
  blen : mb "len" = some (.builtin "len")
  blist : mb "list" = some (.type "list")
  brange : mb "range" = some (.type "range")
  bset : mb "set" = some (.type "set")

def ListO (o : Obj) (vs : List Value) : Prop := o.cls = .type "list" ∧ ∃ n, o.data = .seq vs.toArray n
theorem ListO.isList {h : Heap} {a : Addr} {o : Obj} {vs : List Value} (l : ListO o vs) (e : h.get? a = some o) : h.IsList a vs.toArray := ⟨o, e, l.1, l.2⟩

section math
variable (sw : Bool) (a b : Nat → Nat) (m : Nat)
def row (i : Nat) : List Int := (List.range m).map (fun j => ((D sw a b i (j + 1) : Nat) : Int)) ++ [((D sw a b i 0 : Nat) : Int)]
def part (i y : Nat) : List Int := (List.range m).map (fun j => if j < y then ((D sw a b i (j + 1) : Nat) : Int) else 0) ++ [((D sw a b i 0 : Nat) : Int)]
theorem row_len (i : Nat) : (row sw a b m i).length = m + 1 := by simp [row]
theorem part_len (i y : Nat) : (part sw a b m i y).length = m + 1 := by simp [part]
theorem row_at {i j : Nat} (h : j < m) : (row sw a b m i)[j]? = some ((D sw a b i (j + 1) : Nat) : Int) := by
  simp [row, List.getElem?_append, h]
theorem row_prev {i y : Nat} (h : y ≤ m) : ∃ j : Nat, (((y : Int) - 1 = j) ∨ ((y : Int) - 1 < 0 ∧ (y : Int) - 1 + (row sw a b m i).length = j)) ∧ (row sw a b m i)[j]? = some ((D sw a b i y : Nat) : Int) := by
  cases y with
  | zero => exact ⟨m, .inr ⟨by omega, by rw [row_len]; omega⟩, by simp [row]⟩
  | succ y => exact ⟨y, .inl (by omega), row_at sw a b m (by omega)⟩
theorem part_prev {i y : Nat} (h : y ≤ m) : ∃ j : Nat, (((y : Int) - 1 = j) ∨ ((y : Int) - 1 < 0 ∧ (y : Int) - 1 + (part sw a b m i y).length = j)) ∧ (part sw a b m i y)[j]? = some ((D sw a b i y : Nat) : Int) := by
  cases y with
  | zero => exact ⟨m, .inr ⟨by omega, by rw [part_len]; omega⟩, by simp [part]⟩
  | succ y => exact ⟨y, .inl (by omega), by simp [part, List.getElem?_append, show y < m by omega]⟩
theorem part_set {i y : Nat} (h : y < m) : (part sw a b m i y).set y ((D sw a b i (y + 1) : Nat) : Int) = part sw a b m i (y + 1) := by
  apply List.ext_getElem?
  intro k
  rw [List.getElem?_set]
  by_cases hk : y = k
  · subst hk
    simp [part, List.getElem?_append, h]
    omega
  · rw [if_neg hk]
    by_cases hkm : k < m
    · simp [part, List.getElem?_append, hkm]
      have : (k < y) ↔ (k < y + 1) := by omega
      simp [this]
    · simp [part, List.getElem?_append, hkm]
theorem part_full (i : Nat) : part sw a b m i m = row sw a b m i := by
  apply List.ext_getElem?
  intro k
  by_cases hkm : k < m
  · simp [part, row, List.getElem?_append, hkm]
  · simp [part, row, List.getElem?_append, hkm]
theorem part_zero (i : Nat) : part sw a b m i 0 = List.replicate m 0 ++ [((D sw a b i 0 : Nat) : Int)] := by
  simp [part, List.map_const']
theorem row_zero : row sw a b m 0 = (List.range m).map (fun j => ((j : Nat) : Int) + 1) ++ [0] := by
  simp [row, D_zero]
end math

theorem IntsAre.set' {c : Int} {t : Tok} : ∀ {vs : List Value} {ns : List Int} (_ : IntsAre vs ns) (i : Nat), IntsAre (vs.set i (.int c t)) (ns.set i c)
  | _, _, .nil, _ => by simpa using IntsAre.nil
  | _, _, .cons n u h, 0 => .cons c t h
  | _, _, .cons n u h, i + 1 => .cons n u (IntsAre.set' h i)

section
variable {prog : Program} {w : World} {A : Around} {E : Value → Shared → Prop} {s : Shared} {h₀ : Heap} {L : Addr} {m : Str → Option Value} {news : List (Addr × Obj)}
theorem min3 {a b c : Int} {t u x : Tok} {Q : Value → Shared → Prop} (hh : A.handled = none) (F : Fr h₀ L s.heap m) (N : News h₀ L s.heap news)
    (h : ∀ h' tk t', Fr h₀ L h' m → News h₀ L h' news → Q (.int (min (min a b) c) t') { s with heap := h', toks := tk }) :
    wpAny (model prog w) A (call (.builtin "min") [.int a t, .int b u, .int c x]) Q E s :=
  min_three_ints hh fun h' tk hk => by
    have F' := F.grownK hk
    have N' := N.grown hk
    by_cases h1 : b < a
    · rw [if_pos h1]
      by_cases h2 : c < b
      · rw [if_pos h2]
        have e : min (min a b) c = c := by omega
        have := h h' tk x F' N'
        rwa [e] at this
      · rw [if_neg h2]
        have e : min (min a b) c = b := by omega
        have := h h' tk u F' N'
        rwa [e] at this
    · rw [if_neg h1]
      by_cases h2 : c < a
      · rw [if_pos h2]
        have e : min (min a b) c = c := by omega
        have := h h' tk x F' N'
        rwa [e] at this
      · rw [if_neg h2]
        have e : min (min a b) c = a := by omega
        have := h h' tk t F' N'
        rwa [e] at this

/-- a store into a list of the ledger's head -/
theorem set_head {r : Addr} {o : Obj} {vs : List Value} {ns : List Int} {i : Nat} {u : Tok} {c : Int} {t : Tok} {Q : Unit → Shared → Prop} {pre post : List (Addr × Obj)}
    (F : Fr h₀ L s.heap m) (N : News h₀ L s.heap (pre ++ (r, o) :: post)) (hpre : ∀ p ∈ pre, p.1 ≠ r) (hpost : ∀ p ∈ post, p.1 ≠ r) (hl : ListO o vs) (hi : IntsAre vs ns) (hb : ns.length ≤ 2 ^ 20) (hlt : i < ns.length)
    (h : ∀ h' o' vs', ListO o' vs' → IntsAre vs' (ns.set i c) → Fr h₀ L h' m → News h₀ L h' (pre ++ (r, o') :: post) → Q () { s with heap := h' }) :
    wpAny (model prog w) A (setItem (.ref r) (.int i u) (.int c t)) Q E s := by
  have hm := N (r, o) (List.mem_append_right _ (List.mem_cons_self ..))
  have hlen := hi.length
  refine wpAny_setItem_list (hl.isList hm.1) (by omega) (by omega) (by rw [List.size_toArray]; omega) fun h' hl' hs => ?_
  obtain ⟨o', ho', hc, n, hd⟩ := hl'
  have e : (vs.toArray.setIfInBounds ((i : Int)).toNat (.int c t)) = (vs.set i (.int c t)).toArray := by simp
  rw [e] at hd
  refine h h' o' (vs.set i (.int c t)) ⟨hc, n, hd⟩ (IntsAre.set' hi i) (F.change hs hm.2.1 hm.2.2) fun p hp => ?_
  rcases List.mem_append.mp hp with hp | hp
  · have P := N p (List.mem_append_left _ hp)
    exact ⟨(hs.2 p.1 (hpre p hp)).trans P.1, P.2⟩
  · rcases List.mem_cons.mp hp with rfl | hp
    · exact ⟨ho', hm.2⟩
    · have P := N p (List.mem_append_right _ (List.mem_cons_of_mem _ hp))
      exact ⟨(hs.2 p.1 (hpost p hp)).trans P.1, P.2⟩
end
end Ky
end

section -- KyLev2
open PySem PySem.W PyProof.Rows
set_option Elab.async false
set_option maxRecDepth 100000
namespace Ky
local macro_rules | `(tactic| walk_at "eval Name") => `(tactic| refine ld (by assumption) (by first | rfl | assumption) ?_)
abbrev levEnv (L f : Addr) (cd : Value) : Env := envOf "levenshtein" levScope L f cd

structure LevM (m : Str → Option Value) (v1 v2 lv : Value) (r0 r1 : Addr) (i : Nat) : Prop where
  s1 : m "seq1" = some v1
  s2 : m "seq2" = some v2
  lim : m "limit" = some lv
  x : ∃ t, m "x" = some (.int i t)
  o : m "oneago" = some (.ref r0)
  t : m "thisrow" = some (.ref r1)

theorem lev_turn {prog : Program} {w : World} {A : Around} {s : Shared} {h₀ : Heap} {mg mb : Str → Option Value} {L f : Addr} {cd : Value} {m : Str → Option Value} {Q : Flow → Shared → Prop}
    {v1 v2 lv : Value} {xs ys : List Nat} {a b : Nat → Nat} {n : Nat} {r0 r1 I : Addr} {it o1 o0 : Obj} {vs1 vs0 : List Value} {i j : Nat} {tj : Tok}
    (G : Glo h₀ mg mb) (hh : A.handled = none) (S1 : SeqV h₀ v1 xs) (S2 : SeqV h₀ v2 ys) (hx : xs.length ≤ 2 ^ 10) (hy : ys.length ≤ 2 ^ 10) (hi : i < xs.length) (hj : j < n) (hn : ys.length = n)
    (ha : ∀ k, xs.getD k 0 = a k) (hb : ∀ k, ys.getD k 0 = b k)
    (F : Fr h₀ L s.heap m) {rest : List (Addr × Obj)} (N : News h₀ L s.heap ((I, it) :: (r1, o1) :: (r0, o0) :: rest)) (hI1 : I ≠ r1) (h01 : r0 ≠ r1) (hr1 : ∀ p ∈ rest, p.1 ≠ r1) (M : LevM m v1 v2 lv r0 r1 i) (hyv : m "y" = some (.int j tj))
    (l1 : ListO o1 vs1) (l0 : ListO o0 vs0) (i1 : IntsAre vs1 (part false a b n (i + 1) j)) (i0 : IntsAre vs0 (row false a b n i))
    (h : ∀ h' tk m' o1' vs1', LevM m' v1 v2 lv r0 r1 i → ListO o1' vs1' → IntsAre vs1' (part false a b n (i + 1) (j + 1)) → Fr h₀ L h' m' → News h₀ L h' ((I, it) :: (r1, o1') :: (r0, o0) :: rest) →
      Q .next { s with heap := h', toks := tk }) :
    wpAny (model prog w) A (execs levInner (levEnv L f cd)) Q (fun _ _ => False) s := by
  obtain ⟨hs1, hs2, hlim, ⟨tx, hxv⟩, ho, ht⟩ := M
  have z1 := part_len false a b n (i + 1) j
  have z0 := row_len false a b n i
  -- delcost
  walk1; walk1; walk1; walk1; walk1; walk1
  refine sub_ints (l0.isList (N (r0, o0) (by simp)).1) i0 (by omega) (.inl rfl) (row_at _ _ _ _ hj) fun t => ?_
  walk1; walk1; walk1
  clear N F
  rename_i h1 F N
  -- addcost
  walk1; walk1; walk1; walk1; walk1; walk1; walk1; walk1; walk1
  obtain ⟨k, hk, hx1⟩ := part_prev false a b n (i := i + 1) (y := j) (by omega)
  refine sub_ints (l1.isList (N (r1, o1) (by simp)).1) i1 (by omega) hk hx1 fun t => ?_
  walk1; walk1; walk1
  clear N F
  rename_i h2 F N
  -- subcost
  walk1; walk1; walk1; walk1; walk1; walk1; walk1; walk1; walk1
  obtain ⟨k0, hk0, hx0⟩ := row_prev false a b n (i := i) (y := j) (by omega)
  refine sub_ints (l0.isList (N (r0, o0) (by simp)).1) i0 (by omega) hk0 hx0 fun t => ?_
  walk1; walk1; walk1; walk1
  refine sub_seq (S1.fr F) (by omega) hi fun t tk => ?_
  walk1; walk1; walk1
  refine sub_seq (S2.fr F) (by omega) (by omega) fun t tk => ?_
  refine ne_str ?_
  rw [one_bne, ha, hb]
  walk1; walk1
  clear N F
  rename_i h3 F N
  walk1; walk1; walk1
  refine ld_builtin_at F G.g G.gmin G.b G.bmin ?_
  walk1; walk1; walk1; walk1; walk1; walk1; walk1; walk1
  refine min3 hh F N fun h4 tk4 t4 F N => ?_
  walk1; walk1
  refine set_head (pre := [(I, it)]) F N (by simp [hI1]) (List.forall_mem_cons.mpr ⟨h01, hr1⟩) l1 i1 (by omega) (by omega) fun h5 o1' vs1' l1' i1' F N => ?_
  refine wpAny_execs_nil ?_
  have e : min (min ((D false a b i (j + 1) : Nat) + 1 : Int) ((D false a b (i + 1) j : Nat) + 1 : Int)) ((D false a b i j : Nat) + (if decide (a i ≠ b j) = true then (1 : Int) else 0)) = ((D false a b (i + 1) (j + 1) : Nat) : Int) := by
    rw [D_nsw (by rintro ⟨h, _⟩; cases h)]
    unfold B
    by_cases hq : a i = b j
    · simp [hq]; omega
    · simp [hq]; omega
  rw [e, part_set _ _ _ _ hj] at i1'
  refine h _ _ _ _ _ ?_ l1' i1' F N
  exact ⟨hs1, hs2, hlim, ⟨tx, hxv⟩, ho, ht⟩
end Ky
end

section -- KyLev3
open PySem PySem.W PyProof.Rows
set_option Elab.async false
set_option maxRecDepth 100000
namespace Ky
local macro_rules | `(tactic| walk_at "eval Name") => `(tactic| refine ld (by assumption) (by first | rfl | assumption) ?_)

theorem foldl_rep (v : Value) : ∀ (k : Nat) (acc : List Value), List.foldl (fun x1 x2 => x1 ++ x2) acc.toArray (List.replicate k #[v]) = (acc ++ List.replicate k v).toArray
  | 0, acc => by simp
  | k + 1, acc => by
    rw [List.replicate_succ, List.foldl_cons]
    have e : acc.toArray ++ #[v] = (acc ++ [v]).toArray := by simp
    rw [e, foldl_rep v k (acc ++ [v])]
    simp [List.replicate_succ]
theorem rep_is (v : Value) (x : Int) (k : Nat) (h : x = k) : (List.foldl (fun x1 x2 => x1 ++ x2) #[] (List.replicate (if (#[v] : Array Value).isEmpty = true then 0 else x.toNat) #[v])) = (List.replicate k v).toArray := by
  subst h
  have := foldl_rep v k []
  simpa using this
theorem ints_rep (t : Tok) (c : Int) : ∀ k : Nat, IntsAre (List.replicate k (.int c t)) (List.replicate k c)
  | 0 => .nil
  | k + 1 => by rw [List.replicate_succ, List.replicate_succ]; exact .cons _ _ (ints_rep t c k)

structure LevO (m : Str → Option Value) (v1 v2 lv : Value) (r1 : Addr) : Prop where
  s1 : m "seq1" = some v1
  s2 : m "seq2" = some v2
  lim : m "limit" = some lv
  t : m "thisrow" = some (.ref r1)

theorem lev_outer {prog : Program} {w : World} {A : Around} {s : Shared} {h₀ : Heap} {mg mb : Str → Option Value} {L f : Addr} {cd : Value} {m : Str → Option Value} {Q : Flow → Shared → Prop}
    {v1 v2 lv : Value} {xs ys : List Nat} {a b : Nat → Nat} {n : Nat} {r1 I : Addr} {it o1 : Obj} {vs1 : List Value} {i : Nat} {ti : Tok}
    (G : Glo h₀ mg mb) (hh : A.handled = none) (S1 : SeqV h₀ v1 xs) (S2 : SeqV h₀ v2 ys) (hx : xs.length ≤ 2 ^ 10) (hy : ys.length ≤ 2 ^ 10) (hi : i < xs.length) (hn : ys.length = n)
    (ha : ∀ k, xs.getD k 0 = a k) (hb : ∀ k, ys.getD k 0 = b k)
    (F : Fr h₀ L s.heap m) (N : News h₀ L s.heap [(I, it), (r1, o1)]) (M : LevO m v1 v2 lv r1) (hxv : m "x" = some (.int i ti))
    (l1 : ListO o1 vs1) (i1 : IntsAre vs1 (row false a b n i)) (hlv : lv = .none ∨ ∃ (l : Nat) (t : Tok), lv = .int l t)
    (hnext : ∀ h' tk' m' R o' vs', LevO m' v1 v2 lv R → ListO o' vs' → IntsAre vs' (row false a b n (i + 1)) → R ≠ I → Fr h₀ L h' m' → News h₀ L h' [(I, it), (R, o')] → Q .next { s with heap := h', toks := tk' })
    (hret : ∀ h' tk' m' (l : Nat) t t', lv = .int l t → 0 < l → (∀ j, j ≤ n → l < D false a b (i + 1) j) → Fr h₀ L h' m' → Q (.ret (.int ((l + 1 : Nat) : Int) t')) { s with heap := h', toks := tk' }) :
    wpAny (model prog w) A (execs levOuter (levEnv L f cd)) Q (fun _ _ => False) s := by
  obtain ⟨hs1, hs2, hlim, ht⟩ := M
  refine wpAny_execs_cons (Assign_Tuple_swapped (names := ["oneago", "thisrow"]) ?_ (by rfl) (by rfl))
  refine Tuple_ ?_
  walk1; walk1; walk1; walk1; walk1; walk1; walk1; walk1; walk1
  refine newList_N F N fun h2 F2 N2 => ?_
  walk1
  refine ld_builtin_at F2 G.g G.glen G.b G.blen ?_
  walk1; walk1; walk1; walk1
  refine len_seq (S2.fr F2) (by omega) fun t2 tk2 => ?_
  refine mul_list (items := #[.int 0 s.toks]) (k := 0) F2 N2 (N2 (_, _) (List.mem_cons_self ..)).1 (by omega) (by omega) (by simp; omega) fun h3 F3 N3 => ?_
  rw [rep_is _ _ n (by omega)] at N3
  refine List_ ?_
  walk1; walk1; walk1; walk1; walk1; walk1
  refine newList_N F3 N3 fun h4 F4 N4 => ?_
  refine add_arrays (its := (List.replicate n (Value.int 0 s.toks)).toArray) F4 N4 (N4.isList (List.mem_cons_of_mem _ (List.mem_cons_self ..))) (N4.isList (List.mem_cons_self ..)) (hsz := by simp [sizeLine_eq]; omega) fun h5 F5 N5 => ?_
  walk1
  refine newTuple_N F5 N5 fun h6 F6 N6 => ?_
  refine unpackItemsN_ F6 N6 ⟨_, (N6 (_, _) (List.mem_cons_self ..)).1, rfl, _, rfl⟩ hh (by rfl) fun h7 F7 N7 => ?_
  have hRI : h4.objs.size ≠ I := Nat.ne_of_gt (Heap.lt_size (N4 (I, it) (by simp)).1)
  have hRr : h4.objs.size ≠ r1 := Nat.ne_of_gt (Heap.lt_size (N4 (r1, o1) (by simp)).1)
  have N8 : News h₀ L h7 [(I, it), (h4.objs.size, { cls := Value.type "list", data := Data.seq ((List.replicate n (Value.int 0 s.toks)).toArray.toList ++ #[Value.int (↑i + 1) (tk2 + 1)].toList).toArray }), (r1, o1)] := fun p hp => by
    simp only [List.mem_cons, List.not_mem_nil, or_false] at hp
    rcases hp with rfl | rfl | rfl <;> exact N7 _ (by simp)
  clear N7 N6 N5 N4 N3 N2 F6 F5 F4 F3 F2
  generalize h4.objs.size = R at *
  have iR : IntsAre (List.replicate n (Value.int 0 s.toks) ++ [Value.int (↑i + 1) (tk2 + 1)]) (part false a b n (i + 1) 0) := by
    rw [part_zero, D_col]
    exact IntsAre.append (ints_rep _ _ n) (.cons _ _ .nil)
  have lR : ListO { cls := Value.type "list", data := Data.seq ((List.replicate n (Value.int 0 s.toks)).toArray.toList ++ #[Value.int (↑i + 1) (tk2 + 1)].toList).toArray } (List.replicate n (Value.int 0 s.toks) ++ [Value.int (↑i + 1) (tk2 + 1)]) := ⟨rfl, _, by simp; rfl⟩
  generalize hoR : ({ cls := Value.type "list", data := Data.seq ((List.replicate n (Value.int 0 s.toks)).toArray.toList ++ #[Value.int (↑i + 1) (tk2 + 1)].toList).toArray } : Obj) = oR at *
  walk1; walk1; walk1; walk1; walk1; walk1; walk1
  clear F7 N8
  rename_i _ _ _ h8 F8 N8
  refine wpAny_execs_cons (For_invV h₀ (by rfl) (by rfl) ?_ (hE := PassesOwn.never))
  walk1
  refine ld_global_at F8 G.g G.xrange ?_
  walk1; walk1; walk1
  refine ld_builtin_at F8 G.g G.glen G.b G.blen ?_
  walk1; walk1; walk1; walk1
  refine len_seq (S2.fr F8) (by omega) fun t9 tk9 => ?_
  walk1
  refine range1_rows F8 N8 fun h10 tk10 ta ua va hr F10 N10 _ => ?_
  have N11 : News h₀ L h10 [(R, oR), (r1, o1), (I, it)] := fun p hp => N10 p (by simp only [List.mem_cons, List.not_mem_nil, or_false] at hp ⊢; rcases hp with rfl | rfl | rfl <;> simp)
  refine iter_range (fun j m₁ news₁ => ∃ o vs, news₁ = [(R, o), (r1, o1), (I, it)] ∧ LevM m₁ v1 v2 lv r1 R i ∧ ListO o vs ∧ IntsAre vs (part false a b n (i + 1) j)) hh hr (by rw [hn]) (by omega) F10 N11
    ⟨oR, _, rfl, ⟨hs1, hs2, hlim, ⟨_, hxv⟩, rfl, rfl⟩, lR, iR⟩ ?_ ?_
  · rintro j tj m₁ news₁ h12 tk12 I' it' hj hoff ⟨o, vs, rfl, M, l, ii⟩ F12 N12
    have M' : LevM (fun y => if y = Str.ofString "y" then some (.int (j : Nat) tj) else m₁ y) v1 v2 lv r1 R i := ⟨M.s1, M.s2, M.lim, M.x, M.o, M.t⟩
    refine lev_turn G hh S1 S2 hx hy hi hj hn ha hb F12 N12 (Ne.symm (hoff (R, o) (by simp))) (Ne.symm hRr) (by simp [Ne.symm hRI]) M' rfl l l1 ii i1 ?_
    intro h' tk' m' o' vs' M2 l2 i2 F2 N2
    exact TEnd.intro F2 N2 (fun p hp => by
      simp only [List.mem_cons, List.not_mem_nil, or_false] at hp
      rcases hp with rfl | rfl | rfl
      · exact hoff (R, o) (by simp)
      · exact hoff (r1, o1) (by simp)
      · exact hoff (I, it) (by simp)) ⟨o', vs', rfl, M2, l2, i2⟩
  · rintro m₁ news₁ h12 tk12 ⟨o, vs, rfl, M, l, ii⟩ F12 N12
    rw [part_full] at ii
    obtain ⟨ms1, ms2, mlim, ⟨tx, mx⟩, mo, mt⟩ := M
    refine wpAny_execs_cons ?_
    clear F N F8 N8 F10 N10 N11 hr
    change Fr h₀ L h12 m₁ at F12
    change News h₀ L h12 _ at N12
    have fin : ∀ h' tk', Fr h₀ L h' m₁ → News h₀ L h' [(R, o), (r1, o1), (I, it)] → Q .next { s with heap := h', toks := tk' } := fun h' tk' F' N' =>
      hnext h' tk' m₁ R o vs ⟨ms1, ms2, mlim, mt⟩ l ii hRI F' fun p hp => N' p (by simp only [List.mem_cons, List.not_mem_nil, or_false] at hp ⊢; rcases hp with rfl | rfl <;> simp)
    rcases hlv with rfl | ⟨l0, tl, rfl⟩
    · walk1; walk1; walk1; walk1; walk1; walk1; walk1; walk1
      exact wpAny_execs_nil (fin _ _ F12 N12)
    · walk1; walk1; walk1; walk1; walk1
      by_cases c1 : ((l0 : Int) != 0) = true
      · rw [if_pos c1]
        walk1; walk1; walk1; walk1; walk1; walk1
        by_cases c2 : (decide ((i : Int) > (l0 : Int))) = true
        · rw [if_pos c2]
          walk1; walk1; walk1
          refine ld_builtin_at F12 G.g G.gmin G.b G.bmin ?_
          walk1; walk1; walk1; walk1
          refine min_list_N hh F12 N12 (l.isList (N12 (R, o) (by simp)).1) ii (by rw [row_len]; omega) fun h13 mn tm tk13 F13 N13 hm1 hm2 => ?_
          walk1; walk1; walk1
          by_cases c3 : (decide ((l0 : Int) < mn)) = true
          · rw [if_pos c3]
            walk1; walk1; walk1; walk1; walk1; walk1; walk1; walk1
            refine hret _ _ _ l0 tl _ rfl (by simp at c1; omega) (fun j hj => ?_) F13
            have hm := hm2 ((D false a b (i + 1) j : Nat) : Int) ?_
            · simp only [decide_eq_true_eq] at c3; omega
            · cases j with
              | zero => simp [row]
              | succ j => exact List.mem_of_getElem? (row_at false a b n (by omega))
          · rw [if_neg c3]
            walk1; walk1
            exact wpAny_execs_nil (fin _ _ F13 N13)
        · rw [if_neg c2]
          walk1; walk1
          exact wpAny_execs_nil (fin _ _ F12 N12)
      · rw [if_neg c1]
        walk1; walk1
        exact wpAny_execs_nil (fin _ _ F12 N12)
end Ky
end

section -- KyLev4
open PySem PySem.W PyProof.Rows
set_option Elab.async false
set_option maxRecDepth 100000
namespace Ky
local macro_rules | `(tactic| walk_at "eval Name") => `(tactic| refine ld (by assumption) (by first | rfl | assumption) ?_)

def LevR (lv : Value) (d r : Nat) : Prop := r = d ∨ ∃ (l : Nat) (t : Tok), lv = .int l t ∧ 0 < l ∧ l < d ∧ r = l + 1

theorem small_one' {a b : Int} (h0 : -(2 ^ 24) ≤ a) (h1 : a ≤ 2 ^ 24) (h2 : -(2 ^ 24) ≤ b ∧ b ≤ 2 ^ 24) : Builtin.Range.small a b 1 = true := by
  have hf : ∀ c : Int, -(2 ^ 26) ≤ c → c ≤ 2 ^ 26 → Builtin.Range.rangeFitsLong c = true := by
    intro c h1 h2
    unfold Builtin.Range.rangeFitsLong
    simp only [Bool.and_eq_true, decide_eq_true_eq]
    omega
  have hs : Builtin.Range.rangeSize a b 1 = ((b - a).toNat : Int) := rangeSize_nat a b
  unfold Builtin.Range.small
  rw [hs, hf a (by omega) (by omega), hf b (by omega) (by omega), hf 1 (by omega) (by omega), hf ((b - a).toNat : Int) (by omega) (by omega), if_pos (by omega), hf (b + (1 - 1)) (by omega) (by omega)]
  simp
theorem range_ints (n : Nat) : (rangeInts 1 1 n) = (List.range n).map fun j => ((j : Nat) : Int) + 1 := by
  unfold rangeInts
  apply List.map_congr_left
  intro j _
  omega

theorem lev_body {prog : Program} {w : World} {A : Around} {s : Shared} {h₀ : Heap} {mg mb : Str → Option Value} {L f : Addr} {cd : Value} {m : Str → Option Value} {Q : Flow → Shared → Prop}
    {v1 v2 lv : Value} {xs ys : List Nat} {a b : Nat → Nat} {n : Nat}
    (G : Glo h₀ mg mb) (hh : A.handled = none) (S1 : SeqV h₀ v1 xs) (S2 : SeqV h₀ v2 ys) (hx : xs.length ≤ 2 ^ 10) (hy : ys.length ≤ 2 ^ 10) (hn : ys.length = n)
    (ha : ∀ k, xs.getD k 0 = a k) (hb : ∀ k, ys.getD k 0 = b k)
    (F : Fr h₀ L s.heap m) (ms1 : m "seq1" = some v1) (ms2 : m "seq2" = some v2) (mlim : m "limit" = some lv)
    (hlv : lv = .none ∨ ∃ (l : Nat) (t : Tok), lv = .int l t)
    (hQ : ∀ h' tk' m' (r : Nat) t, LevR lv (D false a b xs.length n) r → Fr h₀ L h' m' → Q (.ret (.int r t)) { s with heap := h', toks := tk' }) :
    wpAny (model prog w) A (execs levBody (levEnv L f cd)) Q (fun _ _ => False) s := by
  have N : News h₀ L s.heap [] := News.nil
  walk1; walk1; walk1; walk1
  clear F N
  rename_i h1 F N
  walk1; walk1; walk1; walk1
  refine ld_builtin_at F G.g G.glist G.b G.blist ?_
  walk1; walk1; walk1
  refine ld_builtin_at F G.g G.grange G.b G.brange ?_
  walk1; walk1; walk1; walk1; walk1; walk1
  refine ld_builtin_at F G.g G.glen G.b G.blen ?_
  walk1; walk1; walk1; walk1
  refine len_seq (S2.fr F) (by omega) fun t2 tk2 => ?_
  walk1; walk1; walk1
  refine range2_rows F N fun h3 tk3 ta ua va hr F3 N3 _ => ?_
  walk1
  refine list_rangeD (n := n) hh F3 N3 hr ?_ ?_ (by omega) fun h4 tk4 yv F4 N4 _ hf4 hl4 _ hc4 => ?_
  · exact small_one' (by omega) (by omega) (by omega)
  · rw [rangeSize_nat]; omega
  have hi4 := PyProof.Rows.IntsAre.ofCarried hc4
  rw [range_ints] at hi4
  clear hc4
  have hRL : h3.objs.size ≠ L := Nat.ne_of_gt F3.ns.lt
  generalize h3.objs.size = R4 at *
  obtain ⟨o4, ho4, hc4, e4, hd4⟩ := hl4
  have N5 : News h₀ L h4 [(R4, o4)] := fun p hp => by
    rw [List.mem_singleton.mp hp]; exact ⟨ho4, hRL, hf4⟩
  refine List_ ?_
  walk1; walk1; walk1
  refine newList_N F4 N5 fun h6 F6 N6 => ?_
  refine add_arrays (its := yv.toArray) F6 N6 ⟨o4, (N6 (R4, o4) (by simp)).1, hc4, _, hd4⟩ (N6.isList (List.mem_cons_self ..)) (hsz := by have := hi4.length; simp at this; simp [sizeLine_eq]; omega) fun h7 F7 N7 => ?_
  have i7 : IntsAre (yv ++ [Value.int 0 tk4]) (row false a b n 0) := by
    rw [row_zero]; exact IntsAre.append hi4 (.cons _ _ .nil)
  have l7 : ListO { cls := Value.type "list", data := Data.seq (yv.toArray.toList ++ #[Value.int 0 tk4].toList).toArray } (yv ++ [Value.int 0 tk4]) := ⟨rfl, _, by simp; rfl⟩
  have N8 : News h₀ L h7 [(h6.objs.size, { cls := Value.type "list", data := Data.seq (yv.toArray.toList ++ #[Value.int 0 tk4].toList).toArray })] := fun p hp => by
    rw [List.mem_singleton.mp hp]; exact N7 _ (by simp)
  generalize ({ cls := Value.type "list", data := Data.seq (yv.toArray.toList ++ #[Value.int 0 tk4].toList).toArray } : Obj) = o7 at *
  clear N7 N6 F6 F3 N3 F4 N4 N5 F N hr
  generalize h6.objs.size = R7 at *
  walk1
  clear F7 N8
  rename_i h9 F9 N9
  refine wpAny_execs_cons (For_invV h₀ (by rfl) (by rfl) ?_ (hE := PassesOwn.never))
  walk1
  refine ld_global_at F9 G.g G.xrange ?_
  walk1; walk1; walk1
  refine ld_builtin_at F9 G.g G.glen G.b G.blen ?_
  walk1; walk1; walk1; walk1
  refine len_seq (S1.fr F9) (by omega) fun t9 tk9 => ?_
  walk1
  refine range1_rows F9 N9 fun h10 tk10 ta ua va hr F10 N10 _ => ?_
  refine iter_range (news := [(R7, o7)]) (fun i m₁ news₁ => ∃ R o vs, news₁ = [(R, o)] ∧ LevO m₁ v1 v2 lv R ∧ ListO o vs ∧ IntsAre vs (row false a b n i)) hh hr rfl (by omega) F10 N10
    ⟨R7, o7, _, rfl, ⟨ms1, ms2, mlim, rfl⟩, l7, i7⟩ ?_ ?_
  · rintro i ti m₁ news₁ h12 tk12 I it hi hoff ⟨R, o, vs, rfl, M, l, ii⟩ F12 N12
    have M' : LevO (fun y => if y = Str.ofString "x" then some (.int (i : Nat) ti) else m₁ y) v1 v2 lv R := ⟨M.s1, M.s2, M.lim, M.t⟩
    refine lev_outer G hh S1 S2 hx hy hi hn ha hb F12 N12 M' rfl l ii hlv ?_ ?_
    · intro h' tk' m' R' o' vs' M2 l2 i2 hRI F2 N2
      exact TEnd.intro F2 N2 (fun p hp => by rw [List.mem_singleton.mp hp]; exact hRI) ⟨R', o', vs', rfl, M2, l2, i2⟩
    · intro h' tk' m' l0 t t' e hl0 hrow F2
      exact hQ _ _ _ _ _ (.inr ⟨l0, t, e, hl0, row_over hi hrow, rfl⟩) F2
  · rintro m₁ news₁ h12 tk12 ⟨R, o, vs, rfl, M, l, ii⟩ F12 N12
    obtain ⟨qs1, qs2, qlim, qt⟩ := M
    change Fr h₀ L h12 m₁ at F12
    change News h₀ L h12 _ at N12
    walk1; walk1; walk1; walk1; walk1; walk1
    refine ld_builtin_at F12 G.g G.glen G.b G.blen ?_
    walk1; walk1; walk1; walk1
    refine len_seq (S2.fr F12) (by omega) fun t13 tk13 => ?_
    walk1; walk1
    obtain ⟨k, hk, hx1⟩ := row_prev false a b n (i := xs.length) (y := n) (by omega)
    rw [hn]
    refine sub_ints (l.isList (N12 (R, o) (by simp)).1) ii (by rw [row_len]; omega) hk hx1 fun t => ?_
    exact hQ _ _ _ _ _ (.inl rfl) F12
end Ky
end

section -- KyLev5
open PySem PySem.W PyProof.Rows
set_option Elab.async false
set_option maxRecDepth 100000
namespace Ky

theorem lev_call {prog : Program} {w : World} {A : Around} {s : Shared} {mg mb : Str → Option Value} {f T : Addr} {fo oT : Obj} {nT : Nat} {kV doc pm cdv ct : Value} {an : Option Addr} {R : Result → Shared → Prop}
    {v1 v2 lv : Value} {pos : List Value} {xs ys : List Nat} {a b : Nat → Nat}
    (G : Glo s.heap mg mb) (hh : A.handled = none) (hroom : A.depth < recursionLimit)
    (ho : s.heap.get? f = some fo) (hd : fo.data = .func (fnOf "levenshtein" "levenshtein" (defParams (stAt 2)) levBody levScope (.ref T) kV doc pm an cdv ct))
    (hT : s.heap.get? T = some oT) (hTd : oT.data = .seq #[.none] nT) (hcd : s.heap.CodeRec cdv "levenshtein")
    (S1 : SeqV s.heap v1 xs) (S2 : SeqV s.heap v2 ys) (hx : xs.length ≤ 2 ^ 10) (hy : ys.length ≤ 2 ^ 10)
    (ha : ∀ k, xs.getD k 0 = a k) (hb : ∀ k, ys.getD k 0 = b k)
    (hlv : lv = .none ∨ ∃ (l : Nat) (t : Tok), lv = .int l t) (hpos : pos = [v1, v2, lv] ∨ (pos = [v1, v2] ∧ lv = .none))
    (hR : ∀ h' tk' (r : Nat) t, LevR lv (D false a b xs.length ys.length) r → (∀ b o, s.heap.get? b = some o → h'.get? b = some o) → R (.ok (.ret (.int r t))) { s with heap := h', toks := tk' }) :
    codeAny (model prog w) A (.call (.ref f) ⟨pos, []⟩) R s := by
  have hbind : BindsTo s (fnOf "levenshtein" "levenshtein" (defParams (stAt 2)) levBody levScope (.ref T) kV doc pm an cdv ct) ⟨pos, []⟩ [("seq1", v1), ("seq2", v2), ("limit", lv)] := by
    rcases hpos with rfl | ⟨rfl, rfl⟩
    · exact BindsTo.of_defaults rfl hT hTd rfl rfl
    · exact BindsTo.of_defaults rfl hT hTd rfl rfl
  refine codeAny_call_def (body := levBody) hroom ho hd G.nolimit hcd rfl hbind (by show ∀ x ∈ levScope.names, x.2 ≠ .cell; decide) (locs rfl) fun h₁ hns hk => ?_
  have F : Fr s.heap s.heap.objs.size h₁ (fun x => ([("seq1", v1), ("seq2", v2), ("limit", lv)] : List (Str × Value)).reverse.lookup x) := ⟨hns, hk, Nat.le_refl _⟩
  refine wpAny_mono (lev_body (Q := fun fl s' => R (.ok (.ret (match fl with | .ret v => v | _ => .none))) s') G (A := A.deeper (levEnv s.heap.objs.size f cdv)) hh S1 S2 hx hy rfl ha hb F rfl rfl rfl hlv ?_) (fun _ _ x => x) (fun _ _ x => x.elim)
  intro h' tk' m' r t hr F'
  exact hR h' tk' r t hr F'.keep
end Ky
end

section -- KyDam2
open PySem PySem.W PyProof.Rows
set_option Elab.async false
set_option maxRecDepth 100000
namespace Ky
abbrev damScope : Scope := defScope (stAt 3)
abbrev damBody : List Stmt := defBody (stAt 3)
abbrev damOuter : List Stmt := forBody (nth damBody 2)
abbrev damInner : List Stmt := forBody (nth damOuter 1)
local macro_rules | `(tactic| walk_at "eval Name") => `(tactic| refine ld (by assumption) (by first | rfl | assumption) ?_)
abbrev damEnv (L f : Addr) (cd : Value) : Env := envOf "damerau_levenshtein" damScope L f cd

structure DamM (m : Str → Option Value) (v1 v2 lv vo : Value) (r0 r1 : Addr) (i : Nat) : Prop where
  s1 : m "seq1" = some v1
  s2 : m "seq2" = some v2
  lim : m "limit" = some lv
  x : ∃ t, m "x" = some (.int i t)
  w : m "twoago" = some vo
  o : m "oneago" = some (.ref r0)
  t : m "thisrow" = some (.ref r1)

/-- the row before the last one, where there is one -/
def Two (h : Heap) (a b : Nat → Nat) (n i : Nat) (vo : Value) : Prop := 0 < i → ∃ r vs, vo = .ref r ∧ h.IsList r vs.toArray ∧ IntsAre vs (row true a b n (i - 1))

theorem part_set_set (sw : Bool) (a b : Nat → Nat) (m i y : Nat) (c : Int) (h : y < m) : ((part sw a b m i y).set y c).set y ((D sw a b i (y + 1) : Nat) : Int) = part sw a b m i (y + 1) := by
  rw [List.set_set, part_set _ _ _ _ h]

set_option maxHeartbeats 4000000 in
theorem dam_turn {prog : Program} {w : World} {A : Around} {s : Shared} {h₀ : Heap} {mg mb : Str → Option Value} {L f : Addr} {cd : Value} {m : Str → Option Value} {Q : Flow → Shared → Prop}
    {v1 v2 lv vo : Value} {xs ys : List Nat} {a b : Nat → Nat} {n : Nat} {r0 r1 I : Addr} {it o1 o0 : Obj} {vs1 vs0 : List Value} {i j : Nat} {tj : Tok}
    (G : Glo h₀ mg mb) (hh : A.handled = none) (S1 : SeqV h₀ v1 xs) (S2 : SeqV h₀ v2 ys) (hx : xs.length ≤ 2 ^ 10) (hy : ys.length ≤ 2 ^ 10) (hi : i < xs.length) (hj : j < n) (hn : ys.length = n)
    (ha : ∀ k, xs.getD k 0 = a k) (hb : ∀ k, ys.getD k 0 = b k)
    (F : Fr h₀ L s.heap m) {rest : List (Addr × Obj)} (N : News h₀ L s.heap ((I, it) :: (r1, o1) :: (r0, o0) :: rest)) (hI1 : I ≠ r1) (h01 : r0 ≠ r1) (hr1 : ∀ p ∈ rest, p.1 ≠ r1) (M : DamM m v1 v2 lv vo r0 r1 i) (hyv : m "y" = some (.int j tj))
    (l1 : ListO o1 vs1) (l0 : ListO o0 vs0) (i1 : IntsAre vs1 (part true a b n (i + 1) j)) (i0 : IntsAre vs0 (row true a b n i))
    (h2 : 0 < i → ∃ r2 o2 vs2, vo = .ref r2 ∧ (r2, o2) ∈ rest ∧ ListO o2 vs2 ∧ IntsAre vs2 (row true a b n (i - 1)))
    (h : ∀ h' tk m' o1' vs1', DamM m' v1 v2 lv vo r0 r1 i → ListO o1' vs1' → IntsAre vs1' (part true a b n (i + 1) (j + 1)) → Fr h₀ L h' m' → News h₀ L h' ((I, it) :: (r1, o1') :: (r0, o0) :: rest) →
      Q .next { s with heap := h', toks := tk }) :
    wpAny (model prog w) A (execs damInner (damEnv L f cd)) Q (fun _ _ => False) s := by
  obtain ⟨hs1, hs2, hlim, ⟨tx, hxv⟩, hw, ho, ht⟩ := M
  have z1 := part_len true a b n (i + 1) j
  have z0 := row_len true a b n i
  -- delcost
  walk1; walk1; walk1; walk1; walk1; walk1
  refine sub_ints (l0.isList (N (r0, o0) (by simp)).1) i0 (by omega) (.inl rfl) (row_at _ _ _ _ hj) fun t => ?_
  walk1; walk1; walk1
  clear N F
  rename_i h1 F N
  -- addcost
  walk1; walk1; walk1; walk1; walk1; walk1; walk1; walk1; walk1
  obtain ⟨k, hk, hx1⟩ := part_prev true a b n (i := i + 1) (y := j) (by omega)
  refine sub_ints (l1.isList (N (r1, o1) (by simp)).1) i1 (by omega) hk hx1 fun t => ?_
  walk1; walk1; walk1
  clear N F
  rename_i h2' F N
  -- subcost
  walk1; walk1; walk1; walk1; walk1; walk1; walk1; walk1; walk1
  obtain ⟨k0, hk0, hx0⟩ := row_prev true a b n (i := i) (y := j) (by omega)
  refine sub_ints (l0.isList (N (r0, o0) (by simp)).1) i0 (by omega) hk0 hx0 fun t => ?_
  walk1; walk1; walk1; walk1
  refine sub_seq (S1.fr F) (by omega) hi fun t tk => ?_
  dsimp only
  walk1; walk1; walk1
  refine sub_seq (S2.fr F) (by omega) (by omega) fun t tk => ?_
  dsimp only
  refine ne_str ?_
  rw [one_bne, ha, hb]
  walk1; walk1
  clear N F
  rename_i h3 F N
  walk1; walk1; walk1
  refine ld_builtin_at F G.g G.gmin G.b G.bmin ?_
  walk1; walk1; walk1; walk1; walk1; walk1; walk1; walk1
  refine min3 hh F N fun h4 tk4 t4 F N => ?_
  walk1; walk1
  refine set_head (pre := [(I, it)]) F N (by simp [hI1]) (List.forall_mem_cons.mpr ⟨h01, hr1⟩) l1 i1 (by omega) (by omega) fun h5 o1' vs1' l1' i1' F N => ?_
  have e : min (min ((D true a b i (j + 1) : Nat) + 1 : Int) ((D true a b (i + 1) j : Nat) + 1 : Int)) ((D true a b i j : Nat) + (if decide (a i ≠ b j) = true then (1 : Int) else 0)) = ((B true a b i j : Nat) : Int) := by
    unfold B
    by_cases hq : a i = b j
    · simp [hq]; omega
    · simp [hq]; omega
  rw [e] at i1'
  obtain ⟨m5, F5, q1, q2, q3, q4, q5, q6, q7, q8⟩ : ∃ m5 : Str → Option Value, Fr h₀ L h5 m5 ∧ m5 "seq1" = some v1 ∧ m5 "seq2" = some v2 ∧ m5 "limit" = some lv ∧ m5 "x" = some (.int i tx) ∧ m5 "twoago" = some vo ∧ m5 "oneago" = some (.ref r0) ∧ m5 "thisrow" = some (.ref r1) ∧ m5 "y" = some (.int j tj) :=
    ⟨_, F, hs1, hs2, hlim, hxv, hw, ho, ht, hyv⟩
  clear F
  have fin : ∀ h' tk', ¬ SwC true a b i j → Fr h₀ L h' m5 → News h₀ L h' ((I, it) :: (r1, o1') :: (r0, o0) :: rest) → Q .next { s with heap := h', toks := tk' } := by
    intro h' tk' hsw F' N'
    rw [← D_nsw hsw, part_set _ _ _ _ hj] at i1'
    exact h _ _ _ _ _ ⟨q1, q2, q3, ⟨tx, q4⟩, q5, q6, q7⟩ l1' i1' F' N'
  walk1; walk1; walk1; walk1; walk1; walk1; walk1; walk1
  by_cases c1 : (decide ((i : Int) > 0)) = true
  · rw [if_pos c1]
    walk1; walk1; walk1; walk1; walk1; walk1
    by_cases c2 : (decide ((j : Int) > 0)) = true
    · rw [if_pos c2]
      simp only [decide_eq_true_eq] at c1 c2
      walk1; walk1; walk1; walk1; walk1
      refine sub_seq (S1.fr F5) (by omega) hi fun t tk => ?_
      dsimp only
      walk1; walk1; walk1; walk1; walk1; walk1
      have ej : (j : Int) - 1 = ((j - 1 : Nat) : Int) := by omega
      rw [ej]
      refine sub_seq (S2.fr F5) (by omega) (by omega) fun t tk => ?_
      dsimp only
      refine eq_str ?_
      rw [one_beq, ha, hb]
      walk1
      by_cases c3 : (decide (a i = b (j - 1))) = true
      · rw [if_pos c3]
        walk1; walk1; walk1; walk1; walk1; walk1; walk1; walk1
        have ei : (i : Int) - 1 = ((i - 1 : Nat) : Int) := by omega
        rw [ei]
        refine sub_seq (S1.fr F5) (by omega) (by omega) fun t tk => ?_
        dsimp only
        walk1; walk1; walk1
        refine sub_seq (S2.fr F5) (by omega) (by omega) fun t tk => ?_
        dsimp only
        refine eq_str ?_
        rw [one_beq, ha, hb]
        walk1
        by_cases c4 : (decide (a (i - 1) = b j)) = true
        · rw [if_pos c4]
          walk1; walk1; walk1; walk1; walk1
          refine sub_seq (S1.fr F5) (by omega) hi fun t tk => ?_
          dsimp only
          walk1; walk1; walk1
          refine sub_seq (S2.fr F5) (by omega) (by omega) fun t tk => ?_
          dsimp only
          refine ne_str ?_
          rw [one_bne, ha, hb]
          walk1
          by_cases c5 : (decide (a i ≠ b j)) = true
          · rw [if_pos c5]
            simp only [decide_eq_true_eq] at c3 c4 c5
            obtain ⟨r2, o2, vs2, rfl, hm2, l2, i2⟩ := h2 (by omega)
            walk1; walk1; walk1; walk1; walk1
            refine ld_builtin_at F5 G.g G.gmin G.b G.bmin ?_
            walk1; walk1; walk1; walk1; walk1
            refine sub_ints (l1'.isList (N (r1, o1') (by simp)).1) i1' (by rw [List.length_set]; omega) (.inl rfl) (c := ((B true a b i j : Nat) : Int)) (by rw [List.getElem?_set_self (by omega)]) fun t => ?_
            walk1; walk1; walk1; walk1; walk1; walk1; walk1; walk1
            obtain ⟨k2, hk2, hx2⟩ := row_prev true a b n (i := i - 1) (y := j - 1) (by omega)
            have ej2 : (j : Int) - 2 = ((j - 1 : Nat) : Int) - 1 := by omega
            rw [ej2]
            refine sub_ints (l2.isList (N (r2, o2) (by simp [hm2])).1) i2 (by rw [row_len]; omega) hk2 hx2 fun t => ?_
            walk1; walk1; walk1
            refine min_two_N hh F5 N fun h6 tk6 F6 N6 => ?_
            dsimp only
            have e2 : ∀ (u v : Tok), ∃ t', (Value.int (if ((D true a b (i - 1) (j - 1) : Nat) : Int) + 1 < ((B true a b i j : Nat) : Int) then ((D true a b (i - 1) (j - 1) : Nat) : Int) + 1 else ((B true a b i j : Nat) : Int)) (if ((D true a b (i - 1) (j - 1) : Nat) : Int) + 1 < ((B true a b i j : Nat) : Int) then u else v)) = Value.int ((D true a b (i + 1) (j + 1) : Nat) : Int) t' := by
              intro u v
              rw [D_sw ⟨rfl, by omega, by omega, c3, c4, c5⟩]
              refine ⟨_, congrArg (Value.int · _) ?_⟩
              split <;> omega
            obtain ⟨t7, e7⟩ := e2 _ _
            rw [e7]
            walk1; walk1
            refine set_head (pre := [(I, it)]) F6 N6 (by simp [hI1]) (List.forall_mem_cons.mpr ⟨h01, hr1⟩) l1' i1' (by rw [List.length_set]; omega) (by rw [List.length_set]; omega) fun h8 o1'' vs1'' l1'' i1'' F8 N8 => ?_
            rw [part_set_set _ _ _ _ _ _ _ hj] at i1''
            exact wpAny_execs_nil (wpAny_execs_nil (h _ _ _ _ _ ⟨q1, q2, q3, ⟨tx, q4⟩, q5, q6, q7⟩ l1'' i1'' F8 N8))
          · rw [if_neg c5]
            walk1; walk1
            simp only [decide_eq_true_eq] at c5
            refine wpAny_execs_nil (fin _ _ ?_ F5 N)
            rintro ⟨_, _, _, _, _, h6⟩; exact c5 h6
        · rw [if_neg c4]
          walk1; walk1
          simp only [decide_eq_true_eq] at c4
          refine wpAny_execs_nil (fin _ _ ?_ F5 N)
          rintro ⟨_, _, _, _, h5, _⟩; exact c4 h5
      · rw [if_neg c3]
        walk1; walk1
        simp only [decide_eq_true_eq] at c3
        refine wpAny_execs_nil (fin _ _ ?_ F5 N)
        rintro ⟨_, _, _, h4, _⟩; exact c3 h4
    · rw [if_neg c2]
      walk1; walk1
      simp only [decide_eq_true_eq] at c2
      refine wpAny_execs_nil (fin _ _ ?_ F5 N)
      rintro ⟨_, _, h3, _⟩; omega
  · rw [if_neg c1]
    walk1; walk1
    simp only [decide_eq_true_eq] at c1
    refine wpAny_execs_nil (fin _ _ ?_ F5 N)
    rintro ⟨_, h3, _⟩; omega
end Ky
end

section -- KyDam3
open PySem PySem.W PyProof.Rows
set_option Elab.async false
set_option maxRecDepth 100000
namespace Ky
local macro_rules | `(tactic| walk_at "eval Name") => `(tactic| refine ld (by assumption) (by first | rfl | assumption) ?_)
structure DamO (m : Str → Option Value) (v1 v2 lv vo : Value) (r1 : Addr) : Prop where
  s1 : m "seq1" = some v1
  s2 : m "seq2" = some v2
  lim : m "limit" = some lv
  o : m "oneago" = some vo
  t : m "thisrow" = some (.ref r1)

theorem dam_outer {prog : Program} {w : World} {A : Around} {s : Shared} {h₀ : Heap} {mg mb : Str → Option Value} {L f : Addr} {cd : Value} {m : Str → Option Value} {Q : Flow → Shared → Prop}
    {v1 v2 lv vo : Value} {xs ys : List Nat} {a b : Nat → Nat} {n : Nat} {r1 I : Addr} {it o1 : Obj} {vs1 : List Value} {i : Nat} {ti : Tok}
    (G : Glo h₀ mg mb) (hh : A.handled = none) (S1 : SeqV h₀ v1 xs) (S2 : SeqV h₀ v2 ys) (hx : xs.length ≤ 2 ^ 10) (hy : ys.length ≤ 2 ^ 10) (hi : i < xs.length) (hn : ys.length = n)
    (ha : ∀ k, xs.getD k 0 = a k) (hb : ∀ k, ys.getD k 0 = b k)
    (F : Fr h₀ L s.heap m) {rest : List (Addr × Obj)} (N : News h₀ L s.heap ((I, it) :: (r1, o1) :: rest)) (M : DamO m v1 v2 lv vo r1) (hxv : m "x" = some (.int i ti))
    (l1 : ListO o1 vs1) (i1 : IntsAre vs1 (row true a b n i)) (hrI : r1 ≠ I) (hrest : ∀ p ∈ rest, p.1 ≠ r1) (hTwo : 0 < i → ∃ r2 o2 vs2, vo = .ref r2 ∧ (r2, o2) ∈ rest ∧ ListO o2 vs2 ∧ IntsAre vs2 (row true a b n (i - 1)))
    (hlv : lv = .none ∨ ∃ (l : Nat) (t : Tok), lv = .int l t)
    (hnext : ∀ h' tk' m' R o' vs', DamO m' v1 v2 lv (.ref r1) R → ListO o' vs' → IntsAre vs' (row true a b n (i + 1)) → R ≠ I → R ≠ r1 → Fr h₀ L h' m' → News h₀ L h' [(I, it), (R, o'), (r1, o1)] → Q .next { s with heap := h', toks := tk' })
    (hret : ∀ h' tk' m' (l : Nat) t t', lv = .int l t → 0 < l → (∀ j, j ≤ n → l < D true a b (i + 1) j) → Fr h₀ L h' m' → Q (.ret (.int ((l + 1 : Nat) : Int) t')) { s with heap := h', toks := tk' }) :
    wpAny (model prog w) A (execs damOuter (damEnv L f cd)) Q (fun _ _ => False) s := by
  obtain ⟨hs1, hs2, hlim, hov, ht⟩ := M
  refine wpAny_execs_cons (Assign_Tuple_swapped (names := ["twoago", "oneago", "thisrow"]) ?_ (by rfl) (by rfl))
  refine Tuple_ ?_
  walk1; walk1; walk1; walk1; walk1; walk1; walk1; walk1; walk1; walk1; walk1
  refine newList_N F N fun h2 F2 N2 => ?_
  walk1
  refine ld_builtin_at F2 G.g G.glen G.b G.blen ?_
  walk1; walk1; walk1; walk1
  refine len_seq (S2.fr F2) (by omega) fun t2 tk2 => ?_
  refine mul_list (items := #[.int 0 s.toks]) (k := 0) F2 N2 (N2 (_, _) (List.mem_cons_self ..)).1 (by omega) (by omega) (by simp; omega) fun h3 F3 N3 => ?_
  rw [rep_is _ _ n (by omega)] at N3
  refine List_ ?_
  walk1; walk1; walk1; walk1; walk1; walk1
  refine newList_N F3 N3 fun h4 F4 N4 => ?_
  refine add_arrays (its := (List.replicate n (Value.int 0 s.toks)).toArray) F4 N4 (N4.isList (List.mem_cons_of_mem _ (List.mem_cons_self ..))) (N4.isList (List.mem_cons_self ..)) (hsz := by simp [sizeLine_eq]; omega) fun h5 F5 N5 => ?_
  walk1
  refine newTuple_N F5 N5 fun h6 F6 N6 => ?_
  refine unpackItemsN_ F6 N6 ⟨_, (N6 (_, _) (List.mem_cons_self ..)).1, rfl, _, rfl⟩ hh (by rfl) fun h7 F7 N7 => ?_
  have hRI : h4.objs.size ≠ I := Nat.ne_of_gt (Heap.lt_size (N4 (I, it) (by simp)).1)
  have hRr : h4.objs.size ≠ r1 := Nat.ne_of_gt (Heap.lt_size (N4 (r1, o1) (by simp)).1)
  have N8 : News h₀ L h7 ((I, it) :: (h4.objs.size, { cls := Value.type "list", data := Data.seq ((List.replicate n (Value.int 0 s.toks)).toArray.toList ++ #[Value.int (↑i + 1) (tk2 + 1)].toList).toArray }) :: (r1, o1) :: rest) := fun p hp => by
    simp only [List.mem_cons] at hp
    rcases hp with rfl | rfl | rfl | hp
    · exact N7 _ (by simp)
    · exact N7 _ (by simp)
    · exact N7 _ (by simp)
    · exact N7 _ (by simp [hp])
  have hRs : ∀ p ∈ rest, p.1 ≠ h4.objs.size := fun p hp => Nat.ne_of_lt (Heap.lt_size (N4 p (by simp [hp])).1)
  clear N7 N6 N5 N4 N3 N2 F6 F5 F4 F3 F2
  generalize h4.objs.size = R at *
  have iR : IntsAre (List.replicate n (Value.int 0 s.toks) ++ [Value.int (↑i + 1) (tk2 + 1)]) (part true a b n (i + 1) 0) := by
    rw [part_zero, D_col]
    exact IntsAre.append (ints_rep _ _ n) (.cons _ _ .nil)
  have lR : ListO { cls := Value.type "list", data := Data.seq ((List.replicate n (Value.int 0 s.toks)).toArray.toList ++ #[Value.int (↑i + 1) (tk2 + 1)].toList).toArray } (List.replicate n (Value.int 0 s.toks) ++ [Value.int (↑i + 1) (tk2 + 1)]) := ⟨rfl, _, by simp; rfl⟩
  generalize hoR : ({ cls := Value.type "list", data := Data.seq ((List.replicate n (Value.int 0 s.toks)).toArray.toList ++ #[Value.int (↑i + 1) (tk2 + 1)].toList).toArray } : Obj) = oR at *
  walk1; walk1; walk1; walk1; walk1; walk1; walk1; walk1; walk1; walk1
  clear F7 N8
  rename_i _ _ _ _ _ _ h8 F8 N8
  dsimp only
  refine wpAny_execs_cons (For_invV h₀ (by rfl) (by rfl) ?_ (hE := PassesOwn.never))
  walk1
  refine ld_global_at F8 G.g G.xrange ?_
  walk1; walk1; walk1
  refine ld_builtin_at F8 G.g G.glen G.b G.blen ?_
  walk1; walk1; walk1; walk1
  refine len_seq (S2.fr F8) (by omega) fun t9 tk9 => ?_
  walk1
  refine range1_rows F8 N8 fun h10 tk10 ta ua va hr F10 N10 _ => ?_
  have N11 : News h₀ L h10 ((R, oR) :: (r1, o1) :: (I, it) :: rest) := fun p hp => N10 p (by
    simp only [List.mem_cons] at hp ⊢
    rcases hp with h | h | h | h
    · exact .inr (.inl h)
    · exact .inr (.inr (.inl h))
    · exact .inl h
    · exact .inr (.inr (.inr h)))
  refine iter_range (fun j m₁ news₁ => ∃ o vs, news₁ = (R, o) :: (r1, o1) :: (I, it) :: rest ∧ DamM m₁ v1 v2 lv vo r1 R i ∧ ListO o vs ∧ IntsAre vs (part true a b n (i + 1) j)) hh hr (by rw [hn]) (by omega) F10 N11
    ⟨oR, _, rfl, ⟨hs1, hs2, hlim, ⟨_, hxv⟩, rfl, rfl, rfl⟩, lR, iR⟩ ?_ ?_
  · rintro j tj m₁ news₁ h12 tk12 I' it' hj hoff ⟨o, vs, rfl, M, l, ii⟩ F12 N12
    have M' : DamM (fun y => if y = Str.ofString "y" then some (.int (j : Nat) tj) else m₁ y) v1 v2 lv vo r1 R i := ⟨M.s1, M.s2, M.lim, M.x, M.w, M.o, M.t⟩
    refine dam_turn G hh S1 S2 hx hy hi hj hn ha hb F12 N12 (Ne.symm (hoff (R, o) (by simp))) (Ne.symm hRr) (List.forall_mem_cons.mpr ⟨Ne.symm hRI, hRs⟩) M' rfl l l1 ii i1 ?_ ?_
    · intro hi0
      obtain ⟨r2, o2, vs2, e, hm2, l2, i2⟩ := hTwo hi0
      exact ⟨r2, o2, vs2, e, List.mem_cons_of_mem _ hm2, l2, i2⟩
    · intro h' tk' m' o' vs' M2 l2 i2 F2 N2
      refine TEnd.intro F2 N2 (fun p hp => ?_) ⟨o', vs', rfl, M2, l2, i2⟩
      rcases List.mem_cons.mp hp with rfl | hp
      · exact hoff (R, o) (by simp)
      · exact hoff p (List.mem_cons_of_mem _ hp)
  · rintro m₁ news₁ h12 tk12 ⟨o, vs, rfl, M, l, ii⟩ F12 N12
    rw [part_full] at ii
    obtain ⟨ms1, ms2, mlim, ⟨tx, mx⟩, mw, mo, mt⟩ := M
    dsimp only
    refine wpAny_execs_cons ?_
    clear F N F8 N8 F10 N10 N11 hr
    change Fr h₀ L h12 m₁ at F12
    change News h₀ L h12 _ at N12
    have fin : ∀ h' tk', Fr h₀ L h' m₁ → News h₀ L h' ((R, o) :: (r1, o1) :: (I, it) :: rest) → Q .next { s with heap := h', toks := tk' } := fun h' tk' F' N' =>
      hnext h' tk' m₁ R o vs ⟨ms1, ms2, mlim, mo, mt⟩ l ii hRI hRr F' fun p hp => N' p (by simp only [List.mem_cons, List.not_mem_nil, or_false] at hp ⊢; rcases hp with rfl | rfl | rfl <;> simp)
    rcases hlv with rfl | ⟨l0, tl, rfl⟩
    · walk1; walk1; walk1; walk1; walk1; walk1; walk1; walk1
      exact wpAny_execs_nil (fin _ _ F12 N12)
    · walk1; walk1; walk1; walk1; walk1
      by_cases c1 : ((l0 : Int) != 0) = true
      · rw [if_pos c1]
        walk1; walk1; walk1; walk1; walk1; walk1
        by_cases c2 : (decide ((i : Int) > (l0 : Int))) = true
        · rw [if_pos c2]
          walk1; walk1; walk1
          refine ld_builtin_at F12 G.g G.gmin G.b G.bmin ?_
          walk1; walk1; walk1; walk1
          refine min_list_N hh F12 N12 (l.isList (N12 (R, o) (by simp)).1) ii (by rw [row_len]; omega) fun h13 mn tm tk13 F13 N13 hm1 hm2 => ?_
          walk1; walk1; walk1
          by_cases c3 : (decide ((l0 : Int) < mn)) = true
          · rw [if_pos c3]
            walk1; walk1; walk1; walk1; walk1; walk1; walk1; walk1
            refine hret _ _ _ l0 tl _ rfl (by simp at c1; omega) (fun j hj => ?_) F13
            have hm := hm2 ((D true a b (i + 1) j : Nat) : Int) ?_
            · simp only [decide_eq_true_eq] at c3; omega
            · cases j with
              | zero => simp [row]
              | succ j => exact List.mem_of_getElem? (row_at true a b n (by omega))
          · rw [if_neg c3]
            walk1; walk1
            exact wpAny_execs_nil (fin _ _ F13 N13)
        · rw [if_neg c2]
          walk1; walk1
          exact wpAny_execs_nil (fin _ _ F12 N12)
      · rw [if_neg c1]
        walk1; walk1
        exact wpAny_execs_nil (fin _ _ F12 N12)
end Ky
end

section -- KyDam4
open PySem PySem.W PyProof.Rows
set_option Elab.async false
set_option maxRecDepth 100000
namespace Ky
local macro_rules | `(tactic| walk_at "eval Name") => `(tactic| refine ld (by assumption) (by first | rfl | assumption) ?_)
theorem dam_body {prog : Program} {w : World} {A : Around} {s : Shared} {h₀ : Heap} {mg mb : Str → Option Value} {L f : Addr} {cd : Value} {m : Str → Option Value} {Q : Flow → Shared → Prop}
    {v1 v2 lv : Value} {xs ys : List Nat} {a b : Nat → Nat} {n : Nat}
    (G : Glo h₀ mg mb) (hh : A.handled = none) (S1 : SeqV h₀ v1 xs) (S2 : SeqV h₀ v2 ys) (hx : xs.length ≤ 2 ^ 10) (hy : ys.length ≤ 2 ^ 10) (hn : ys.length = n)
    (ha : ∀ k, xs.getD k 0 = a k) (hb : ∀ k, ys.getD k 0 = b k)
    (F : Fr h₀ L s.heap m) (ms1 : m "seq1" = some v1) (ms2 : m "seq2" = some v2) (mlim : m "limit" = some lv)
    (hlv : lv = .none ∨ ∃ (l : Nat) (t : Tok), lv = .int l t)
    (hQ : ∀ h' tk' m' (r : Nat) t, LevR lv (D true a b xs.length n) r → Fr h₀ L h' m' → Q (.ret (.int r t)) { s with heap := h', toks := tk' }) :
    wpAny (model prog w) A (execs damBody (damEnv L f cd)) Q (fun _ _ => False) s := by
  have N : News h₀ L s.heap [] := News.nil
  walk1; walk1; walk1; walk1
  clear F N
  rename_i h1 F N
  walk1; walk1; walk1; walk1
  refine ld_builtin_at F G.g G.glist G.b G.blist ?_
  walk1; walk1; walk1
  refine ld_builtin_at F G.g G.grange G.b G.brange ?_
  walk1; walk1; walk1; walk1; walk1; walk1
  refine ld_builtin_at F G.g G.glen G.b G.blen ?_
  walk1; walk1; walk1; walk1
  refine len_seq (S2.fr F) (by omega) fun t2 tk2 => ?_
  walk1; walk1; walk1
  refine range2_rows F N fun h3 tk3 ta ua va hr F3 N3 _ => ?_
  walk1
  refine list_rangeD (n := n) hh F3 N3 hr ?_ ?_ (by omega) fun h4 tk4 yv F4 N4 _ hf4 hl4 _ hc4 => ?_
  · exact small_one' (by omega) (by omega) (by omega)
  · rw [rangeSize_nat]; omega
  have hi4 := PyProof.Rows.IntsAre.ofCarried hc4
  rw [range_ints] at hi4
  clear hc4
  have hRL : h3.objs.size ≠ L := Nat.ne_of_gt F3.ns.lt
  generalize h3.objs.size = R4 at *
  obtain ⟨o4, ho4, hc4, e4, hd4⟩ := hl4
  have N5 : News h₀ L h4 [(R4, o4)] := fun p hp => by
    rw [List.mem_singleton.mp hp]; exact ⟨ho4, hRL, hf4⟩
  refine List_ ?_
  walk1; walk1; walk1
  refine newList_N F4 N5 fun h6 F6 N6 => ?_
  refine add_arrays (its := yv.toArray) F6 N6 ⟨o4, (N6 (R4, o4) (by simp)).1, hc4, _, hd4⟩ (N6.isList (List.mem_cons_self ..)) (hsz := by have := hi4.length; simp at this; simp [sizeLine_eq]; omega) fun h7 F7 N7 => ?_
  have i7 : IntsAre (yv ++ [Value.int 0 tk4]) (row true a b n 0) := by
    rw [row_zero]; exact IntsAre.append hi4 (.cons _ _ .nil)
  have l7 : ListO { cls := Value.type "list", data := Data.seq (yv.toArray.toList ++ #[Value.int 0 tk4].toList).toArray } (yv ++ [Value.int 0 tk4]) := ⟨rfl, _, by simp; rfl⟩
  have N8 : News h₀ L h7 [(h6.objs.size, { cls := Value.type "list", data := Data.seq (yv.toArray.toList ++ #[Value.int 0 tk4].toList).toArray })] := fun p hp => by
    rw [List.mem_singleton.mp hp]; exact N7 _ (by simp)
  generalize ({ cls := Value.type "list", data := Data.seq (yv.toArray.toList ++ #[Value.int 0 tk4].toList).toArray } : Obj) = o7 at *
  clear N7 N6 F6 F3 N3 F4 N4 N5 F N hr
  generalize h6.objs.size = R7 at *
  walk1
  clear F7 N8
  rename_i h9 F9 N9
  refine wpAny_execs_cons (For_invV h₀ (by rfl) (by rfl) ?_ (hE := PassesOwn.never))
  walk1
  refine ld_global_at F9 G.g G.xrange ?_
  walk1; walk1; walk1
  refine ld_builtin_at F9 G.g G.glen G.b G.blen ?_
  walk1; walk1; walk1; walk1
  refine len_seq (S1.fr F9) (by omega) fun t9 tk9 => ?_
  walk1
  refine range1_rows F9 N9 fun h10 tk10 ta ua va hr F10 N10 _ => ?_
  refine iter_range (news := [(R7, o7)]) (fun i m₁ news₁ => ∃ R o vs vo rest, news₁ = (R, o) :: rest ∧ DamO m₁ v1 v2 lv vo R ∧ ListO o vs ∧ IntsAre vs (row true a b n i) ∧ (∀ p ∈ rest, p.1 ≠ R) ∧
      (0 < i → ∃ r2 o2 vs2, vo = .ref r2 ∧ (r2, o2) ∈ rest ∧ ListO o2 vs2 ∧ IntsAre vs2 (row true a b n (i - 1)))) hh hr rfl (by omega) F10 N10
    ⟨R7, o7, _, .none, [], rfl, ⟨ms1, ms2, mlim, rfl, rfl⟩, l7, i7, by simp, by omega⟩ ?_ ?_
  · rintro i ti m₁ news₁ h12 tk12 I it hi hoff ⟨R, o, vs, vo, rest, rfl, M, l, ii, hrest, h2⟩ F12 N12
    have M' : DamO (fun y => if y = Str.ofString "x" then some (.int (i : Nat) ti) else m₁ y) v1 v2 lv vo R := ⟨M.s1, M.s2, M.lim, M.o, M.t⟩
    refine dam_outer G hh S1 S2 hx hy hi hn ha hb F12 N12 M' rfl l ii (hoff (R, o) (by simp)) hrest h2 hlv ?_ ?_
    · intro h' tk' m' R' o' vs' M2 l2 i2 hRI hRr F2 N2
      exact TEnd.intro F2 N2 (fun p hp => by
        simp only [List.mem_cons, List.not_mem_nil, or_false] at hp
        rcases hp with rfl | rfl
        · exact hRI
        · exact hoff (R, o) (by simp)) ⟨R', o', vs', .ref R, [(R, o)], rfl, M2, l2, i2, by simp [Ne.symm hRr], fun _ => ⟨R, o, vs, rfl, by simp, l, ii⟩⟩
    · intro h' tk' m' l0 t t' e hl0 hrow F2
      exact hQ _ _ _ _ _ (.inr ⟨l0, t, e, hl0, row_over hi hrow, rfl⟩) F2
  · rintro m₁ news₁ h12 tk12 ⟨R, o, vs, vo, rest, rfl, M, l, ii, _, _⟩ F12 N12
    obtain ⟨qs1, qs2, qlim, _, qt⟩ := M
    change Fr h₀ L h12 m₁ at F12
    change News h₀ L h12 _ at N12
    walk1; walk1; walk1; walk1; walk1; walk1
    refine ld_builtin_at F12 G.g G.glen G.b G.blen ?_
    walk1; walk1; walk1; walk1
    refine len_seq (S2.fr F12) (by omega) fun t13 tk13 => ?_
    walk1; walk1
    obtain ⟨k, hk, hx1⟩ := row_prev true a b n (i := xs.length) (y := n) (by omega)
    rw [hn]
    refine sub_ints (l.isList (N12 (R, o) (by simp)).1) ii (by rw [row_len]; omega) hk hx1 fun t => ?_
    exact hQ _ _ _ _ _ (.inl rfl) F12

theorem dam_call {prog : Program} {w : World} {A : Around} {s : Shared} {mg mb : Str → Option Value} {f T : Addr} {fo oT : Obj} {nT : Nat} {kV doc pm cdv ct : Value} {an : Option Addr} {R : Result → Shared → Prop}
    {v1 v2 lv : Value} {pos : List Value} {xs ys : List Nat} {a b : Nat → Nat}
    (G : Glo s.heap mg mb) (hh : A.handled = none) (hroom : A.depth < recursionLimit)
    (ho : s.heap.get? f = some fo) (hd : fo.data = .func (fnOf "damerau_levenshtein" "damerau_levenshtein" (defParams (stAt 3)) damBody damScope (.ref T) kV doc pm an cdv ct))
    (hT : s.heap.get? T = some oT) (hTd : oT.data = .seq #[.none] nT) (hcd : s.heap.CodeRec cdv "damerau_levenshtein")
    (S1 : SeqV s.heap v1 xs) (S2 : SeqV s.heap v2 ys) (hx : xs.length ≤ 2 ^ 10) (hy : ys.length ≤ 2 ^ 10)
    (ha : ∀ k, xs.getD k 0 = a k) (hb : ∀ k, ys.getD k 0 = b k)
    (hlv : lv = .none ∨ ∃ (l : Nat) (t : Tok), lv = .int l t) (hpos : pos = [v1, v2, lv] ∨ (pos = [v1, v2] ∧ lv = .none))
    (hR : ∀ h' tk' (r : Nat) t, LevR lv (D true a b xs.length ys.length) r → (∀ b o, s.heap.get? b = some o → h'.get? b = some o) → R (.ok (.ret (.int r t))) { s with heap := h', toks := tk' }) :
    codeAny (model prog w) A (.call (.ref f) ⟨pos, []⟩) R s := by
  have hbind : BindsTo s (fnOf "damerau_levenshtein" "damerau_levenshtein" (defParams (stAt 3)) damBody damScope (.ref T) kV doc pm an cdv ct) ⟨pos, []⟩ [("seq1", v1), ("seq2", v2), ("limit", lv)] := by
    rcases hpos with rfl | ⟨rfl, rfl⟩
    · exact BindsTo.of_defaults rfl hT hTd rfl rfl
    · exact BindsTo.of_defaults rfl hT hTd rfl rfl
  refine codeAny_call_def (body := damBody) hroom ho hd G.nolimit hcd rfl hbind (by show ∀ x ∈ damScope.names, x.2 ≠ .cell; decide) (locs rfl) fun h₁ hns hk => ?_
  have F : Fr s.heap s.heap.objs.size h₁ (fun x => ([("seq1", v1), ("seq2", v2), ("limit", lv)] : List (Str × Value)).reverse.lookup x) := ⟨hns, hk, Nat.le_refl _⟩
  refine wpAny_mono (dam_body (Q := fun fl s' => R (.ok (.ret (match fl with | .ret v => v | _ => .none))) s') G (A := A.deeper (damEnv s.heap.objs.size f cdv)) hh S1 S2 hx hy rfl ha hb F rfl rfl rfl hlv ?_) (fun _ _ x => x) (fun _ _ x => x.elim)
  intro h' tk' m' r t hr F'
  exact hR h' tk' r t hr F'.keep
end Ky
end

section -- KyTab
open PySem PySem.SetTable
set_option maxRecDepth 100000
namespace Ky

/-! pigeonholes -/
theorem nodup_le {α : Type} [DecidableEq α] : ∀ (l S : List α), l.Nodup → (∀ x ∈ l, x ∈ S) → l.length ≤ S.length
  | [], _, _, _ => Nat.zero_le _
  | x :: l, S, hn, hs => by
    obtain ⟨h1, h2⟩ := List.nodup_cons.mp hn
    have hx := hs x (List.mem_cons_self ..)
    have := nodup_le l (S.erase x) h2 fun y hy => by
      have hne : y ≠ x := by rintro rfl; exact h1 hy
      exact (List.mem_erase_of_ne hne).mpr (hs y (List.mem_cons_of_mem _ hy))
    rw [List.length_erase_of_mem hx] at this
    have : 0 < S.length := List.length_pos_of_mem hx
    simp only [List.length_cons]
    omega
theorem nodup_map {α β : Type} {f : α → β} : ∀ {l : List α}, l.Nodup → (∀ x ∈ l, ∀ y ∈ l, f x = f y → x = y) → (l.map f).Nodup
  | [], _, _ => .nil
  | x :: l, hn, hi => by
    obtain ⟨h1, h2⟩ := List.nodup_cons.mp hn
    rw [List.map_cons]
    refine List.nodup_cons.mpr ⟨fun hm => ?_, nodup_map h2 fun a ha b hb => hi a (List.mem_cons_of_mem _ ha) b (List.mem_cons_of_mem _ hb)⟩
    obtain ⟨y, hy, e⟩ := List.mem_map.mp hm
    exact h1 ((hi y (List.mem_cons_of_mem _ hy) x (List.mem_cons_self ..) e) ▸ hy)

/-! the road of a search -/
def nextP (mask : Nat) (p : Probe) : Probe :=
  if p.more > 0 then { p with j := p.j + 1, more := p.more - 1 } else
  { p with j := (leap mask p.i p.perturb).1, more := runEnd mask (leap mask p.i p.perturb).1 - (leap mask p.i p.perturb).1, i := (leap mask p.i p.perturb).1, perturb := (leap mask p.i p.perturb).2 }
def startP (mask : Nat) (h : Int) : Probe :=
  { j := bits h % (mask + 1), more := runEnd mask (bits h % (mask + 1)) - bits h % (mask + 1), i := bits h % (mask + 1), perturb := bits h, dummy := none }
theorem advance_is (t : SetTable) (p : Probe) : t.advance p = nextP t.mask p := rfl
theorem probeStart_is (t : SetTable) (h : Int) : t.probeStart h = startP t.mask h := rfl

def pathP (mask : Nat) : Nat → Probe → Probe
  | 0, p => p
  | k + 1, p => pathP mask k (nextP mask p)
def road (mask : Nat) (p : Probe) (k : Nat) : Nat := (pathP mask k p).j
/-- the places of the first n steps, as a number's bits -/
def bset (mask : Nat) : Nat → Probe → Nat
  | 0, _ => 0
  | n + 1, p => 2 ^ p.j ||| bset mask n (nextP mask p)
def vis (mask n : Nat) (p : Probe) : List Nat := (List.range (mask + 1)).filter fun x => (bset mask n p).testBit x
theorem vis_nodup (mask n : Nat) (p : Probe) : (vis mask n p).Nodup := List.nodup_range.filter _
theorem bset_bit (mask : Nat) : ∀ n p x, (bset mask n p).testBit x = true → ∃ k, k < n ∧ road mask p k = x
  | 0, _, _, h => by simp [bset] at h
  | n + 1, p, x, h => by
    unfold bset at h
    rw [Nat.testBit_or, Bool.or_eq_true] at h
    rcases h with h | h
    · rw [Nat.testBit_two_pow] at h
      exact ⟨0, by omega, of_decide_eq_true h⟩
    · obtain ⟨k, hk, e⟩ := bset_bit mask n (nextP mask p) x h
      exact ⟨k + 1, by omega, e⟩
theorem mem_vis {mask n : Nat} {p : Probe} {x : Nat} (h : x ∈ vis mask n p) : ∃ k, k < n ∧ road mask p k = x := bset_bit mask n p x (by simpa using (List.mem_filter.mp h).2)
theorem next_dummy (mask : Nat) (p : Probe) : (nextP mask p).dummy = p.dummy := by unfold nextP; split <;> rfl

def PIn (mask : Nat) (p : Probe) : Prop := p.j + p.more ≤ mask
theorem runEnd_le (mask i : Nat) (h : i ≤ mask) : i ≤ runEnd mask i ∧ runEnd mask i ≤ mask := by unfold runEnd; split <;> omega
theorem start_in (mask : Nat) (h : Int) : PIn mask (startP mask h) := by
  have h1 : bits h % (mask + 1) ≤ mask := Nat.le_of_lt_succ (Nat.mod_lt _ (Nat.succ_pos _))
  have := runEnd_le mask _ h1
  show bits h % (mask + 1) + (runEnd mask (bits h % (mask + 1)) - bits h % (mask + 1)) ≤ mask
  omega
theorem next_in (mask : Nat) (p : Probe) (h : PIn mask p) : PIn mask (nextP mask p) := by
  unfold nextP PIn at *
  split
  · show p.j + 1 + (p.more - 1) ≤ mask; omega
  · have h1 : (leap mask p.i p.perturb).1 ≤ mask := Nat.le_of_lt_succ (Nat.mod_lt _ (Nat.succ_pos _))
    have := runEnd_le mask _ h1
    show (leap mask p.i p.perturb).1 + (runEnd mask (leap mask p.i p.perturb).1 - (leap mask p.i p.perturb).1) ≤ mask
    omega
theorem path_in (mask : Nat) : ∀ k p, PIn mask p → PIn mask (pathP mask k p)
  | 0, _, h => h
  | k + 1, p, h => path_in mask k _ (next_in mask p h)
theorem road_le {mask : Nat} {p : Probe} (h : PIn mask p) (k : Nat) : road mask p k ≤ mask := by
  have := path_in mask k p h
  unfold PIn at this; unfold road; omega

/-- the first place on the road that is not taken -/
theorem first_free {mask : Nat} {p : Probe} {occ : Nat → Prop} {n : Nat} (h : ∃ k, k < n ∧ ¬ occ (road mask p k)) : ∃ K, K < n ∧ ¬ occ (road mask p K) ∧ ∀ k, k < K → occ (road mask p k) := by
  induction n with
  | zero => obtain ⟨k, hk, _⟩ := h; omega
  | succ n ih =>
    by_cases hn : ∃ k, k < n ∧ ¬ occ (road mask p k)
    · obtain ⟨K, a, b, c⟩ := ih hn
      exact ⟨K, by omega, b, c⟩
    · obtain ⟨k, hk, hno⟩ := h
      have : k = n := by
        rcases Nat.lt_or_ge k n with h1 | h1
        · exact absurd ⟨k, h1, hno⟩ hn
        · omega
      subst this
      exact ⟨k, by omega, hno, fun k' hk' => Classical.byContradiction fun hc => hn ⟨k', hk', hc⟩⟩

theorem some_free {mask n bound : Nat} {p : Probe} {S : List Nat} (hs : bound ≤ (vis mask n p).length) (hS : S.length < bound) : ∃ k, k < n ∧ ¬ road mask p k ∈ S := by
  refine Classical.byContradiction fun hc => ?_
  have := nodup_le _ S (vis_nodup mask n p) fun x hx => by
    obtain ⟨k, hk, e⟩ := mem_vis hx
    exact Classical.byContradiction fun h => hc ⟨k, hk, e ▸ h⟩
  omega

/-! the binary search -/
def Rising (xs : List Nat) : Prop := xs.Pairwise (· < ·)
theorem Rising.lt {xs : List Nat} (h : Rising xs) {i k : Nat} (hik : i < k) (hk : k < xs.length) : xs[i] < xs[k] := (List.pairwise_iff_getElem.mp h) i k (by omega) hk hik

theorem below_go (xs : List Nat) (j : Nat) (hr : Rising xs) : ∀ (fuel lo hi : Nat), hi - lo ≤ fuel → lo ≤ hi → hi ≤ xs.length → (∀ i (hi : i < xs.length), i < lo → xs[i] < j) → (∀ i (h : i < xs.length), hi ≤ i → j ≤ xs[i]) →
    ∃ r, below.go xs.toArray j fuel lo hi = r ∧ r ≤ xs.length ∧ (∀ i (hi : i < xs.length), i < r → xs[i] < j) ∧ (∀ i (h : i < xs.length), r ≤ i → j ≤ xs[i])
  | 0, lo, hi, hf, hle, hhi, h1, h2 => ⟨lo, rfl, by omega, h1, fun i h hi' => h2 i h (by omega)⟩
  | fuel + 1, lo, hi, hf, hle, hhi, h1, h2 => by
    unfold below.go
    by_cases hlt : lo < hi
    · rw [if_pos hlt]
      have hm : (lo + hi) / 2 < xs.length := by omega
      have e : xs.toArray.getD ((lo + hi) / 2) j = xs[(lo + hi) / 2] := by simp [Array.getD, hm]
      dsimp only
      rw [e]
      by_cases hc : xs[(lo + hi) / 2] < j
      · rw [if_pos hc]
        refine below_go xs j hr fuel _ _ (by omega) (by omega) hhi (fun i hi' hlt' => ?_) h2
        rcases Nat.lt_or_ge i ((lo + hi) / 2) with h3 | h3
        · exact Nat.lt_trans (hr.lt h3 hm) hc
        · have : i = (lo + hi) / 2 := by omega
          subst this; exact hc
      · rw [if_neg hc]
        refine below_go xs j hr fuel _ _ (by omega) (by omega) (by omega) h1 fun i h hge => ?_
        rcases Nat.lt_or_ge ((lo + hi) / 2) i with h3 | h3
        · exact Nat.le_of_lt (Nat.lt_of_le_of_lt (Nat.le_of_not_lt hc) (hr.lt h3 h))
        · have : i = (lo + hi) / 2 := by omega
          subst this; exact Nat.le_of_not_lt hc
    · rw [if_neg hlt]
      exact ⟨lo, rfl, by omega, h1, fun i h hi' => h2 i h (by omega)⟩
theorem below_spec (xs : List Nat) (j : Nat) (hr : Rising xs) : below xs.toArray j ≤ xs.length ∧ (∀ i (hi : i < xs.length), i < below xs.toArray j → xs[i] < j) ∧ (∀ i (h : i < xs.length), below xs.toArray j ≤ i → j ≤ xs[i]) := by
  obtain ⟨r, e, a, b, c⟩ := below_go xs j hr xs.length 0 xs.length (by omega) (by omega) (Nat.le_refl _) (fun i _ h => by omega) fun i h h' => by omega
  have : below xs.toArray j = r := by unfold below; simpa using e
  rw [this]; exact ⟨a, b, c⟩

theorem slot_live {t : SetTable} {xs : List Nat} (hp : t.place = xs.toArray) (hr : Rising xs) {i j : Nat} (hi : xs[i]? = some j) : t.slot j = .live i := by
  obtain ⟨hlt, hij⟩ := List.getElem?_eq_some_iff.mp hi
  obtain ⟨_, b, c⟩ := below_spec xs j hr
  have e : below xs.toArray j = i := by
    rcases Nat.lt_trichotomy (below xs.toArray j) i with h | h | h
    · have h1 := c _ (by omega) (Nat.le_refl _)
      have h2 := hr.lt h hlt
      omega
    · exact h
    · have := b i hlt h; omega
  unfold SetTable.slot
  rw [hp, e]
  have : (xs.toArray[i]? == some j) = true := by simp [hi]
  simp only [this, if_true]
theorem slot_empty {t : SetTable} {xs : List Nat} (hp : t.place = xs.toArray) (hd : t.dummies = #[]) {j : Nat} (hj : j ∉ xs) : t.slot j = .empty := by
  unfold SetTable.slot
  rw [hp, hd]
  have h1 : (xs.toArray[below xs.toArray j]? == some j) = false := by
    rw [Bool.eq_false_iff]
    intro h
    have h := eq_of_beq h
    rw [List.getElem?_toArray] at h
    exact hj (List.mem_of_getElem? h)
  have h2 : has #[] j = false := by
    unfold has
    simp
  simp only [h1, h2, Bool.false_eq_true, if_false]

/-! the search -/
theorem go_live {t : SetTable} {hashAt : Nat → Int} {h : Int} : ∀ (K fuel : Nat) (p : Probe) (i : Nat), K < fuel → (∀ k, k < K → ∃ i', t.slot (road t.mask p k) = .live i' ∧ hashAt i' ≠ h) → t.slot (road t.mask p K) = .live i → hashAt i = h →
    ∃ next, SetTable.probe.go t hashAt h fuel p = some (.candidate (road t.mask p K) i next)
  | 0, fuel + 1, p, i, _, _, hs, hh => by
    unfold SetTable.probe.go
    have e : t.slot p.j = .live i := hs
    rw [e]
    refine ⟨t.advance p, ?_⟩
    simp only [hh, beq_self_eq_true, if_true]
    rfl
  | K + 1, fuel + 1, p, i, hf, hk, hs, hh => by
    unfold SetTable.probe.go
    obtain ⟨i', e, hne⟩ := hk 0 (by omega)
    have e' : t.slot p.j = .live i' := e
    rw [e']
    have hb : (hashAt i' == h) = false := by simpa using hne
    simp only [hb, Bool.false_eq_true, if_false]
    rw [advance_is]
    exact go_live K fuel (nextP t.mask p) i (by omega) (fun k hk' => hk (k + 1) (by omega)) hs hh
theorem go_empty {t : SetTable} {hashAt : Nat → Int} {h : Int} : ∀ (K fuel : Nat) (p : Probe), K < fuel → p.dummy = none → (∀ k, k < K → ∃ i', t.slot (road t.mask p k) = .live i' ∧ hashAt i' ≠ h) → t.slot (road t.mask p K) = .empty →
    SetTable.probe.go t hashAt h fuel p = some (.empty (road t.mask p K) none)
  | 0, fuel + 1, p, _, hd, _, hs => by
    unfold SetTable.probe.go
    have e : t.slot p.j = .empty := hs
    rw [e]
    simp only [hd]
    rfl
  | K + 1, fuel + 1, p, hf, hd, hk, hs => by
    unfold SetTable.probe.go
    obtain ⟨i', e, hne⟩ := hk 0 (by omega)
    have e' : t.slot p.j = .live i' := e
    rw [e']
    have hb : (hashAt i' == h) = false := by simpa using hne
    simp only [hb, Bool.false_eq_true, if_false]
    rw [advance_is]
    exact go_empty K fuel (nextP t.mask p) (by omega) (by rw [next_dummy]; exact hd) (fun k hk' => hk (k + 1) (by omega)) hs
end Ky
end

section -- KyTab2
open PySem PySem.SetTable
set_option maxRecDepth 100000
namespace Ky
abbrev Row := Nat × Int × Value
def slots (rows : List Row) : List Nat := rows.map (·.1)

structure TOk (t : SetTable) (es : Array (Int × Value)) (rows : List Row) : Prop where
  place : t.place = (slots rows).toArray
  elems : es = (rows.map (·.2)).toArray
  dum : t.dummies = #[]
  ris : Rising (slots rows)
  path : ∀ r ∈ rows, ∃ K, K < 10 * turns t.mask ∧ road t.mask (startP t.mask r.2.1) K = r.1 ∧ ∀ k, k < K → road t.mask (startP t.mask r.2.1) k ∈ slots rows

def hAt (es : Array (Int × Value)) (i : Nat) : Int := (es[i]?.map (·.1)).getD 0
theorem TOk.fill {t : SetTable} {es : Array (Int × Value)} {rows : List Row} (T : TOk t es rows) : t.fill = rows.length := by
  unfold SetTable.fill; rw [T.place, T.dum]; simp [slots]
theorem TOk.size {t : SetTable} {es : Array (Int × Value)} {rows : List Row} (T : TOk t es rows) : es.size = rows.length := by
  rw [T.elems]; simp
theorem TOk.row_at {t : SetTable} {es : Array (Int × Value)} {rows : List Row} (T : TOk t es rows) {i : Nat} {r : Row} (h : rows[i]? = some r) : es[i]? = some r.2 ∧ hAt es i = r.2.1 ∧ t.slot r.1 = .live i := by
  have e : es[i]? = some r.2 := by rw [T.elems]; simp [h]
  refine ⟨e, by unfold hAt; rw [e]; rfl, slot_live T.place T.ris ?_⟩
  unfold slots; simp [h]
theorem TOk.fits {t : SetTable} {es : Array (Int × Value)} {rows : List Row} (T : TOk t es rows) (h : rows.length ≤ t.mask) : t.fits es.size = true := by
  unfold SetTable.fits
  rw [T.fill, T.size, T.place]
  simp [slots, h]

theorem TOk.present {t : SetTable} {es : Array (Int × Value)} {rows : List Row} (T : TOk t es rows) {r : Row} (hr : r ∈ rows) (hu : ∀ r' ∈ rows, r'.2.1 = r.2.1 → r' = r) :
    ∃ i next, rows[i]? = some r ∧ t.probe (hAt es) r.2.1 (t.probeStart r.2.1) = some (.candidate r.1 i next) := by
  obtain ⟨K0, hK0, e0, occ0⟩ := T.path r hr
  obtain ⟨K, hK, hKn, hKo⟩ := first_free (mask := t.mask) (p := startP t.mask r.2.1) (occ := fun x => x ≠ r.1) (n := K0 + 1) ⟨K0, by omega, by simp [e0]⟩
  have eK : road t.mask (startP t.mask r.2.1) K = r.1 := Classical.byContradiction fun h => hKn h
  obtain ⟨i, hi⟩ := List.getElem?_of_mem hr
  obtain ⟨_, h2, h3⟩ := T.row_at hi
  obtain ⟨next, e⟩ := go_live (t := t) (hashAt := hAt es) (h := r.2.1) K (10 * turns t.mask) (startP t.mask r.2.1) i (by omega) (fun k hk => by
    have hm : road t.mask (startP t.mask r.2.1) k ∈ slots rows := by
      by_cases h : k < K0
      · exact occ0 k h
      · omega
    obtain ⟨r', hr', e'⟩ := List.mem_map.mp hm
    obtain ⟨i', hi'⟩ := List.getElem?_of_mem hr'
    obtain ⟨_, h2', h3'⟩ := T.row_at hi'
    refine ⟨i', e' ▸ h3', fun hh => ?_⟩
    have := hu r' hr' (h2'.symm.trans hh)
    exact hKo k hk (by rw [← e', this])) (by rw [eK]; exact h3) h2
  rw [eK] at e
  exact ⟨i, next, hi, e⟩

theorem TOk.absent {t : SetTable} {es : Array (Int × Value)} {rows : List Row} (T : TOk t es rows) {h : Int} (hno : ∀ r ∈ rows, r.2.1 ≠ h) (hfree : ∃ k, k < 10 * turns t.mask ∧ ¬ road t.mask (startP t.mask h) k ∈ slots rows) :
    ∃ K, K < 10 * turns t.mask ∧ road t.mask (startP t.mask h) K ∉ slots rows ∧ (∀ k, k < K → road t.mask (startP t.mask h) k ∈ slots rows) ∧ t.probe (hAt es) h (t.probeStart h) = some (.empty (road t.mask (startP t.mask h) K) none) := by
  obtain ⟨K, hK, hn, ho⟩ := first_free hfree
  refine ⟨K, hK, hn, ho, go_empty K _ _ hK rfl (fun k hk => ?_) (slot_empty T.place T.dum hn)⟩
  obtain ⟨r', hr', e'⟩ := List.mem_map.mp (ho k hk)
  obtain ⟨i', hi'⟩ := List.getElem?_of_mem hr'
  obtain ⟨_, h2', h3'⟩ := T.row_at hi'
  exact ⟨i', e' ▸ h3', fun hh => hno r' hr' (h2'.symm.trans hh)⟩

theorem has_nil (j : Nat) : has #[] j = false := by unfold has; simp
theorem TOk.put {t : SetTable} {es : Array (Int × Value)} {rows : List Row} (T : TOk t es rows) {h : Int} {x : Value} {K : Nat} (hK : K < 10 * turns t.mask) (hn : road t.mask (startP t.mask h) K ∉ slots rows)
    (ho : ∀ k, k < K → road t.mask (startP t.mask h) k ∈ slots rows) :
    ∃ rows', TOk (t.put (road t.mask (startP t.mask h) K)).1 (insertAt es (t.put (road t.mask (startP t.mask h) K)).2 (h, x)) rows' ∧ rows'.length = rows.length + 1 ∧ (∀ r, r ∈ rows' ↔ r = (road t.mask (startP t.mask h) K, h, x) ∨ r ∈ rows) := by
  generalize hj : road t.mask (startP t.mask h) K = j at *
  obtain ⟨b1, b2, b3⟩ := below_spec (slots rows) j T.ris
  generalize hp : below (slots rows).toArray j = p at *
  have hlen : (slots rows).length = rows.length := by simp [slots]
  have e1 : (t.put j).1 = { t with place := insertAt t.place p j } := by
    unfold SetTable.put; rw [T.place, hp, T.dum]; simp only [has_nil, Bool.false_eq_true, if_false]
  have e2 : (t.put j).2 = p := by unfold SetTable.put; rw [T.place, hp]
  rw [e1, e2]
  have hsl : slots (rows.take p ++ (j, h, x) :: rows.drop p) = (slots rows).take p ++ j :: (slots rows).drop p := by simp [slots]
  have hm : ∀ r, r ∈ rows.take p ++ (j, h, x) :: rows.drop p ↔ r = (j, h, x) ∨ r ∈ rows := by
    intro r
    have : r ∈ rows ↔ r ∈ rows.take p ∨ r ∈ rows.drop p := by rw [← List.mem_append, List.take_append_drop]
    rw [this, List.mem_append, List.mem_cons]
    constructor
    · rintro (h | h | h)
      · exact .inr (.inl h)
      · exact .inl h
      · exact .inr (.inr h)
    · rintro (h | h | h)
      · exact .inr (.inl h)
      · exact .inl h
      · exact .inr (.inr h)
  have hms : ∀ y, y ∈ slots rows → y ∈ slots (rows.take p ++ (j, h, x) :: rows.drop p) := by
    intro y hy
    obtain ⟨r, hr, e⟩ := List.mem_map.mp hy
    exact List.mem_map.mpr ⟨r, (hm r).mpr (.inr hr), e⟩
  refine ⟨rows.take p ++ (j, h, x) :: rows.drop p, ⟨?_, ?_, T.dum, ?_, ?_⟩, ?_, hm⟩
  · show insertAt t.place p j = _
    apply Array.ext'
    rw [toList_insertAt, T.place, hsl]
  · apply Array.ext'
    rw [toList_insertAt, T.elems]
    simp
  · rw [hsl]
    unfold Rising
    rw [List.pairwise_append]
    refine ⟨T.ris.sublist (List.take_sublist _ _), ?_, ?_⟩
    · rw [List.pairwise_cons]
      refine ⟨fun y hy => ?_, T.ris.sublist (List.drop_sublist _ _)⟩
      obtain ⟨i, hi⟩ := List.getElem?_of_mem hy
      rw [List.getElem?_drop] at hi
      obtain ⟨hlt, e⟩ := List.getElem?_eq_some_iff.mp hi
      have := b3 (p + i) hlt (by omega)
      rw [e] at this
      have hne : y ≠ j := by rintro rfl; exact hn (List.mem_of_mem_drop hy)
      omega
    · intro a ha y hy
      obtain ⟨i, hi⟩ := List.getElem?_of_mem ha
      have hip : i < p := by
        have := (List.getElem?_eq_some_iff.mp hi).1
        rw [List.length_take] at this; omega
      rw [List.getElem?_take_of_lt hip] at hi
      obtain ⟨hlt, e⟩ := List.getElem?_eq_some_iff.mp hi
      have h1 := b2 i hlt hip
      rw [e] at h1
      rcases List.mem_cons.mp hy with rfl | hy
      · exact h1
      · obtain ⟨i2, hi2⟩ := List.getElem?_of_mem hy
        rw [List.getElem?_drop] at hi2
        obtain ⟨hlt2, e2⟩ := List.getElem?_eq_some_iff.mp hi2
        have := b3 (p + i2) hlt2 (by omega)
        rw [e2] at this
        omega
  · intro r hr
    rcases (hm r).mp hr with rfl | hr
    · exact ⟨K, hK, hj, fun k hk => hms _ (ho k hk)⟩
    · obtain ⟨K', a, b, c⟩ := T.path r hr
      exact ⟨K', a, b, fun k hk => hms _ (c k hk)⟩
  · simp only [List.length_append, List.length_take, List.length_cons, List.length_drop]; omega
end Ky
end

section -- KyTab3
open PySem PySem.SetTable
set_option maxRecDepth 100000
namespace Ky

/-- a run of consecutive places, then a leap -/
theorem road_run {mask : Nat} : ∀ (d : Nat) (p : Probe), d ≤ p.more → road mask p d = p.j + d ∧ pathP mask d p = { p with j := p.j + d, more := p.more - d }
  | 0, p, _ => ⟨rfl, by simp [pathP]⟩
  | d + 1, p, h => by
    have e : nextP mask p = { p with j := p.j + 1, more := p.more - 1 } := by unfold nextP; rw [if_pos (by omega)]
    obtain ⟨h1, h2⟩ := road_run d { p with j := p.j + 1, more := p.more - 1 } (by show d ≤ p.more - 1; omega)
    constructor
    · show road mask (nextP mask p) d = _
      rw [e, h1]; show p.j + 1 + d = p.j + (d + 1); omega
    · show pathP mask d (nextP mask p) = _
      rw [e, h2]
      show ({ p with j := p.j + 1 + d, more := p.more - 1 - d } : Probe) = _
      rw [show p.j + 1 + d = p.j + (d + 1) by omega, show p.more - 1 - d = p.more - (d + 1) by omega]
theorem pathP_add (mask : Nat) : ∀ (a b : Nat) (p : Probe), pathP mask (a + b) p = pathP mask b (pathP mask a p)
  | 0, b, p => by rw [Nat.zero_add]; rfl
  | a + 1, b, p => by
    rw [show a + 1 + b = (a + b) + 1 by omega]
    exact pathP_add mask a b (nextP mask p)

def runP (mask i perturb : Nat) : Probe := { j := i, more := runEnd mask i - i, i, perturb, dummy := none }
theorem run_leap (mask i perturb : Nat) : pathP mask (runEnd mask i - i + 1) (runP mask i perturb) = runP mask (leap mask i perturb).1 (leap mask i perturb).2 := by
  rw [pathP_add]
  rw [(road_run (runEnd mask i - i) (runP mask i perturb) (Nat.le_refl _)).2]
  show nextP mask _ = _
  unfold nextP
  rw [if_neg (by show ¬ (runEnd mask i - i - (runEnd mask i - i) > 0); omega)]
  rfl
theorem runEnd_short (mask i : Nat) : runEnd mask i - i + 1 ≤ 10 := by unfold runEnd; split <;> omega

theorem free_spec (owner : Array (Option Nat)) (mask : Nat) : ∀ (fuel i perturb : Nat), i ≤ mask →
    (∀ j, layClean.free mask owner fuel i perturb = some j → ∃ K, K < 10 * fuel ∧ road mask (runP mask i perturb) K = j ∧ owner.getD j (some 0) = none ∧ ∀ k, k < K → ¬ owner.getD (road mask (runP mask i perturb) k) (some 0) = none) ∧
    ((∃ k, k < fuel ∧ owner.getD (road mask (runP mask i perturb) k) (some 0) = none) → ∃ j, layClean.free mask owner fuel i perturb = some j)
  | 0, i, perturb, _ => ⟨fun j h => (by cases h), fun ⟨k, hk, _⟩ => absurd hk (Nat.not_lt_zero _)⟩
  | fuel + 1, i, perturb, hi => by
    have hrl := runEnd_le mask i hi
    have hsh := runEnd_short mask i
    have hlen : runEnd mask i + 1 - i = runEnd mask i - i + 1 := by omega
    have hroad : ∀ k, k < runEnd mask i - i + 1 → road mask (runP mask i perturb) k = i + k := fun k hk => (road_run k (runP mask i perturb) (by show k ≤ runEnd mask i - i; omega)).1
    have hbey : ∀ k, road mask (runP mask i perturb) (runEnd mask i - i + 1 + k) = road mask (runP mask (leap mask i perturb).1 (leap mask i perturb).2) k := fun k => by
      unfold road; rw [pathP_add, run_leap]
    have hl : (leap mask i perturb).1 ≤ mask := Nat.le_of_lt_succ (Nat.mod_lt _ (Nat.succ_pos _))
    obtain ⟨ih1, ih2⟩ := free_spec owner mask fuel (leap mask i perturb).1 (leap mask i perturb).2 hl
    unfold layClean.free
    rw [hlen]
    cases hf : (List.range (runEnd mask i - i + 1)).find? (fun k => (owner.getD (i + k) (some 0)).isNone) with
    | some k =>
      have hk := List.find?_some hf
      have hm := List.mem_range.mp (List.mem_of_find?_eq_some hf)
      refine ⟨fun j hj => ?_, fun _ => ⟨_, rfl⟩⟩
      have ej : i + k = j := by simpa using hj
      subst ej
      refine ⟨k, by omega, hroad k hm, by simpa using hk, fun k' hk' => ?_⟩
      rw [hroad k' (by omega)]
      have := (List.find?_range_eq_some.mp hf).2.2 k' hk'
      intro h
      simp [h] at this
    | none =>
      have hno : ∀ k, k < runEnd mask i - i + 1 → ¬ owner.getD (i + k) (some 0) = none := fun k hk h => by
        have := List.find?_eq_none.mp hf k (List.mem_range.mpr hk)
        simp [h] at this
      refine ⟨fun j hj => ?_, fun ⟨k, hk, hkn⟩ => ?_⟩
      · obtain ⟨K, a, b, c, d⟩ := ih1 j hj
        refine ⟨runEnd mask i - i + 1 + K, by omega, (hbey K).trans b, c, fun k hk => ?_⟩
        by_cases h : k < runEnd mask i - i + 1
        · rw [hroad k h]; exact hno k h
        · have : k = runEnd mask i - i + 1 + (k - (runEnd mask i - i + 1)) := by omega
          rw [this, hbey]
          exact d _ (by omega)
      · by_cases h : k < runEnd mask i - i + 1
        · rw [hroad k h] at hkn; exact absurd hkn (hno k h)
        · have : k = runEnd mask i - i + 1 + (k - (runEnd mask i - i + 1)) := by omega
          rw [this, hbey] at hkn
          exact ih2 ⟨_, by omega, hkn⟩
end Ky
end

section -- KyTab4
open PySem PySem.SetTable
set_option maxRecDepth 100000
namespace Ky
def Occ (owner : Array (Option Nat)) (y : Nat) : Prop := ∃ q : Nat, owner[y]? = some (some q)
def PathO (mask : Nat) (owner : Array (Option Nat)) (h : Int) (j : Nat) : Prop := ∃ K, K < 10 * turns mask ∧ road mask (startP mask h) K = j ∧ ∀ k, k < K → Occ owner (road mask (startP mask h) k)
structure LC (mask : Nat) (owner : Array (Option Nat)) (hs : List Int) : Prop where
  size : owner.size = mask + 1
  all : ∀ q h, hs[q]? = some h → ∃ j, owner[j]? = some (some q) ∧ PathO mask owner h j
  lt : ∀ j q : Nat, owner[j]? = some (some q) → q < hs.length
  inj : ∀ j j' q : Nat, owner[j]? = some (some q) → owner[j']? = some (some q) → j = j'

theorem getD_none {owner : Array (Option Nat)} {y : Nat} : owner.getD y (some 0) = none ↔ owner[y]? = some none := by
  rw [Array.getD_eq_getD_getElem?]
  cases h : owner[y]? with
  | none => simp
  | some o => simp
theorem occ_of {mask : Nat} {owner : Array (Option Nat)} (hs : owner.size = mask + 1) {y : Nat} (hy : y ≤ mask) (h : ¬ owner.getD y (some 0) = none) : Occ owner y := by
  rw [getD_none] at h
  have hlt : y < owner.size := by omega
  have e : owner[y]? = some owner[y] := Array.getElem?_eq_getElem hlt
  cases ho : owner[y] with
  | none => rw [e, ho] at h; exact absurd rfl h
  | some q => exact ⟨q, by rw [e, ho]⟩

theorem LC.empty (mask : Nat) : LC mask (Array.replicate (mask + 1) none) [] where
  size := by simp
  all := fun q h e => by simp at e
  lt := fun j q e => by simp [Array.getElem?_replicate] at e
  inj := fun j j' q e => by simp [Array.getElem?_replicate] at e

theorem LC.step {mask bound N : Nat} (hN : N ≤ turns mask) {owner : Array (Option Nat)} {hs : List Int} (C : LC mask owner hs) {h : Int} (hsp : bound ≤ (vis mask N (startP mask h)).length) (hb : hs.length < bound) :
    ∃ j, layClean.free mask owner (turns mask) (bits h % (mask + 1)) (bits h) = some j ∧ LC mask (owner.setIfInBounds j (some hs.length)) (hs ++ [h]) := by
  have hi : bits h % (mask + 1) ≤ mask := Nat.le_of_lt_succ (Nat.mod_lt _ (Nat.succ_pos _))
  obtain ⟨f1, f2⟩ := free_spec owner mask (turns mask) (bits h % (mask + 1)) (bits h) hi
  have hrun : runP mask (bits h % (mask + 1)) (bits h) = startP mask h := rfl
  rw [hrun] at f1 f2
  have hex : ∃ k, k < turns mask ∧ owner.getD (road mask (startP mask h) k) (some 0) = none := by
    refine Classical.byContradiction fun hc => ?_
    have hocc : ∀ y, y ∈ vis mask N (startP mask h) → Occ owner y := fun y hy => by
      obtain ⟨k, hk, e⟩ := mem_vis hy
      exact occ_of C.size (e ▸ road_le (start_in mask h) k) fun hn => hc ⟨k, Nat.lt_of_lt_of_le hk hN, e ▸ hn⟩
    let f : Nat → Nat := fun y => (owner.getD y (some 0)).getD 0
    have hf : ∀ y, y ∈ vis mask N (startP mask h) → owner[y]? = some (some (f y)) := fun y hy => by
      obtain ⟨q, hq⟩ := hocc y hy
      have : owner.getD y (some 0) = some q := by rw [Array.getD_eq_getD_getElem?, hq]; rfl
      show owner[y]? = some (some ((owner.getD y (some 0)).getD 0))
      rw [this]; exact hq
    have hnd : ((vis mask N (startP mask h)).map f).Nodup := nodup_map (vis_nodup _ _ _) fun a ha b hb' e => C.inj a b (f a) (hf a ha) (e ▸ hf b hb')
    have := nodup_le _ (List.range hs.length) hnd fun x hx => by
      obtain ⟨y, hy, e⟩ := List.mem_map.mp hx
      exact List.mem_range.mpr (e ▸ C.lt y (f y) (hf y hy))
    rw [List.length_map, List.length_range] at this
    omega
  obtain ⟨j, hj⟩ := f2 hex
  obtain ⟨K, hK, hr, hn, ho⟩ := f1 j hj
  have hjn : owner[j]? = some none := getD_none.mp hn
  have hjlt : j < owner.size := (Array.getElem?_eq_some_iff.mp hjn).1
  have get : ∀ y : Nat, (owner.setIfInBounds j (some hs.length))[y]? = if j = y then some (some hs.length) else owner[y]? := fun y => by
    rw [Array.getElem?_setIfInBounds]
    by_cases e : j = y
    · subst e; simp [hjlt]
    · simp [e]
  have occ' : ∀ y, Occ owner y → Occ (owner.setIfInBounds j (some hs.length)) y := fun y ⟨q, hq⟩ => by
    by_cases e : j = y
    · exact ⟨hs.length, by rw [get, if_pos e]⟩
    · exact ⟨q, by rw [get, if_neg e]; exact hq⟩
  refine ⟨j, hj, ⟨by simpa using C.size, fun q h' e => ?_, fun y q e => ?_, fun y y' q e e' => ?_⟩⟩
  · by_cases hq : q < hs.length
    · rw [List.getElem?_append_left hq] at e
      obtain ⟨j', h1, K', h2, h3, h4⟩ := C.all q h' e
      have hne : j ≠ j' := by rintro rfl; rw [hjn] at h1; cases h1
      exact ⟨j', by rw [get, if_neg hne]; exact h1, K', h2, h3, fun k hk => occ' _ (h4 k hk)⟩
    · rw [List.getElem?_append_right (by omega)] at e
      have hq0 : q - hs.length = 0 := by
        rcases Nat.eq_zero_or_pos (q - hs.length) with h0 | h0
        · exact h0
        · rw [List.getElem?_eq_none (by simp; omega)] at e; cases e
      have hq' : q = hs.length := by omega
      rw [hq0] at e
      simp only [List.getElem?_cons_zero, Option.some.injEq] at e
      subst e; subst hq'
      exact ⟨j, by rw [get, if_pos rfl], K, hK, hr, fun k hk => occ' _ (occ_of C.size (road_le (start_in mask h) k) (ho k hk))⟩
  · rw [get] at e
    rw [List.length_append, List.length_singleton]
    split at e
    · simp only [Option.some.injEq] at e; omega
    · have := C.lt y q e; omega
  · rw [get] at e e'
    split at e <;> split at e'
    · omega
    · simp only [Option.some.injEq] at e
      have := C.lt y' q e'; omega
    · simp only [Option.some.injEq] at e'
      have := C.lt y q e; omega
    · exact C.inj y y' q e e'

def lcStep (mask : Nat) (acc : Option (Array (Option Nat) × Nat)) (h : Int) : Option (Array (Option Nat) × Nat) := do
    let (owner, k) ← acc
    let j ← layClean.free mask owner (turns mask) (bits h % (mask + 1)) (bits h)
    pure (owner.setIfInBounds j (some k), k + 1)
theorem lc_fold {mask bound N : Nat} (hN : N ≤ turns mask) : ∀ (rest : List Int) (owner : Array (Option Nat)) (hs : List Int), LC mask owner hs → (∀ h ∈ rest, bound ≤ (vis mask N (startP mask h)).length) → hs.length + rest.length < bound + 1 →
    ∃ owner', rest.foldl (lcStep mask) (some (owner, hs.length)) = some (owner', (hs ++ rest).length) ∧ LC mask owner' (hs ++ rest)
  | [], owner, hs, C, _, _ => ⟨owner, by simp, by simpa using C⟩
  | h :: rest, owner, hs, C, hsp, hb => by
    rw [List.length_cons] at hb
    obtain ⟨j, hj, C'⟩ := C.step hN (hsp h (List.mem_cons_self ..)) (by omega)
    obtain ⟨owner', e, C''⟩ := lc_fold hN rest _ (hs ++ [h]) C' (fun h' hm => hsp h' (List.mem_cons_of_mem _ hm)) (by rw [List.length_append, List.length_singleton]; omega)
    refine ⟨owner', ?_, by simpa using C''⟩
    rw [List.foldl_cons]
    have e1 : lcStep mask (some (owner, hs.length)) h = some (owner.setIfInBounds j (some hs.length), (hs ++ [h]).length) := by
      simp [lcStep, hj]
    rw [e1, e]
    simp
theorem layClean_ok {mask bound N : Nat} (hN : N ≤ turns mask) (hashes : List Int) (hsp : ∀ h ∈ hashes, bound ≤ (vis mask N (startP mask h)).length) (hb : hashes.length < bound + 1) :
    ∃ owner, layClean mask hashes.toArray = some owner ∧ LC mask owner hashes := by
  obtain ⟨owner, e, C⟩ := lc_fold (bound := bound) hN hashes _ [] (LC.empty mask) hsp (by simpa using hb)
  refine ⟨owner, ?_, by simpa using C⟩
  have : layClean mask hashes.toArray = (hashes.foldl (lcStep mask) (some (Array.replicate (mask + 1) none, 0))).map (·.1) := by
    unfold layClean
    rw [List.foldl_toArray']
    · rfl
    · rfl
  rw [this]
  simp only [List.length_nil, List.nil_append] at e
  rw [e]; rfl
end Ky
end

section -- KyTab5
open PySem PySem.SetTable
set_option maxRecDepth 100000
namespace Ky
def liveOf (mask : Nat) (owner : Array (Option Nat)) : List (Nat × Nat) := (List.range (mask + 1)).filterMap fun j => (owner.getD j none).map (j, ·)
theorem mem_live {mask : Nat} {owner : Array (Option Nat)} (hs : owner.size = mask + 1) {j q : Nat} : (j, q) ∈ liveOf mask owner ↔ owner[j]? = some (some q) := by
  unfold liveOf
  rw [List.mem_filterMap]
  constructor
  · rintro ⟨y, hy, e⟩
    rw [Option.map_eq_some_iff] at e
    obtain ⟨q', h1, h2⟩ := e
    cases h2
    rw [Array.getD_eq_getD_getElem?] at h1
    cases h : owner[j]? with
    | none => rw [h] at h1; cases h1
    | some o => rw [h] at h1; simp only [Option.getD_some] at h1; rw [h1]
  · intro e
    have hlt := (Array.getElem?_eq_some_iff.mp e).1
    refine ⟨j, List.mem_range.mpr (by omega), ?_⟩
    rw [Array.getD_eq_getD_getElem?, e]; rfl
theorem live_rising (mask : Nat) (owner : Array (Option Nat)) : Rising ((liveOf mask owner).map (·.1)) := by
  unfold Rising liveOf
  rw [List.pairwise_map, List.pairwise_filterMap]
  refine List.Pairwise.imp ?_ (List.pairwise_lt_range (n := mask + 1))
  intro a b hab x hx y hy
  rw [Option.map_eq_some_iff] at hx hy
  obtain ⟨_, _, rfl⟩ := hx
  obtain ⟨_, _, rfl⟩ := hy
  exact hab

theorem laid_ok {t : SetTable} {es : Array (Int × Value)} {rows : List Row} (T : TOk t es rows) {mask bound N : Nat} (hN : N ≤ turns mask) (finger moves : Nat) (led plain : Bool)
    (hsp : ∀ r ∈ rows, bound ≤ (vis mask N (startP mask r.2.1)).length) (hb : rows.length < bound + 1) :
    ∃ t' order rows', laid mask finger moves led plain (es.map (·.1)) = some (t', order) ∧ TOk t' (order.filterMap (es[·]?)) rows' ∧ t'.mask = mask ∧ t'.led = led ∧ t'.moves = moves ∧ t'.plain = plain ∧ rows'.length = rows.length ∧
      (∀ x, (∃ j, (j, x) ∈ rows') ↔ ∃ j, (j, x) ∈ rows) ∧
      ((∀ r ∈ rows, ∀ r' ∈ rows, r.2.1 = r'.2.1 → r = r') → ∀ r ∈ rows', ∀ r' ∈ rows', r.2.1 = r'.2.1 → r = r') := by
  have hm : es.map (·.1) = (rows.map (·.2.1)).toArray := by rw [T.elems]; simp [Function.comp_def]
  obtain ⟨owner, ho, C⟩ := layClean_ok (mask := mask) (bound := bound) hN (rows.map (·.2.1)) (fun h hh => by
    obtain ⟨r, hr, e⟩ := List.mem_map.mp hh
    exact e ▸ hsp r hr) (by rw [List.length_map]; exact hb)
  have hlen : ∀ j q : Nat, owner[j]? = some (some q) → q < rows.length := fun j q e => by have := C.lt j q e; rwa [List.length_map] at this
  -- the new rows
  let nth : Nat → Int × Value := fun q => (rows[q]?.map (·.2)).getD (0, .none)
  have hnth : ∀ q : Nat, q < rows.length → ∃ r, rows[q]? = some r ∧ nth q = r.2 ∧ es[q]? = some r.2 := fun q hq => by
    have e : rows[q]? = some rows[q] := List.getElem?_eq_getElem hq
    refine ⟨rows[q], e, ?_, ?_⟩
    · show (rows[q]?.map (·.2)).getD (0, .none) = _
      rw [e]; rfl
    · rw [T.elems]; simp [e]
  have horder : ((liveOf mask owner).map (·.2)).toArray.filterMap (es[·]?) = ((liveOf mask owner).map fun p => nth p.2).toArray := by
    apply Array.ext'
    rw [Array.toList_filterMap]
    have : ∀ l : List (Nat × Nat), (∀ p ∈ l, p.2 < rows.length) → List.filterMap (fun x => es[x]?) (l.map (·.2)) = l.map fun p => nth p.2 := by
      intro l
      induction l with
      | nil => intro _; rfl
      | cons p l ih =>
        intro hp
        obtain ⟨r, _, h2, h3⟩ := hnth p.2 (hp p (List.mem_cons_self ..))
        rw [List.map_cons, List.filterMap_cons, h3, List.map_cons, ih fun q hq => hp q (List.mem_cons_of_mem _ hq), h2]
    exact this _ fun p hp => hlen p.1 p.2 ((mem_live C.size).mp hp)
  have hrows' : (liveOf mask owner).length = rows.length := by
    have h1 : ((liveOf mask owner).map (·.2)).Nodup := by
      have hn : (liveOf mask owner).Nodup := by
        have := live_rising mask owner
        unfold Rising at this
        rw [List.pairwise_map] at this
        exact this.imp fun {a b} h e => by rw [e] at h; exact Nat.lt_irrefl _ h
      refine nodup_map hn fun a ha b hb' e => ?_
      have e1 := (mem_live C.size (j := a.1) (q := a.2)).mp ha
      have e2 := (mem_live C.size (j := b.1) (q := b.2)).mp hb'
      rw [← e] at e2
      exact Prod.ext (C.inj _ _ _ e1 e2) e
    have a1 := nodup_le _ (List.range rows.length) h1 fun x hx => by
      obtain ⟨p, hp, e⟩ := List.mem_map.mp hx
      exact List.mem_range.mpr (e ▸ hlen p.1 p.2 ((mem_live C.size).mp hp))
    have a2 := nodup_le (List.range rows.length) ((liveOf mask owner).map (·.2)) List.nodup_range fun q hq => by
      have hq' := List.mem_range.mp hq
      have e : (rows.map (·.2.1))[q]? = some rows[q].2.1 := by simp [hq']
      obtain ⟨j, hj, _⟩ := C.all q _ e
      exact List.mem_map.mpr ⟨(j, q), (mem_live C.size).mpr hj, rfl⟩
    simp only [List.length_map, List.length_range] at a1 a2
    omega
  have hslots : slots ((liveOf mask owner).map fun p => (p.1, nth p.2)) = (liveOf mask owner).map (·.1) := by simp [slots, Function.comp_def]
  refine ⟨{ mask, place := ((liveOf mask owner).map (·.1)).toArray, dummies := #[], finger, led, moves, plain }, ((liveOf mask owner).map (·.2)).toArray, (liveOf mask owner).map fun p => (p.1, nth p.2), ?_, ⟨?_, ?_, rfl, ?_, ?_⟩, rfl, rfl, rfl, rfl, by rw [List.length_map]; exact hrows', fun x => ⟨?_, ?_⟩, ?_⟩
  · unfold laid
    rw [hm, ho]
    rfl
  · rw [hslots]
  · rw [horder]; simp [Function.comp_def]
  · rw [hslots]; exact live_rising mask owner
  · intro r hr
    obtain ⟨p, hp, e⟩ := List.mem_map.mp hr
    subst e
    have ep := (mem_live C.size (j := p.1) (q := p.2)).mp hp
    obtain ⟨r0, h1, h2, _⟩ := hnth p.2 (hlen _ _ ep)
    have e : (rows.map (·.2.1))[p.2]? = some r0.2.1 := by simp [h1]
    obtain ⟨j, hj, K, hK, hr', hocc⟩ := C.all p.2 _ e
    have hjp : p.1 = j := C.inj _ _ _ ep hj
    refine ⟨K, hK, ?_, fun k hk => ?_⟩
    · show road mask (startP mask (nth p.2).1) K = p.1
      rw [h2, hjp]; exact hr'
    · rw [hslots]
      obtain ⟨q, hq⟩ := hocc k hk
      show road mask (startP mask (nth p.2).1) k ∈ _
      rw [h2]
      exact List.mem_map.mpr ⟨(_, q), (mem_live C.size).mpr hq, rfl⟩
  · rintro ⟨j, hj⟩
    obtain ⟨p, hp, e⟩ := List.mem_map.mp hj
    cases e
    obtain ⟨r0, h1, h2, _⟩ := hnth p.2 (hlen _ _ ((mem_live C.size (j := p.1) (q := p.2)).mp hp))
    exact ⟨r0.1, by rw [h2]; exact List.mem_of_getElem? h1⟩
  · rintro ⟨j, hj⟩
    obtain ⟨q, hq⟩ := List.getElem?_of_mem hj
    have hlt := (List.getElem?_eq_some_iff.mp hq).1
    have e : (rows.map (·.2.1))[q]? = some x.1 := by simp [hq]
    obtain ⟨j', hj', _⟩ := C.all q _ e
    obtain ⟨r0, h1, h2, _⟩ := hnth q hlt
    rw [hq] at h1
    cases h1
    exact ⟨j', List.mem_map.mpr ⟨(j', q), (mem_live C.size).mpr hj', by simp [h2]⟩⟩
  · intro hu r hr r' hr' e
    obtain ⟨p, hp, ep⟩ := List.mem_map.mp hr
    obtain ⟨p', hp', ep'⟩ := List.mem_map.mp hr'
    subst ep; subst ep'
    have e1 := (mem_live C.size (j := p.1) (q := p.2)).mp hp
    have e1' := (mem_live C.size (j := p'.1) (q := p'.2)).mp hp'
    obtain ⟨r0, h1, h2, _⟩ := hnth p.2 (hlen _ _ e1)
    obtain ⟨r0', h1', h2', _⟩ := hnth p'.2 (hlen _ _ e1')
    have e2 : (nth p.2).1 = (nth p'.2).1 := e
    rw [h2, h2'] at e2
    have e3 := hu r0 (List.mem_of_getElem? h1) r0' (List.mem_of_getElem? h1') e2
    subst e3
    have hnd : rows.Nodup := by
      have := T.ris
      unfold Rising slots at this
      rw [List.pairwise_map] at this
      exact this.imp fun {a b} h e => by rw [e] at h; exact Nat.lt_irrefl _ h
    have hq : p.2 = p'.2 := by
      obtain ⟨l1, e4⟩ := List.getElem?_eq_some_iff.mp h1
      obtain ⟨l2, e5⟩ := List.getElem?_eq_some_iff.mp h1'
      exact (List.getElem_inj hnd).mp (e4.trans e5.symm)
    rw [← hq] at e1'
    have := C.inj _ _ _ e1 e1'
    simp only [this, hq]
end Ky
end

section -- KySet
open PySem PySem.SetTable PyProof.Rows
set_option maxRecDepth 100000
namespace Ky
def hk (l r : Nat) : Int := reduceHash (Builtin.Tuple.tupleHashOf [hashInt l, hashInt r])
def allHk : List Int := [-8458139203682520985, -1950498447580522560, 7204814214171964562, -4734289103435588629, 1773351652666409796, -3119722376306286570, -1010439003188656273, -5164621852614943976, 8389048192121911274, -3550055125485641917, -1440771752368011620, -6333845781340707986, 173794974761290439, -4719279054211405927, 4685526799349444076, 6794810172467074373, 1901736143494378007, 8409376899596376432, 3516302870623680066, -8422800446983873125, -6313517073866242828, 2248468952609198383, 8756109708711196808, 3863035679738500442, 5972319052856130739, 1079245023883434373, 7586885779985432798, -4352217537622120393, -6348126469135965181, 159514286966033244, -9131917124991031250, -2624276368889032825, 3883364387212965600, -1009709641759730766, 1099573731357899531, -3054609118068388172, 3453031638033610253, -5838399773923454241, 669240982178544184, -4223833046794152182, 2283807709307846243, -7007623702649218251, -5491666964808633865, 8062003079928221385, -3877100237679331806, 2630540518422666619, -6660890893534397875, -153250137432399450, -5046324166405095816]
theorem hk_nodup : allHk.Nodup := by decide +kernel
theorem hk_spread : (allHk.all fun h => decide (5 ≤ (vis 7 13 (startP 7 h)).length) && decide (19 ≤ (vis 31 90 (startP 31 h)).length) && decide (50 ≤ (vis 127 100 (startP 127 h)).length) &&
    decide (6 ≤ (vis 31 10 (startP 31 h)).length) && decide (20 ≤ (vis 127 40 (startP 127 h)).length)) = true := by decide +kernel
theorem allHk_at : ∀ l, l < 7 → ∀ r, r < 7 → allHk[7 * l + r]? = some (hk l r) := by decide +kernel
theorem mem_allHk {l r : Nat} (hl : l < 7) (hr : r < 7) : hk l r ∈ allHk := List.mem_of_getElem? (allHk_at l hl r hr)
theorem hk_inj {l r l' r' : Nat} (hl : l < 7) (hr : r < 7) (hl' : l' < 7) (hr' : r' < 7) (e : hk l r = hk l' r') : l = l' ∧ r = r' := by
  obtain ⟨h1, e1⟩ := List.getElem?_eq_some_iff.mp (allHk_at l hl r hr)
  obtain ⟨h2, e2⟩ := List.getElem?_eq_some_iff.mp (allHk_at l' hl' r' hr')
  have := (List.getElem_inj hk_nodup).mp (e1.trans (e.trans e2.symm))
  omega
theorem spread_of {l r : Nat} (hl : l < 7) (hr : r < 7) : 5 ≤ (vis 7 13 (startP 7 (hk l r))).length ∧ 19 ≤ (vis 31 90 (startP 31 (hk l r))).length ∧ 50 ≤ (vis 127 100 (startP 127 (hk l r))).length ∧
    6 ≤ (vis 31 10 (startP 31 (hk l r))).length ∧ 20 ≤ (vis 127 40 (startP 127 (hk l r))).length := by
  have := List.all_eq_true.mp hk_spread _ (mem_allHk hl hr)
  simp only [Bool.and_eq_true, decide_eq_true_eq] at this
  omega

def TupAt (h : Heap) (a : Addr) (l r : Nat) : Prop := ∃ o t u n, h.get? a = some o ∧ o.cls = .type "tuple" ∧ o.data = .seq #[.int l t, .int r u] n
theorem TupAt.keeps {h h' : Heap} {a : Addr} {l r : Nat} (T : TupAt h a l r) (e : ∀ o, h.get? a = some o → h'.get? a = some o) : TupAt h' a l r := let ⟨o, t, u, n, ho, x⟩ := T; ⟨o, t, u, n, e o ho, x⟩
theorem TupAt.isKey {prog : Program} {w : World} {h : Heap} {a : Addr} {l r : Nat} (T : TupAt h a l r) : IsTupleKey (intKind prog w) h [(l : Int), (r : Int)] a := by
  obtain ⟨o, t, u, n, ho, hc, hd⟩ := T
  exact ⟨o, _, n, ho, hc, hd, .cons (by simp [intKind, Value.isInt]) (.cons (by simp [intKind, Value.isInt]) .nil)⟩
theorem TupAt.notSet {h : Heap} {a b : Addr} {l r : Nat} {o : Obj} (T : TupAt h a l r) (ho : h.get? b = some o) (hx : o.ExactSet) : a ≠ b := by
  rintro rfl
  obtain ⟨o', _, _, _, ho', hc, _⟩ := T
  rw [ho] at ho'
  cases ho'
  rw [hx.1] at hc
  injection hc with e
  exact absurd e (by decide)

structure SOk (T : Addr → Nat → Nat → Prop) (es : Array (Int × Value)) (t : SetTable) (rows : List Row) (S : List (Nat × Nat)) : Prop where
  tok : TOk t es rows
  size : (t.mask = 7 ∧ rows.length ≤ 4) ∨ (t.mask = 31 ∧ rows.length ≤ 18) ∨ t.mask = 127
  uniq : ∀ r ∈ rows, ∀ r' ∈ rows, r.2.1 = r'.2.1 → r = r'
  key : ∀ r ∈ rows, ∃ (l rr : Nat) (a : Addr), (l, rr) ∈ S ∧ r.2 = (hk l rr, .ref a) ∧ T a l rr
  all : ∀ p ∈ S, ∃ r ∈ rows, r.2.1 = hk p.1 p.2
  small : ∀ p ∈ S, p.1 < 7 ∧ p.2 < 7
def SetO (T : Addr → Nat → Nat → Prop) (o : Obj) (S : List (Nat × Nat)) : Prop := o.ExactSet ∧ ∃ es ep t rows, o.data = .set es ep t ∧ SOk T es t rows S
def SetAt (h : Heap) (a : Addr) (S : List (Nat × Nat)) : Prop := ∃ o es ep t rows, h.get? a = some o ∧ o.ExactSet ∧ o.data = .set es ep t ∧ SOk (TupAt h) es t rows S

section
variable {T : Addr → Nat → Nat → Prop} {es : Array (Int × Value)} {t : SetTable} {rows : List Row} {S : List (Nat × Nat)}
theorem SOk.len (O : SOk T es t rows S) : rows.length ≤ 49 := by
  have hnd : (rows.map (·.2.1)).Nodup := by
    have h1 : rows.Nodup := by
      have := O.tok.ris
      unfold Rising slots at this
      rw [List.pairwise_map] at this
      exact this.imp fun {a b} h e => by rw [e] at h; exact Nat.lt_irrefl _ h
    exact nodup_map h1 O.uniq
  have := nodup_le _ allHk hnd fun x hx => by
    obtain ⟨r, hr, e⟩ := List.mem_map.mp hx
    obtain ⟨l, rr, a, hm, e2, _⟩ := O.key r hr
    obtain ⟨h1, h2⟩ := O.small _ hm
    have e3 : r.2.1 = hk l rr := by rw [e2]
    rw [← e, e3]; exact mem_allHk h1 h2
  have e : allHk.length = 49 := by decide +kernel
  rw [List.length_map] at this
  omega
theorem SOk.len_mask (O : SOk T es t rows S) : rows.length ≤ t.mask := by
  have := O.len
  rcases O.size with ⟨a, b⟩ | ⟨a, b⟩ | a <;> omega
theorem SOk.mask_odd (O : SOk T es t rows S) : t.gaveWay = false := by
  unfold SetTable.gaveWay
  rcases O.size with ⟨a, _⟩ | ⟨a, _⟩ | a <;> rw [a] <;> rfl
theorem SOk.fits (O : SOk T es t rows S) : t.fits es.size = true := O.tok.fits O.len_mask
theorem SOk.free (O : SOk T es t rows S) {l r : Nat} (hl : l < 7) (hr : r < 7) : ∃ k, k < 10 * turns t.mask ∧ ¬ road t.mask (startP t.mask (hk l r)) k ∈ slots rows := by
  obtain ⟨s1, s2, s3, _, _⟩ := spread_of hl hr
  have hl' : (slots rows).length = rows.length := by simp [slots]
  have h49 := O.len
  rcases O.size with ⟨a, b⟩ | ⟨a, b⟩ | a
  · rw [a]
    obtain ⟨k, hk, h⟩ := some_free s1 (S := slots rows) (by omega)
    exact ⟨k, by unfold turns; omega, h⟩
  · rw [a]
    obtain ⟨k, hk, h⟩ := some_free s2 (S := slots rows) (by omega)
    exact ⟨k, by unfold turns; omega, h⟩
  · rw [a]
    obtain ⟨k, hk, h⟩ := some_free s3 (S := slots rows) (by omega)
    exact ⟨k, by unfold turns; omega, h⟩
theorem SOk.keeps {T' : Addr → Nat → Nat → Prop} (O : SOk T es t rows S) (e : ∀ a l r, T a l r → T' a l r) : SOk T' es t rows S :=
  ⟨O.tok, O.size, O.uniq, fun r hr => let ⟨l, rr, a, hm, e2, T⟩ := O.key r hr; ⟨l, rr, a, hm, e2, e _ _ _ T⟩, O.all, O.small⟩
theorem SetO.keeps {T' : Addr → Nat → Nat → Prop} {o : Obj} (X : SetO T o S) (e : ∀ a l r, T a l r → T' a l r) : SetO T' o S :=
  let ⟨hx, es, ep, t, rows, hd, O⟩ := X; ⟨hx, es, ep, t, rows, hd, O.keeps e⟩
end
theorem SetO.at {T : Addr → Nat → Nat → Prop} {h : Heap} {a : Addr} {o : Obj} {S : List (Nat × Nat)} (X : SetO T o S) (ho : h.get? a = some o) (e : ∀ a l r, T a l r → TupAt h a l r) : SetAt h a S :=
  let ⟨hx, es, ep, t, rows, hd, O⟩ := X; ⟨o, es, ep, t, rows, ho, hx, hd, O.keeps e⟩
theorem SetAt.keeps {h h' : Heap} {a : Addr} {S : List (Nat × Nat)} (X : SetAt h a S) (e : ∀ b o, h.get? b = some o → h'.get? b = some o) : SetAt h' a S :=
  let ⟨o, es, ep, t, rows, ho, hx, hd, O⟩ := X
  ⟨o, es, ep, t, rows, e _ _ ho, hx, hd, O.keeps fun _ _ _ T => T.keeps fun _ => e _ _⟩
end Ky
end

section -- KySet2
open PySem PySem.SetTable PyProof.Rows
set_option maxRecDepth 100000
namespace Ky
section
variable {prog : Program} {w : World} {A : Around} {E : Value → Shared → Prop} {s : Shared} {a x : Addr} {l r : Nat} {S : List (Nat × Nat)}

theorem class_no {M : Model} {Q : Bool → Shared → Prop} (T : TupAt s.heap x l r) (h : Q false s) : wpAny M A (ofAClassStatement 8 (.ref x)) Q E s := by
  obtain ⟨o, t, u, n, ho, hc, hd⟩ := T
  have hT : s.TypeIs (.ref x) "tuple" := ⟨o, ho, hc⟩
  unfold ofAClassStatement
  refine wpAny_bind (wpAny_typeOf hT ?_)
  dsimp only
  rw [if_pos (by rfl)]
  refine wpAny_bind (wpAny_pure ?_)
  simp only [Bool.not_true, Bool.false_eq_true, if_false]
  refine wpAny_bind (wpAny_seqItems ho hd ?_)
  dsimp only
  refine wpAny_bind ?_
  rw [← Array.forIn_toList]
  refine wpAny_forIn_list _ (fun rest rr s' => rr.1 = none ∧ s' = s ∧ ∀ v ∈ rest, ∃ i t, v = .int i t) _ ?_ ?_ _ _ ⟨rfl, rfl, by simp⟩
  · rintro v rest rr s' ⟨hr, rfl, hall⟩
    obtain ⟨i, t, rfl⟩ := hall v (List.mem_cons_self ..)
    refine wpAny_bind (wpAny_pure (a := false) ?_)
    simp only [Bool.false_eq_true, if_false]
    exact wpAny_pure ⟨rfl, rfl, fun y hy => hall y (List.mem_cons_of_mem _ hy)⟩
  · rintro ⟨r1, r2⟩ s' ⟨hr, rfl, _⟩
    simp only at hr
    subst hr
    exact wpAny_pure h

/-- a second look at the one element of that hash shows nothing -/
theorem quiet_no {y : Addr} {Q : Bool → Shared → Prop} (Tx : TupAt s.heap x l r) (Ty : TupAt s.heap y l r) (h : Q false s) : wpAny (model prog w) A (searchCouldBeSeen (.ref x) [.ref y]) Q E s := by
  unfold searchCouldBeSeen
  refine wpAny_bind ?_
  refine wpAny_forIn_list _ (fun rest rr s' => rr.1 = none ∧ s' = s ∧ ∀ v ∈ rest, v = .ref y) _ ?_ ?_ _ _ ⟨rfl, rfl, by simp⟩
  · rintro v rest rr s' ⟨hr, rfl, hall⟩
    obtain rfl := hall v (List.mem_cons_self ..)
    have hrest : ∀ v ∈ rest, v = .ref y := fun v hv => hall v (List.mem_cons_of_mem _ hv)
    dsimp only
    split
    · exact wpAny_pure ⟨rfl, rfl, hrest⟩
    · refine wpAny_bind (wpAny_eqIsQuiet_tuple Tx.isKey ?_)
      simp only [Bool.not_true, Bool.false_eq_true, if_false]
      refine wpAny_bind (wpAny_eqIsQuiet_tuple Ty.isKey ?_)
      simp only [Bool.not_true, Bool.false_eq_true, if_false]
      refine wpAny_bind (class_no Tx ?_)
      simp only [Bool.false_eq_true, if_false]
      refine wpAny_bind (class_no Ty ?_)
      simp only [Bool.false_eq_true, if_false]
      exact wpAny_pure ⟨rfl, rfl, hrest⟩
  · rintro ⟨r1, r2⟩ s' ⟨hr, rfl, _⟩
    simp only at hr
    subst hr
    exact wpAny_pure h

theorem filter_one {α : Type} {x : α} {p : α → Bool} : ∀ {l : List α}, l.Nodup → x ∈ l → (∀ y ∈ l, p y = true ↔ y = x) → l.filter p = [x]
  | z :: l, hn, hx, hp => by
    obtain ⟨h1, h2⟩ := List.nodup_cons.mp hn
    rw [List.filter_cons]
    by_cases hz : z = x
    · subst hz
      rw [if_pos ((hp z (List.mem_cons_self ..)).mpr rfl)]
      have : l.filter p = [] := List.filter_eq_nil_iff.mpr fun y hy hpy => by
        have := (hp y (List.mem_cons_of_mem _ hy)).mp hpy
        subst this; exact h1 hy
      rw [this]
    · rw [if_neg fun h => hz ((hp z (List.mem_cons_self ..)).mp h)]
      refine filter_one h2 ?_ fun y hy => hp y (List.mem_cons_of_mem _ hy)
      rcases List.mem_cons.mp hx with e | e
      · exact absurd e.symm hz
      · exact e

theorem search_absent {T : Addr → Nat → Nat → Prop} {adding : Bool} {o : Obj} {es : Array (Int × Value)} {ep : Nat} {t : SetTable} {rows : List Row} {Q : SetFound → Shared → Prop}
    (ho : s.heap.get? a = some o) (hd : o.data = .set es ep t) (O : SOk T es t rows S) (hl : l < 7) (hr : r < 7) (hn : (l, r) ∉ S)
    (h : ∀ K, K < 10 * turns t.mask → road t.mask (startP t.mask (hk l r)) K ∉ slots rows → (∀ k, k < K → road t.mask (startP t.mask (hk l r)) k ∈ slots rows) → Q (.free (road t.mask (startP t.mask (hk l r)) K) false) s) :
    wpAny (model prog w) A (setSearch a (.ref x) (hk l r) adding) Q E s := by
  have hno : ∀ y ∈ rows, y.2.1 ≠ hk l r := fun y hy e => by
    obtain ⟨l', r', a', hm, e2, _⟩ := O.key y hy
    obtain ⟨h1, h2⟩ := O.small _ hm
    rw [e2] at e
    obtain ⟨rfl, rfl⟩ := hk_inj h1 h2 hl hr e
    exact hn hm
  obtain ⟨K, h1, h2, h3, h4⟩ := O.tok.absent hno (O.free hl hr)
  unfold setSearch setSearchFrom
  refine wpAny_bind (wpAny_setState_of ho hd O.fits ?_)
  dsimp only
  rw [O.mask_odd]
  simp only [Bool.false_eq_true, if_false]
  have e : (Option.getD none (t.probeStart (hk l r))) = t.probeStart (hk l r) := rfl
  rw [e]
  generalize hp : t.probe _ (hk l r) (t.probeStart (hk l r)) = pr
  obtain rfl : pr = _ := hp.symm.trans h4
  dsimp only
  exact wpAny_pure (h K h1 h2 h3)

theorem search_present {o : Obj} {es : Array (Int × Value)} {ep : Nat} {t : SetTable} {rows : List Row} {Q : SetFound → Shared → Prop} (hu : A.units < cLine)
    (ho : s.heap.get? a = some o) (hd : o.data = .set es ep t) (O : SOk (TupAt s.heap) es t rows S) (hin : (l, r) ∈ S) (Tx : TupAt s.heap x l r)
    (h : ∀ i, Q (.there (some i)) s) : wpAny (model prog w) A (setSearch a (.ref x) (hk l r) false) Q E s := by
  obtain ⟨row, hrow, eh⟩ := O.all _ hin
  obtain ⟨hl, hr⟩ := O.small _ hin
  obtain ⟨l', r', y, hm, e2, Ty⟩ := O.key row hrow
  obtain ⟨hl', hr'⟩ := O.small _ hm
  have eh' : hk l' r' = hk l r := by rw [e2] at eh; exact eh
  obtain ⟨rfl, rfl⟩ := hk_inj hl' hr' hl hr eh'
  obtain ⟨i, next, hi, h4⟩ := O.tok.present hrow fun r' hr' e => O.uniq r' hr' row hrow e
  obtain ⟨g1, g2, g3⟩ := O.tok.row_at hi
  have eh2 : row.2.1 = hk l' r' := eh
  rw [eh2] at h4
  rw [e2] at g1
  have hfil : ((es.filter (fun e => e.1 == hk l' r')).toList.map (·.2)) = [.ref y] := by
    have h1 : rows.Nodup := by
      have := O.tok.ris
      unfold Rising slots at this
      rw [List.pairwise_map] at this
      exact this.imp fun {a b} h e => by rw [e] at h; exact Nat.lt_irrefl _ h
    have h2 := filter_one (p := fun q : Row => q.2.1 == hk l' r') h1 hrow fun q hq => by
      rw [beq_iff_eq]
      exact ⟨fun e => O.uniq q hq row hrow (e.trans eh2.symm), fun e => by rw [e]; exact eh2⟩
    have h3 : (es.filter (fun e => e.1 == hk l' r')).toList = (rows.filter fun q => q.2.1 == hk l' r').map (·.2) := by
      rw [O.tok.elems]
      simp [List.filter_map, Function.comp_def]
    rw [h3, h2]
    simp [e2]
  unfold setSearch setSearchFrom
  refine wpAny_bind (wpAny_setState_of ho hd O.fits ?_)
  dsimp only
  rw [O.mask_odd]
  simp only [Bool.false_eq_true, if_false]
  have e : (Option.getD none (t.probeStart (hk l' r'))) = t.probeStart (hk l' r') := rfl
  rw [e]
  generalize hp : t.probe _ (hk l' r') (t.probeStart (hk l' r')) = pr
  obtain rfl : pr = _ := hp.symm.trans h4
  dsimp only
  have sm : t.sameMemory t.moves t.mask = some true := by unfold SetTable.sameMemory; simp
  split
  · rw [hfil]
    refine wpAny_bind (quiet_no Tx Ty ?_)
    simp only [Bool.false_eq_true, if_false]
    rw [g1]
    refine wpAny_bind (wpAny_holding (wpAny_eqBool_tuple hu Ty.isKey Tx.isKey ?_))
    refine wpAny_bind (wpAny_setState_of ho hd O.fits ?_)
    simp only [decide_true, Bool.false_and, Bool.false_eq_true, if_false, sm, if_true, g3, g1]
    refine wpAny_bind (wpAny_isSame_ref_self ?_)
    exact wpAny_bind (wpAny_pure (wpAny_pure (h i)))
  · rw [g1]
    refine wpAny_bind (wpAny_holding (wpAny_eqBool_tuple hu Ty.isKey Tx.isKey ?_))
    refine wpAny_bind (wpAny_setState_of ho hd O.fits ?_)
    simp only [decide_true, Bool.false_and, Bool.false_eq_true, if_false, sm, if_true, g3, g1]
    refine wpAny_bind (wpAny_isSame_ref_self ?_)
    exact wpAny_bind (wpAny_pure (wpAny_pure (h i)))
end
end Ky
end

section -- KySet3
open PySem PySem.SetTable PyProof.Rows
set_option maxRecDepth 100000
namespace Ky
section
variable {prog : Program} {w : World} {A : Around} {E : Value → Shared → Prop} {s : Shared} {a x : Addr} {l r : Nat} {S : List (Nat × Nat)}

theorem SetAt.typeIs (X : SetAt s.heap a S) : s.TypeIs (.ref a) "set" := let ⟨o, _, _, _, _, ho, hx, _⟩ := X; ⟨o, ho, hx.1⟩

theorem find_set {Q : Option Nat → Shared → Prop} (hu : A.units < cLine) (X : SetAt s.heap a S) (Tx : TupAt s.heap x l r) (hl : l < 7) (hr : r < 7)
    (h : ∀ i : Option Nat, i.isSome = decide ((l, r) ∈ S) → Q i s) : wpAny (model prog w) A (setFind a (.ref x) (hk l r)) Q E s := by
  obtain ⟨o, es, ep, t, rows, ho, hx, hd, O⟩ := X
  unfold setFind setFindIn
  refine wpAny_bind (wpAny_setState_of ho hd O.fits ?_)
  dsimp only
  have hb : byScan (.ref x) es = false := by simp [byScan, Value.scannable]
  rw [hb]
  simp only [Bool.false_eq_true, if_false]
  by_cases hin : (l, r) ∈ S
  · refine wpAny_bind (search_present hu ho hd O hin Tx fun i => ?_)
    exact wpAny_pure (h _ (by simp [hin]))
  · refine wpAny_bind (search_absent ho hd O hl hr hin fun K _ _ _ => ?_)
    exact wpAny_pure (h _ (by simp [hin]))

theorem contains_set {Q : Bool → Shared → Prop} (hu : A.units + 8 < cLine) (X : SetAt s.heap a S) (Tx : TupAt s.heap x l r) (hl : l < 7) (hr : r < 7)
    (h : ∀ tk, Q (decide ((l, r) ∈ S)) { s with toks := tk }) : wpAny (model prog w) A (contains (.ref a) (.ref x)) Q E s := by
  unfold contains
  try with_reducible refine wpAny_holding ?_
  refine wpAny_bind (wpAny_specialOf X.typeIs F.slot_set_contains.lookup ?_)
  show wpAny _ _ (if (some (Value.builtin "set.__contains__") == some Value.none) = true then _ else _) _ E s
  rw [if_neg (by rw [beq_builtin_none]; exact Bool.false_ne_true)]
  refine wpAny_bind (wpAny_callSpecialUnlessNone?_slot (name := Str.ofString "__contains__") X.typeIs F.slot_set_contains
    (wpAny_call_entry F.slot_set_contains X.typeIs entry_set_contains ?_ (F.args_set_contains_2 _ _)))
  unfold Builtin.«frozenset.__contains__» Builtin.Frozenset.oneOther
  simp only [List.isEmpty_nil, bind_assoc]
  unfold Builtin.Frozenset.addrOf Builtin.Frozenset.withSetAsKey setContains
  refine wpAny_bind (wpAny_pure ?_)
  try dsimp only
  refine wpAny_bind (wpAny_pure ?_)
  try dsimp only
  refine wpAny_bind (wpAny_tryCatch ?_)
  refine wpAny_holding ?_
  refine wpAny_bind (wpAny_pyHash_tuple (knd := intKind prog w) (ks := [(l : Int), (r : Int)]) (by show A.units + 1 < cLine; omega) Tx.isKey ?_)
  have eh : tupleKeyHash (intKind prog w) [(l : Int), (r : Int)] = hk l r := rfl
  rw [eh]
  refine wpAny_bind (find_set (s := { s with toks := s.toks + ([(l : Int), (r : Int)].length + 1) }) (by show A.units + 1 < cLine; omega) X Tx hl hr fun i hi => ?_)
  refine wpAny_pure ?_
  show wpAny _ _ (ret (Value.bool i.isSome)) _ _ _
  rw [hi]
  exact wpAny_pure ⟨_, rfl, wpAny_truthy_bool (h _)⟩
theorem in_set {Q : Value → Shared → Prop} (hu : A.units + 8 < cLine) (X : SetAt s.heap a S) (Tx : TupAt s.heap x l r) (hl : l < 7) (hr : r < 7)
    (h : ∀ tk, Q (.bool (decide ((l, r) ∈ S))) { s with toks := tk }) : wpAny (model prog w) A (compareOp .In (.ref x) (.ref a)) Q E s := by
  show wpAny _ _ (do return .bool (← contains (.ref a) (.ref x))) Q E s
  exact wpAny_bind (contains_set hu X Tx hl hr fun tk => wpAny_pure (h tk))
theorem notin_set {Q : Value → Shared → Prop} (hu : A.units + 8 < cLine) (X : SetAt s.heap a S) (Tx : TupAt s.heap x l r) (hl : l < 7) (hr : r < 7)
    (h : ∀ tk, Q (.bool (!decide ((l, r) ∈ S))) { s with toks := tk }) : wpAny (model prog w) A (compareOp .NotIn (.ref x) (.ref a)) Q E s := by
  show wpAny _ _ (do return .bool (!(← contains (.ref a) (.ref x)))) Q E s
  exact wpAny_bind (contains_set hu X Tx hl hr fun tk => wpAny_pure (h tk))
end
end Ky
end

section -- KySet4
open PySem PySem.SetTable PyProof.Rows
set_option maxRecDepth 100000
namespace Ky
section
variable {prog : Program} {w : World} {A : Around} {E : Value → Shared → Prop} {s : Shared} {a x : Addr} {l r : Nat} {S : List (Nat × Nat)}

theorem byValue_tuple {M : Model} {Q : Bool → Shared → Prop} (T : TupAt s.heap x l r) (h : Q true s) : wpAny M A (hashByValue 8 (.ref x)) Q E s := by
  obtain ⟨o, t, u, n, ho, hc, hd⟩ := T
  have hT : s.TypeIs (.ref x) "tuple" := ⟨o, ho, hc⟩
  unfold hashByValue
  refine wpAny_bind (wpAny_specialOf hT F.slot_tuple_hash.lookup ?_)
  dsimp only
  refine wpAny_bind (wpAny_seqItems ho hd ?_)
  refine wpAny_bind ?_
  rw [← Array.forIn_toList]
  refine wpAny_forIn_list _ (fun rest rr s' => rr.1 = none ∧ s' = s ∧ ∀ v ∈ rest, ∃ i t, v = .int i t) _ ?_ ?_ _ _ ⟨rfl, rfl, by simp⟩
  · rintro v rest rr s' ⟨hr, rfl, hall⟩
    obtain ⟨i, t, rfl⟩ := hall v (List.mem_cons_self ..)
    refine wpAny_bind (wpAny_pure (a := true) ?_)
    simp only [Bool.not_true, Bool.false_eq_true, if_false]
    exact wpAny_pure ⟨rfl, rfl, fun y hy => hall y (List.mem_cons_of_mem _ hy)⟩
  · rintro ⟨r1, r2⟩ s' ⟨hr, rfl, _⟩
    simp only at hr
    subst hr
    exact wpAny_pure h

theorem store_get {o : Obj} {es : Array (Int × Value)} {ep : Nat} {t : SetTable} {h : Heap} (ho : h.get? a = some o) (hd : o.data = .set es ep t) (es' : Array (Int × Value)) (t' : SetTable) :
    (h.update a (Obj.putSet es' t')).get? a = some { o with data := .set es' (ep + 1) t' } := by
  have := Heap.get?_update_self (Obj.putSet es' t') ho (by rw [putSet_of es' t' hd]; rfl)
  rw [putSet_of es' t' hd] at this; exact this
theorem tup_same {h h' : Heap} {o : Obj} (hs : Heap.SameBut a h h') (ho : h.get? a = some o) (hx : o.ExactSet) {b : Addr} {l r : Nat} (T : TupAt h b l r) : TupAt h' b l r :=
  T.keeps fun _ e => (hs.2 b (T.notSet ho hx)).trans e

theorem relay_set {o : Obj} {es : Array (Int × Value)} {ep : Nat} {t : SetTable} {rows : List Row} {Q : Unit → Shared → Prop} {wanted mask bound N : Nat}
    (ho : s.heap.get? a = some o) (hd : o.data = .set es ep t) (T : TOk t es rows) (hf : t.fits es.size = true) (hw : SetTable.sizeAbove wanted = mask + 1) (hm : mask ≤ 1000) (hlen : rows.length ≤ 1000) (hN : N ≤ turns mask)
    (hsp : ∀ r ∈ rows, bound ≤ (vis mask N (startP mask r.2.1)).length) (hb : rows.length < bound + 1)
    (h : ∀ es' t' rows', TOk t' es' rows' → t'.mask = mask → rows'.length = rows.length → (∀ x, (∃ j, (j, x) ∈ rows') ↔ ∃ j, (j, x) ∈ rows) → ((∀ r ∈ rows, ∀ r' ∈ rows, r.2.1 = r'.2.1 → r = r') → ∀ r ∈ rows', ∀ r' ∈ rows', r.2.1 = r'.2.1 → r = r') →
      Q () { s with heap := s.heap.update a (Obj.putSet es' t') }) :
    wpAny (model prog w) A (setRelay a wanted) Q E s := by
  obtain ⟨t', order, rows', e1, T', e2, e3, e4, e5, e6, e7, e8⟩ := laid_ok T hN t.finger (t.movedTo mask) t.led t.plain hsp hb
  have erel : t.relaid (es.map (·.1)) wanted = some (t', order) := by
    unfold SetTable.relaid
    rw [hw, Nat.add_sub_cancel]; exact e1
  have hsz : (order.filterMap (es[·]?)).size = es.size := by rw [T'.size, T.size, e6]
  unfold setRelay
  refine wpAny_bind (wpAny_setState_of ho hd hf ?_)
  dsimp only
  rw [hw, if_neg (by rw [sizeLine_eq]; omega), erel]
  refine wpAny_bind (wpAny_of_eq (a := (order.filterMap (es[·]?), t')) ?_ ?_)
  · show (if ((order.filterMap (es[·]?)).size != es.size) = true then _ else _) = _
    rw [if_neg (by simp [hsz])]
  · dsimp only
    refine wpAny_storeSet_of ho hd (h _ _ _ T' e2 e6 e7 e8) ?_
    rw [hsz, T.size, sizeLine_eq]; omega

theorem addHashed_set {T : Addr → Nat → Nat → Prop} {o : Obj} {Q : Bool → Shared → Prop} (ho : s.heap.get? a = some o) (X : SetO T o S) (hT : T x l r) (Tx : TupAt s.heap x l r) (hl : l < 7) (hr : r < 7) (hn : (l, r) ∉ S)
    (h : ∀ h' o', Heap.SameBut a s.heap h' → h'.get? a = some o' → SetO T o' ((l, r) :: S) → Q true { s with heap := h' }) : wpAny (model prog w) A (setAddHashed a (.ref x) (hk l r)) Q E s := by
  obtain ⟨hx, es, ep, t, rows, hd, O⟩ := X
  unfold setAddHashed setAddHashedIn
  refine wpAny_holding ?_
  refine wpAny_bind (wpAny_setState_of ho hd O.fits ?_)
  dsimp only
  have hb : byScan (.ref x) es = false := by simp [byScan, Value.scannable]
  rw [hb]
  simp only [Bool.false_eq_true, if_false]
  refine wpAny_bind (search_absent ho hd O hl hr hn fun K hK hKn hKo => ?_)
  dsimp only
  refine wpAny_bind (wpAny_setState_of ho hd O.fits ?_)
  dsimp only
  obtain ⟨rows1, T1, len1, mem1⟩ := O.tok.put (x := .ref x) hK hKn hKo
  have hm1 : (t.put (road t.mask (startP t.mask (hk l r)) K)).1.mask = t.mask := rfl
  generalize road t.mask (startP t.mask (hk l r)) K = slot at *
  generalize hput : t.put slot = P at *
  obtain ⟨t1, p⟩ := P
  dsimp only at T1 hm1 ⊢
  -- the new state
  have hg1 := store_get ho hd (insertAt es p (hk l r, Value.ref x)) t1
  have hs1 := Heap.SameBut.update s.heap a (Obj.putSet (insertAt es p (hk l r, Value.ref x)) t1)
  have hu1 : ∀ y ∈ rows1, ∀ y' ∈ rows1, y.2.1 = y'.2.1 → y = y' := by
    have hno : ∀ y ∈ rows, y.2.1 ≠ hk l r := fun y hy e => by
      obtain ⟨l', r', a', hm, e2, _⟩ := O.key y hy
      obtain ⟨h1, h2⟩ := O.small _ hm
      rw [e2] at e
      obtain ⟨rfl, rfl⟩ := hk_inj h1 h2 hl hr e
      exact hn hm
    intro y hy y' hy' e
    rcases (mem1 y).mp hy with h1 | h1 <;> rcases (mem1 y').mp hy' with h2 | h2
    · rw [h1, h2]
    · rw [h1] at e; exact absurd e.symm (hno y' h2)
    · rw [h2] at e; exact absurd e (hno y h1)
    · exact O.uniq y h1 y' h2 e
  have hsmall1 : ∀ q ∈ (l, r) :: S, q.1 < 7 ∧ q.2 < 7 := List.forall_mem_cons.mpr ⟨⟨hl, hr⟩, O.small⟩
  have hkey1 : ∀ y ∈ rows1, ∃ (l' rr : Nat) (a' : Addr), (l', rr) ∈ (l, r) :: S ∧ y.2 = (hk l' rr, .ref a') ∧ T a' l' rr := by
    intro y hy
    rcases (mem1 y).mp hy with h1 | h1
    · exact ⟨l, r, x, by simp, by rw [h1], hT⟩
    · obtain ⟨l', r', a', hm, e2, T'⟩ := O.key y h1
      exact ⟨l', r', a', List.mem_cons_of_mem _ hm, e2, T'⟩
  have hall1 : ∀ q ∈ (l, r) :: S, ∃ y ∈ rows1, y.2.1 = hk q.1 q.2 := by
    intro q hq
    rcases List.mem_cons.mp hq with rfl | hq
    · exact ⟨_, (mem1 _).mpr (.inl rfl), rfl⟩
    · obtain ⟨y, hy, e⟩ := O.all q hq
      exact ⟨y, (mem1 _).mpr (.inr hy), e⟩
  have hspr : ∀ y ∈ rows1, ∃ l' r', l' < 7 ∧ r' < 7 ∧ y.2.1 = hk l' r' := by
    intro y hy
    obtain ⟨l', r', a', hm, e2, _⟩ := hkey1 y hy
    obtain ⟨h1, h2⟩ := hsmall1 _ hm
    exact ⟨l', r', h1, h2, by rw [e2]⟩
  have len49 : rows1.length ≤ 49 := by
    have hnd : (rows1.map (·.2.1)).Nodup := by
      have h1 : rows1.Nodup := by
        have := T1.ris
        unfold Rising slots at this
        rw [List.pairwise_map] at this
        exact this.imp fun {a b} h e => by rw [e] at h; exact Nat.lt_irrefl _ h
      exact nodup_map h1 hu1
    have := nodup_le _ allHk hnd fun z hz => by
      obtain ⟨y, hy, e⟩ := List.mem_map.mp hz
      obtain ⟨l', r', h1, h2, e3⟩ := hspr y hy
      rw [← e, e3]; exact mem_allHk h1 h2
    have e : allHk.length = 49 := by decide +kernel
    rw [List.length_map] at this
    omega
  have full1 : t1.tooFull = decide (rows1.length * 5 ≥ t.mask * 3) := by unfold SetTable.tooFull; rw [T1.fill, hm1]
  have fits1 : rows1.length ≤ t1.mask := by
    rw [hm1]
    rcases O.size with ⟨e, b⟩ | ⟨e, b⟩ | e <;> omega
  have hsz1 : (insertAt es p (hk l r, Value.ref x)).size ≤ sizeLine := by rw [T1.size, sizeLine_eq]; omega
  have es_size : es.size = rows.length := O.tok.size
  have tail : wpAny (model prog w) A (do
      storeSet a (insertAt es p (hk l r, Value.ref x)) t1
      if (!false && t1.tooFull) = true then do
        setRelay a (grown (es.size + 1))
        pure true
      else pure true) Q E s := by
    refine wpAny_bind (wpAny_storeSet_of ho hd ?_ hsz1)
    rw [full1]
    simp only [Bool.not_false, Bool.true_and, decide_eq_true_eq]
    have relay : ∀ (wanted mask bound N : Nat), grown (es.size + 1) = wanted → sizeAbove wanted = mask + 1 → mask ≤ 1000 → N ≤ turns mask → rows1.length < bound + 1 → (∀ l' r', l' < 7 → r' < 7 → bound ≤ (vis mask N (startP mask (hk l' r'))).length) →
        ((mask = 7 ∧ rows1.length ≤ 4) ∨ (mask = 31 ∧ rows1.length ≤ 18) ∨ mask = 127) → wpAny (model prog w) A (do
        setRelay a (grown (es.size + 1))
        pure true) Q E { s with heap := s.heap.update a (Obj.putSet (insertAt es p (hk l r, Value.ref x)) t1) } := by
      intro wanted mask bound N e1 e2 e3 e4 e5 e6 e7
      rw [e1]
      refine wpAny_bind (relay_set (s := { s with heap := s.heap.update a (Obj.putSet (insertAt es p (hk l r, Value.ref x)) t1) }) hg1 rfl T1 (T1.fits fits1) e2 e3 (by omega) e4 (fun y hy => ?_) e5 fun es' t' rows' T' e8 e9 e10 e11 => ?_)
      · obtain ⟨l', r', h1, h2, e⟩ := hspr y hy
        rw [e]; exact e6 l' r' h1 h2
      · refine wpAny_pure ?_
        have hs2 := Heap.SameBut.update (s.heap.update a (Obj.putSet (insertAt es p (hk l r, Value.ref x)) t1)) a (Obj.putSet es' t')
        refine h _ _ (hs1.trans hs2) (store_get hg1 rfl es' t') ⟨hx, es', _, t', rows', rfl, T', by rw [e8, e9]; exact e7, e11 hu1, ?_, ?_, hsmall1⟩
        · intro y hy
          obtain ⟨j, hj⟩ := (e10 y.2).mp ⟨y.1, hy⟩
          exact hkey1 (j, y.2) hj
        · intro q hq
          obtain ⟨y, hy, e⟩ := hall1 q hq
          obtain ⟨j, hj⟩ := (e10 y.2).mpr ⟨y.1, hy⟩
          exact ⟨(j, y.2), hj, e⟩
    by_cases hf : rows1.length * 5 ≥ t.mask * 3
    · rw [if_pos hf]
      rcases O.size with ⟨e, b⟩ | ⟨e, b⟩ | e
      · have h5 : rows1.length = 5 := by omega
        have hw : grown (es.size + 1) = 20 := by rw [es_size, ← len1, h5]; rfl
        exact relay 20 31 6 10 hw (by rfl) (by omega) (by unfold turns; omega) (by omega) (fun l' r' h1 h2 => (spread_of h1 h2).2.2.2.1) (.inr (.inl ⟨rfl, by omega⟩))
      · have h5 : rows1.length = 19 := by omega
        have hw : grown (es.size + 1) = 76 := by rw [es_size, ← len1, h5]; rfl
        exact relay 76 127 20 40 hw (by rfl) (by omega) (by unfold turns; omega) (by omega) (fun l' r' h1 h2 => (spread_of h1 h2).2.2.2.2) (.inr (.inr rfl))
      · omega
    · rw [if_neg hf]
      refine wpAny_pure (h _ _ hs1 hg1 ⟨hx, _, _, t1, rows1, rfl, T1, ?_, hu1, hkey1, hall1, hsmall1⟩)
      rw [hm1]
      rcases O.size with ⟨e, b⟩ | ⟨e, b⟩ | e
      · exact .inl ⟨e, by omega⟩
      · exact .inr (.inl ⟨e, by omega⟩)
      · exact .inr (.inr e)
  split
  · refine wpAny_bind (byValue_tuple Tx ?_)
    exact tail
  · refine wpAny_bind (wpAny_pure ?_)
    exact tail
end
end Ky
end

section -- KySet5
open PySem PySem.SetTable PyProof.Rows
set_option maxRecDepth 100000
namespace Ky
section
variable {prog : Program} {w : World} {A : Around} {E : Value → Shared → Prop} {s : Shared} {a x : Addr} {l r : Nat} {S : List (Nat × Nat)}
theorem SetAt.noDict (X : SetAt s.heap a S) : ∀ b, Value.ref a = .ref b → ∃ ob, s.heap.get? b = some ob ∧ ob.dict = none :=
  fun b e => by injection e with e; subst e; exact let ⟨o, _, _, _, _, ho, hx, _⟩ := X; ⟨o, ho, hx.2.1⟩
theorem method_add {pl : Sem Bool} {Q : Value × List Value → Shared → Prop} (X : SetAt s.heap a S) (h : Q (.builtin "set.add", [.ref a]) s) :
    wpAny (model prog w) A (getMethod (.ref a) "add" pl) Q E s :=
  getMethod_builtin X.typeIs F.plainAttrs_set F.slot_set_add F.type_set_add X.noDict h

theorem add_set {T : Addr → Nat → Nat → Prop} {o : Obj} {Q : Value → Shared → Prop} (hu : A.units + 8 < cLine) (ho : s.heap.get? a = some o) (X0 : SetO T o S) (hTs : ∀ b l r, T b l r → TupAt s.heap b l r) (hT : T x l r) (hl : l < 7) (hr : r < 7) (hn : (l, r) ∉ S)
    (h : ∀ h' o' tk, Heap.SameBut a s.heap h' → h'.get? a = some o' → SetO T o' ((l, r) :: S) → Q .none { s with heap := h', toks := tk }) :
    wpAny (model prog w) A (call (.builtin "set.add") [.ref a, .ref x]) Q E s := by
  have X : SetAt s.heap a S := X0.at ho hTs
  have Tx := hTs _ _ _ hT
  refine wpAny_call_entry F.slot_set_add X.typeIs F.entry_set_add ?_ (F.args_set_add_2 _ _)
  unfold Builtin.«set.add» Builtin.Frozenset.oneOther
  simp only [List.isEmpty_nil, bind_assoc]
  unfold Builtin.Frozenset.addrOf setAdd
  refine wpAny_bind (wpAny_pure ?_)
  try dsimp only
  refine wpAny_bind (wpAny_pure ?_)
  try dsimp only
  refine wpAny_bind ?_
  refine wpAny_holding ?_
  refine wpAny_bind (wpAny_pyHash_tuple (knd := intKind prog w) (ks := [(l : Int), (r : Int)]) (by show A.units + 1 < cLine; omega) Tx.isKey ?_)
  have eh : tupleKeyHash (intKind prog w) [(l : Int), (r : Int)] = hk l r := rfl
  rw [eh]
  refine addHashed_set (s := { s with toks := s.toks + ([(l : Int), (r : Int)].length + 1) }) ho X0 hT Tx hl hr hn fun h' o' hsb ho' hS' => ?_
  show wpAny _ _ (ret Value.none) _ _ _
  exact wpAny_pure ⟨_, rfl, h h' o' _ hsb ho' hS'⟩

theorem SetO.new {T : Addr → Nat → Nat → Prop} (led : Bool) : SetO T { cls := .type "set", dict := none, data := .set #[] 0 (.fresh 0 0 led) } [] :=
  ⟨⟨rfl, rfl, rfl⟩, _, _, _, [], rfl, ⟨rfl, rfl, rfl, .nil, by simp⟩, .inl ⟨rfl, by simp⟩, by simp, by simp, by simp, by simp⟩
end
end Ky
end

section -- KyBfs
namespace Ky
section
variable (sw : Bool) (a b : Nat → Nat) (n m : Nat)
def Inn (p : Nat × Nat) : Prop := p.1 ≤ n ∧ p.2 ≤ m
def dist (p : Nat × Nat) : Nat := D sw a b p.1 p.2
def Zero (p : Nat × Nat) : Prop := p.1 < n ∧ p.2 < m ∧ a p.1 = b p.2
def SwE (p : Nat × Nat) : Prop := sw = true ∧ p.1 + 1 < n ∧ p.2 + 1 < m ∧ a p.1 = b (p.2 + 1) ∧ a (p.1 + 1) = b p.2
def Succ (p q : Nat × Nat) : Prop := q = (p.1 + 1, p.2) ∨ q = (p.1, p.2 + 1) ∨ q = (p.1 + 1, p.2 + 1) ∨ (SwE sw a b n m p ∧ q = (p.1 + 2, p.2 + 2))

structure Round (c : Nat) (S done : List (Nat × Nat)) (cur : Option (Nat × Nat)) (M : List (Nat × Nat)) : Prop where
  A : ∀ p ∈ S, Inn n m p ∧ dist sw a b p ≤ c
  B : ∀ p, Inn n m p → dist sw a b p < c → p ∈ S
  C : ∀ p ∈ S, dist sw a b p = c → ∀ q, Succ sw a b n m p q → q ∈ M
  Dd : ∀ q ∈ M, dist sw a b q ≤ c + 1
  E : ∀ p ∈ S, dist sw a b p = c → Zero a b n m p → (p.1 + 1, p.2 + 1) ∈ S ∨ cur = some (p.1 + 1, p.2 + 1)
  F : ∀ p ∈ done, Inn n m p → p ∈ S
  G : ∀ p, cur = some p → dist sw a b p ≤ c

structure PL (c : Nat) (P : List (Nat × Nat)) : Prop where
  le : ∀ p ∈ P, dist sw a b p ≤ c
  all : ∀ p, Inn n m p → dist sw a b p = c → ∃ p' ∈ P, ∃ k, p = (p'.1 + k, p'.2 + k) ∧ ∀ t, t < k → Zero a b n m (p'.1 + t, p'.2 + t)
end
section
variable {sw : Bool} {a b : Nat → Nat} {n m c : Nat} {S done M P : List (Nat × Nat)}
theorem succ_dist {p q : Nat × Nat} (h : Succ sw a b n m p q) : dist sw a b q ≤ dist sw a b p + 1 := by
  unfold dist
  rcases h with rfl | rfl | rfl | ⟨⟨h1, _, _, h4, h5⟩, rfl⟩
  · exact D_down _ _
  · exact D_right _ _
  · exact D_diag _ _
  · exact D_swap h1 h4 h5

theorem Round.start (h : ∀ p, p ∈ S ↔ Inn n m p ∧ dist sw a b p < c) : Round sw a b n m c S [] none [] where
  A := fun p hp => ⟨((h p).mp hp).1, Nat.le_of_lt ((h p).mp hp).2⟩
  B := fun p h1 h2 => (h p).mpr ⟨h1, h2⟩
  C := fun p hp e => absurd ((h p).mp hp).2 (by omega)
  Dd := fun q hq => by cases hq
  E := fun p hp e => absurd ((h p).mp hp).2 (by omega)
  F := fun p hp => by cases hp
  G := fun p hp => by cases hp

theorem Round.take (R : Round sw a b n m c S done none M) {p : Nat × Nat} (hp : dist sw a b p ≤ c) : Round sw a b n m c S done (some p) M where
  A := R.A
  B := R.B
  C := R.C
  Dd := R.Dd
  E := fun q hq e z => (R.E q hq e z).elim .inl fun h => by cases h
  F := R.F
  G := fun q e => by cases e; exact hp

theorem Round.step {p p' : Nat × Nat} {M' : List (Nat × Nat)} (R : Round sw a b n m c S done (some p) M) (hin : Inn n m p) (_hn : p ∉ S) (hM : ∀ q, q ∈ M' ↔ q ∈ M ∨ Succ sw a b n m p q)
    (hz : (Zero a b n m p ∧ p' = (p.1 + 1, p.2 + 1)) ∨ (¬ Zero a b n m p ∧ p' = p)) : Round sw a b n m c (p :: S) done (some p') M' := by
  have hd := R.G p rfl
  refine ⟨?_, ?_, ?_, ?_, ?_, ?_, ?_⟩
  · exact List.forall_mem_cons.mpr ⟨⟨hin, hd⟩, R.A⟩
  · exact fun q h1 h2 => List.mem_cons_of_mem _ (R.B q h1 h2)
  · intro q hq e r hr
    rcases List.mem_cons.mp hq with rfl | hq
    · exact (hM r).mpr (.inr hr)
    · exact (hM r).mpr (.inl (R.C q hq e r hr))
  · intro q hq
    rcases (hM q).mp hq with hq | hq
    · exact R.Dd q hq
    · have := succ_dist hq; omega
  · intro q hq e z
    rcases List.mem_cons.mp hq with rfl | hq
    · rcases hz with ⟨_, e'⟩ | ⟨hnz, _⟩
      · exact .inr (by rw [e'])
      · exact absurd z hnz
    · rcases R.E q hq e z with h | h
      · exact .inl (List.mem_cons_of_mem _ h)
      · cases h; exact .inl (List.mem_cons_self ..)
  · exact fun q h1 h2 => List.mem_cons_of_mem _ (R.F q h1 h2)
  · intro q e
    cases e
    rcases hz with ⟨⟨_, _, hz⟩, e'⟩ | ⟨_, e'⟩
    · rw [e']; exact Nat.le_trans (D_same hz) hd
    · rw [e']; exact hd

theorem Round.exit {p p0 : Nat × Nat} {done' : List (Nat × Nat)} (R : Round sw a b n m c S done (some p) M) (h0 : Inn n m p0 → p0 ∈ S ∨ p0 = p) (hx : Inn n m p → p ∈ S) (hd : ∀ q ∈ done', q ∈ done ∨ q = p0) :
    Round sw a b n m c S done' none M where
  A := R.A
  B := R.B
  C := R.C
  Dd := R.Dd
  E := fun q hq e z => by
    rcases R.E q hq e z with h | h
    · exact .inl h
    · cases h
      exact .inl (hx ⟨z.1, z.2.1⟩)
  F := fun q hq hi => by
    rcases hd q hq with h | rfl
    · exact R.F q h hi
    · rcases h0 hi with h | rfl
      · exact h
      · exact hx hi
  G := fun q e => by cases e

theorem Round.all (R : Round sw a b n m c S P none M) (hP : PL sw a b n m c P) (p : Nat × Nat) : p ∈ S ↔ Inn n m p ∧ dist sw a b p < c + 1 := by
  constructor
  · intro hp
    have := R.A p hp
    exact ⟨this.1, by omega⟩
  · rintro ⟨hi, hd⟩
    rcases Nat.lt_or_ge (dist sw a b p) c with h | h
    · exact R.B p hi h
    · have e : dist sw a b p = c := by omega
      obtain ⟨p', hp', k, rfl, hz⟩ := hP.all p hi e
      have hmono : ∀ t, t ≤ k → dist sw a b (p'.1 + t, p'.2 + t) ≤ dist sw a b p' := by
        intro t
        induction t with
        | zero => intro _; exact Nat.le_refl _
        | succ t ih =>
          intro ht
          have h1 := ih (by omega)
          have h2 := hz t (by omega)
          exact Nat.le_trans (D_same h2.2.2) h1
      have hback : ∀ t, t ≤ k → dist sw a b (p'.1 + k, p'.2 + k) ≤ dist sw a b (p'.1 + (k - t), p'.2 + (k - t)) := by
        intro t
        induction t with
        | zero => intro _; exact Nat.le_refl _
        | succ t ih =>
          intro ht
          have h1 := ih (by omega)
          have h2 := hz (k - (t + 1)) (by omega)
          have h3 : dist sw a b (p'.1 + (k - (t + 1)) + 1, p'.2 + (k - (t + 1)) + 1) ≤ dist sw a b (p'.1 + (k - (t + 1)), p'.2 + (k - (t + 1))) := D_same h2.2.2
          have e1 : p'.1 + (k - (t + 1)) + 1 = p'.1 + (k - t) := by omega
          have e2 : p'.2 + (k - (t + 1)) + 1 = p'.2 + (k - t) := by omega
          rw [e1, e2] at h3
          exact Nat.le_trans h1 h3
      have hc : ∀ t, t ≤ k → dist sw a b (p'.1 + t, p'.2 + t) = c := by
        intro t ht
        have h1 := hmono t ht
        have h2 := hP.le p' hp'
        have h3 := hback (k - t) (by omega)
        rw [show k - (k - t) = t by omega] at h3
        omega
      have hmem : ∀ t, t ≤ k → (p'.1 + t, p'.2 + t) ∈ S := by
        intro t
        induction t with
        | zero =>
          intro _
          exact R.F p' hp' ⟨by have := hi.1; simp only at this; omega, by have := hi.2; simp only at this; omega⟩
        | succ t ih =>
          intro ht
          rcases R.E _ (ih (by omega)) (hc t (by omega)) (hz t (by omega)) with h | h
          · exact h
          · cases h
      exact hmem k (Nat.le_refl _)

theorem PL.next (R : Round sw a b n m c S P none M) (hP : PL sw a b n m c P) : PL sw a b n m (c + 1) M where
  le := R.Dd
  all := by
    have hS := R.all hP
    have main : ∀ N, ∀ p : Nat × Nat, p.1 + p.2 < N → Inn n m p → dist sw a b p = c + 1 → ∃ p' ∈ M, ∃ k, p = (p'.1 + k, p'.2 + k) ∧ ∀ t, t < k → Zero a b n m (p'.1 + t, p'.2 + t) := by
      intro N
      induction N with
      | zero => intro p h; omega
      | succ N ih =>
        rintro ⟨i, j⟩ hN hi e
        have one : ∀ q : Nat × Nat, Inn n m q → dist sw a b q = c → Succ sw a b n m q (i, j) → ∃ p' ∈ M, ∃ k, (i, j) = (p'.1 + k, p'.2 + k) ∧ ∀ t, t < k → Zero a b n m (p'.1 + t, p'.2 + t) := by
          intro q hq hqd hqs
          exact ⟨(i, j), R.C q ((hS q).mpr ⟨hq, by omega⟩) hqd _ hqs, 0, rfl, fun t ht => by omega⟩
        have h0 : ¬ (i = 0 ∧ j = 0) := by
          rintro ⟨rfl, rfl⟩
          unfold dist at e
          rw [D_zero] at e
          omega
        have hi1 := hi.1
        have hi2 := hi.2
        simp only at hi1 hi2
        unfold dist at e
        simp only at e
        rcases D_from (sw := sw) (a := a) (b := b) i j h0 with ⟨i', rfl, hd⟩ | ⟨j', rfl, hd⟩ | ⟨i', j', rfl, rfl, hd⟩ | ⟨i', j', rfl, rfl, hz, hd⟩ | ⟨i', j', rfl, rfl, h1, h2, h3, hd⟩
        · exact one (i', j) ⟨by simp only; omega, hi2⟩ (by unfold dist; simp only; omega) (.inl rfl)
        · exact one (i, j') ⟨hi1, by simp only; omega⟩ (by unfold dist; simp only; omega) (.inr (.inl rfl))
        · exact one (i', j') ⟨by simp only; omega, by simp only; omega⟩ (by unfold dist; simp only; omega) (.inr (.inr (.inl rfl)))
        · obtain ⟨p', hp', k, ek, hk⟩ := ih (i', j') (by simp only at hN ⊢; omega) ⟨by simp only; omega, by simp only; omega⟩ (by unfold dist; simp only; omega)
          simp only [Prod.mk.injEq] at ek
          refine ⟨p', hp', k + 1, by simp only [Prod.mk.injEq]; omega, fun t ht => ?_⟩
          by_cases h : t < k
          · exact hk t h
          · have ht' : t = k := by omega
            subst ht'
            rw [← ek.1, ← ek.2]
            exact ⟨by simp only; omega, by simp only; omega, hz⟩
        · exact one (i', j') ⟨by simp only; omega, by simp only; omega⟩ (by unfold dist; simp only; omega) (.inr (.inr (.inr ⟨⟨h1, by simp only; omega, by simp only; omega, h2, h3⟩, rfl⟩)))
    exact fun p hi e => main (p.1 + p.2 + 1) p (by omega) hi e

theorem PL.first : PL sw a b n m 0 [(0, 0)] where
  le := fun p hp => by
    rw [List.mem_singleton.mp hp]; unfold dist; rw [D_zero]; exact Nat.le_refl _
  all := by
    have main : ∀ N, ∀ p : Nat × Nat, p.1 + p.2 < N → Inn n m p → dist sw a b p = 0 → ∃ p' ∈ [((0 : Nat), (0 : Nat))], ∃ k, p = (p'.1 + k, p'.2 + k) ∧ ∀ t, t < k → Zero a b n m (p'.1 + t, p'.2 + t) := by
      intro N
      induction N with
      | zero => intro p h; omega
      | succ N ih =>
        rintro ⟨i, j⟩ hN hi e
        have hi1 := hi.1
        have hi2 := hi.2
        simp only at hi1 hi2
        unfold dist at e
        simp only at e
        by_cases h0 : i = 0 ∧ j = 0
        · obtain ⟨rfl, rfl⟩ := h0
          exact ⟨(0, 0), by simp, 0, rfl, fun t ht => by omega⟩
        · rcases D_from (sw := sw) (a := a) (b := b) i j h0 with ⟨i', rfl, hd⟩ | ⟨j', rfl, hd⟩ | ⟨i', j', rfl, rfl, hd⟩ | ⟨i', j', rfl, rfl, hz, hd⟩ | ⟨i', j', rfl, rfl, h1, h2, h3, hd⟩
          · omega
          · omega
          · omega
          · obtain ⟨p', hp', k, ek, hk⟩ := ih (i', j') (by simp only at hN ⊢; omega) ⟨by simp only; omega, by simp only; omega⟩ (by unfold dist; simp only; omega)
            simp only [Prod.mk.injEq] at ek
            refine ⟨p', hp', k + 1, by simp only [Prod.mk.injEq]; omega, fun t ht => ?_⟩
            by_cases h : t < k
            · exact hk t h
            · have ht' : t = k := by omega
              subst ht'
              rw [← ek.1, ← ek.2]
              exact ⟨by simp only; omega, by simp only; omega, hz⟩
          · omega
    exact fun p hi e => main (p.1 + p.2 + 1) p (by omega) hi e
end
end Ky
end

section -- KyPairs
open PySem PySem.W PyProof.Rows
set_option Elab.async false
set_option maxRecDepth 100000
namespace Ky

def TupO (o : Obj) (l r : Nat) : Prop := o.cls = .type "tuple" ∧ ∃ t u n, o.data = .seq #[.int l t, .int r u] n
def TupL (tups : List (Addr × Obj)) (a : Addr) (l r : Nat) : Prop := ∃ o, (a, o) ∈ tups ∧ TupO o l r
def PlO (o : Obj) (vs : List Value) : Prop := ∃ n, o = { cls := .type "list", data := .seq vs.toArray n }
inductive PairsAre (T : Addr → Nat → Nat → Prop) : List Value → List (Nat × Nat) → Prop
  | nil : PairsAre T [] []
  | cons {a : Addr} {l r : Nat} {vs ps} : T a l r → PairsAre T vs ps → PairsAre T (.ref a :: vs) ((l, r) :: ps)

theorem TupL.mono {t t' : List (Addr × Obj)} (h : ∀ p ∈ t, p ∈ t') {a : Addr} {l r : Nat} (x : TupL t a l r) : TupL t' a l r := let ⟨o, ho, e⟩ := x; ⟨o, h _ ho, e⟩
theorem PairsAre.mono {T T' : Addr → Nat → Nat → Prop} (h : ∀ a l r, T a l r → T' a l r) : ∀ {vs ps}, PairsAre T vs ps → PairsAre T' vs ps
  | _, _, .nil => .nil
  | _, _, .cons x r => .cons (h _ _ _ x) (r.mono h)
theorem PairsAre.append {T : Addr → Nat → Nat → Prop} : ∀ {vs ps vs' ps'}, PairsAre T vs ps → PairsAre T vs' ps' → PairsAre T (vs ++ vs') (ps ++ ps')
  | _, _, _, _, .nil, h => h
  | _, _, _, _, .cons x r, h => .cons x (r.append h)
theorem PairsAre.length {T : Addr → Nat → Nat → Prop} : ∀ {vs ps}, PairsAre T vs ps → vs.length = ps.length
  | _, _, .nil => rfl
  | _, _, .cons _ r => by simp [r.length]
theorem PairsAre.at {T : Addr → Nat → Nat → Prop} : ∀ {vs ps}, PairsAre T vs ps → ∀ {i : Nat} {v : Value}, vs[i]? = some v → ∃ a l r, v = .ref a ∧ ps[i]? = some (l, r) ∧ T a l r
  | _, _, .nil, i, v, e => by simp at e
  | _, _, .cons x _, 0, v, e => by simp only [List.getElem?_cons_zero, Option.some.injEq] at e; exact ⟨_, _, _, e.symm, rfl, x⟩
  | _, _, .cons _ r, i + 1, v, e => by simp only [List.getElem?_cons_succ] at e ⊢; exact r.at e
theorem TupL.tupAt {h₀ h : Heap} {L : Addr} {news tups : List (Addr × Obj)} (N : News h₀ L h news) (hs : ∀ p ∈ tups, p ∈ news) {a : Addr} {l r : Nat} (x : TupL tups a l r) : TupAt h a l r := by
  obtain ⟨o, ho, hc, t, u, n, hd⟩ := x
  exact ⟨o, t, u, n, (N _ (hs _ ho)).1, hc, hd⟩

section
variable {prog : Program} {w : World} {A : Around} {s : Shared} {env : Env} {h₀ : Heap} {x y : Str} {body : List Stmt} {Q : Flow → Shared → Prop}

theorem for_pairs {px py tp : Pos} {k : Nat} {R : Result → Shared → Prop} {pa : Addr} {po : Obj} {vs : List Value} {P : List (Nat × Nat)} {m₀ : Str → Option Value} {news : List (Addr × Obj)}
    (J : Nat → (Str → Option Value) → List (Addr × Obj) → Prop) (hh : A.handled = none) (hpo : PlO po vs) (hlen : vs.length = P.length)
    (hx : env.kindOf x = some .local) (hy : env.kindOf y = some .local)
    (hp : (env.scope.kind == .class || (env.scope.kind == .module && env.locals != env.globals)) = false)
    (F : Fr h₀ env.locals s.heap m₀) (N : News h₀ env.locals s.heap news) (hJ0 : J 0 m₀ news)
    (hJ : ∀ i m n, J i m n → (pa, po) ∈ n ∧ PairsAre (TupL n) vs P)
    (turn : ∀ i l r t u m₁ news₁ h tk I (it : Obj), P[i]? = some (l, r) → (∀ p ∈ news₁, p.1 ≠ I) → J i m₁ news₁ → Fr h₀ env.locals h (fun z => if z = y then some (.int (r : Nat) u) else if z = x then some (.int (l : Nat) t) else m₁ z) →
      News h₀ env.locals h ((I, it) :: news₁) →
      wpAny (model prog w) A (execs body env) (TPost h₀ env.locals I it (J (i + 1)) { s with heap := h, toks := tk } (fun f s' => R (.ok f) s')) (fun _ _ => False) { s with heap := h, toks := tk })
    (done : ∀ m₁ news₁ h tk, J P.length m₁ news₁ → Fr h₀ env.locals h m₁ → News h₀ env.locals h news₁ → R (.ok .next) { s with heap := h, toks := tk }) :
    wpAny (model prog w) A (pyIter (.ref pa)) (fun it s₂ => codeAny (model prog w) A (.forLoop (.Tuple [.Name x px, .Name y py] k tp) it body [] env) R s₂) (fun _ _ => False) s := by
  obtain ⟨np, rfl⟩ := hpo
  have hmem := (hJ 0 m₀ news hJ0).1
  have hl : s.heap.IsList pa vs.toArray := ⟨_, (N _ hmem).1, rfl, np, rfl⟩
  refine wpAny_pyIter_list hl ?_
  have hI0 := next_is_new F
  have hoff0 : ∀ p ∈ news, p.1 ≠ s.heap.objs.size := fun p hp => Nat.ne_of_lt (Heap.lt_size (N p hp).1)
  have hLI : env.locals ≠ s.heap.objs.size := Nat.ne_of_lt F.ns.lt
  have F0 := F.push { cls := .type "list_iterator", data := .fields #[.ref pa, .int 0 0] }
  have N0 : News h₀ env.locals (s.heap.push { cls := .type "list_iterator", data := .fields #[.ref pa, .int 0 0] }) news := fun p hp => ⟨Heap.get?_push_of_some _ (N p hp).1, (N p hp).2⟩
  have st0 : (s.heap.push { cls := .type "list_iterator", data := .fields #[.ref pa, .int 0 0] }).IsListIter s.heap.objs.size pa 0 := ⟨_, Heap.get?_push_size _ rfl, rfl, rfl⟩
  generalize s.heap.objs.size = I at *
  generalize s.heap.push { cls := .type "list_iterator", data := .fields #[.ref pa, .int 0 0] } = H0 at *
  have hpaI : pa ≠ I := hoff0 _ hmem
  refine codeAny_forLoop_any (fun kk s' => ∃ h' tk m' news' i, s' = { s with heap := h', toks := tk } ∧ h'.IsListIter I pa i ∧ Fr h₀ env.locals h' m' ∧ News h₀ env.locals h' news' ∧ (∀ p ∈ news', p.1 ≠ I) ∧ J i m' news' ∧ i ≤ P.length ∧ kk = P.length + 1 - i) ?_ (P.length + 1)
    ⟨H0, s.toks, m₀, news, 0, rfl, st0, F0, N0, hoff0, hJ0, Nat.zero_le _, rfl⟩
  rintro kk s' ⟨h', tk, m', news', i, rfl, st, F', N', hoff, hJi, hi, rfl⟩
  obtain ⟨hpm, hpairs⟩ := hJ i m' news' hJi
  have hl' : h'.IsList pa vs.toArray := ⟨_, (N' _ hpm).1, rfl, np, rfl⟩
  by_cases hlt : i < P.length
  · have hv : vs[i]? = some vs[i] := List.getElem?_eq_getElem (by omega)
    obtain ⟨a, l, r, ev, ep, oT, hoT, hcT, t, u, nT, hdT⟩ := hpairs.at hv
    have hv' : vs.toArray[i]? = some (.ref a) := by rw [← ev]; simpa using hv
    refine wpAny_pyNext_list_item st hl' hv' fun h1 st1 hs1 => ?_
    have F1 : Fr h₀ env.locals h1 m' := F'.change hs1 (Ne.symm hLI) hI0
    have N1 : News h₀ env.locals h1 news' := fun p hp => ⟨(hs1.2 p.1 (hoff p hp)).trans (N' p hp).1, (N' p hp).2⟩
    refine wpAny_letOwnedTupleGo_listiter st1 ?_
    have hT1 : IsTup h1 a #[.int l t, .int r u] := ⟨oT, (N1 _ hoT).1, hcT, nT, hdT⟩
    have hI1 := st1
    obtain ⟨it, hit, _⟩ := id st1
    have N1' : News h₀ env.locals h1 ((I, it) :: news') := fun p hp => by
      rcases List.mem_cons.mp hp with rfl | hp
      · exact ⟨hit, Ne.symm hLI, hI0⟩
      · exact N1 p hp
    refine wpAny_mono (E := fun _ _ => False) ?_ (fun _ _ z => z) (fun _ _ z => z.elim)
    refine unpackN_ F1 N1' hT1 hh (by rfl) (by rfl) fun h2 F2 N2 => ?_
    show wpAny _ _ (assignInOrder [assign (.Name x px) env, assign (.Name y py) env] [.int l t, .int r u]) _ _ _
    refine assignInOrder_cons (assign_Name (wpAny_storeName_local hx F2.ns (fun h3 hn3 hs3 => ?_) hp))
    have F3 := F2.set hn3 hs3
    have N3 := N2.set hs3
    refine assignInOrder_cons (assign_Name (wpAny_storeName_local hy F3.ns (fun h4 hn4 hs4 => ?_) hp))
    have F4 := F3.set hn4 hs4
    have N4 := N3.set hs4
    refine assignInOrder_nil ?_
    refine wpAny_mono (turn i l r t u m' news' h4 _ I it ep hoff hJi F4 N4) (fun f s₃ p => ?_) (fun _ _ z => z.elim)
    have hit4 := (N4 (I, it) (List.mem_cons_self ..)).1
    have itI : it.cls = .type "list_iterator" ∧ it.data = .fields #[.ref pa, .int ((i + 1 : Nat) : Int) 0] := by
      obtain ⟨o', ho', a1, a2⟩ := hI1
      rw [hit] at ho'
      cases ho'
      exact ⟨a1, a2⟩
    have fin : TEnd h₀ env.locals I it (J (i + 1)) { s with heap := h4, toks := tk + 1 + 1 } s₃ → ∃ m, m < P.length + 1 - i ∧ ∃ h' tk m' news' i, s₃ = { s with heap := h', toks := tk } ∧ h'.IsListIter I pa i ∧ Fr h₀ env.locals h' m' ∧ News h₀ env.locals h' news' ∧ (∀ p ∈ news', p.1 ≠ I) ∧ J i m' news' ∧ i ≤ P.length ∧ m = P.length + 1 - i := by
      rintro ⟨h5, tk5, m5, news5, rfl, F5, N5, hc5, hJ5⟩
      exact ⟨P.length + 1 - (i + 1), by omega, h5, tk5, m5, news5, i + 1, rfl, ⟨it, (N5 (I, it) (List.mem_cons_self ..)).1, itI.1, itI.2⟩, F5, fun p hp => N5 p (List.mem_cons_of_mem _ hp), hc5, hJ5, hlt, rfl⟩
    cases f with
    | ret v => exact p
    | brk => exact p
    | next => exact fin p
    | cont => exact fin p
  · have hin : i = P.length := by omega
    subst hin
    refine wpAny_pyNext_list_end hh st hl' (by simp; omega) fun h1 he1 => ?_
    refine wpAny_execs_nil ?_
    have hlt' : ∀ b o, b ≠ I → h'.get? b = some o → h1.get? b = some o := fun b o hb e => he1 b o hb e
    obtain ⟨oL, z1, z2, hoL, z3⟩ := F'.ns
    refine done m' news' h1 _ hJi ⟨⟨oL, z1, z2, hlt' _ _ hLI hoL, z3⟩, fun b o e => hlt' b o (fun q => by rw [q, hI0] at e; cases e) (F'.keep b o e), F'.above⟩ fun p hp => ⟨hlt' _ _ (hoff p hp) (N' p hp).1, (N' p hp).2⟩
end
end Ky
end

section -- KyText
open PySem PySem.W PyProof.Rows
set_option Elab.async false
set_option maxRecDepth 100000
namespace Ky
theorem pick_range (xs : List Nat) : ∀ (c st : Nat), st + c ≤ xs.length → ((List.range c).map (fun k => st + k)).filterMap (fun i => xs[i]?) = (xs.drop st).take c
  | 0, st, _ => by simp
  | c + 1, st, h => by
    rw [List.range_succ, List.map_append, List.filterMap_append, pick_range xs c st (by omega)]
    have h1 : xs[st + c]? = some xs[st + c] := List.getElem?_eq_getElem (by omega)
    rw [List.take_add_one]
    have h2 : (xs.drop st)[c]? = some xs[st + c] := by rw [List.getElem?_drop]; exact h1
    rw [h2]
    simp [h1]

theorem slice_text (xs : List Nat) (i j : Nat) : Txt.slice ⟨xs.toArray⟩ (some (i : Int)) (some (j : Int)) = ⟨((xs.drop i).take (j - i)).toArray⟩ := by
  have hn : (⟨xs.toArray⟩ : Str).length = xs.length := by simp [Str.length]
  have hidx : Builtin.Str.strSliceIndices (some (i : Int)) (some (j : Int)) 1 xs.length = (List.range (min j xs.length - min i xs.length)).map (fun k => min i xs.length + k) := by
    unfold Builtin.Str.strSliceIndices sliceRange
    have h1 : max 0 (min (i : Int) (xs.length : Int)) = ((min i xs.length : Nat) : Int) := by omega
    have h2 : max 0 (min (j : Int) (xs.length : Int)) = ((min j xs.length : Nat) : Int) := by omega
    simp only [show (1 : Int) > 0 by decide, if_true, if_neg (show ¬ ((i : Int) < 0) by omega), if_neg (show ¬ ((j : Int) < 0) by omega), h1, h2]
    have h3 : ((if ((min i xs.length : Nat) : Int) < ((min j xs.length : Nat) : Int) then (((min j xs.length : Nat) : Int) - ((min i xs.length : Nat) : Int) + 1 - 1) / 1 else 0) : Int).toNat = min j xs.length - min i xs.length := by
      split <;> omega
    rw [h3]
    apply List.map_congr_left
    intro k _
    omega
  have hres : ((xs.drop (min i xs.length)).take (min j xs.length - min i xs.length)) = (xs.drop i).take (j - i) := by
    by_cases h : i ≤ xs.length
    · rw [Nat.min_eq_left h]
      by_cases h2 : j ≤ xs.length
      · rw [Nat.min_eq_left h2]
      · rw [Nat.min_eq_right (by omega)]
        rw [List.take_of_length_le (by simp), List.take_of_length_le (by simp; omega)]
    · rw [List.drop_eq_nil_of_le (i := min i xs.length) (by omega), List.drop_eq_nil_of_le (i := i) (by omega)]
      simp
  unfold Txt.slice
  rw [hn, hidx]
  split
  · rename_i hc
    simp only [beq_self_eq_true, Bool.true_and, List.length_map, List.length_range, beq_iff_eq] at hc
    have h0 : min i xs.length = 0 ∨ xs.length = 0 := by omega
    rw [← hres]
    rcases h0 with h0 | h0
    · rw [h0, List.drop_zero, List.take_of_length_le (by omega)]
    · have : xs = [] := List.eq_nil_of_length_eq_zero h0
      subst this; simp
  · have : (List.filterMap (fun x => (⟨xs.toArray⟩ : Str).cps[x]?) ((List.range (min j xs.length - min i xs.length)).map fun k => min i xs.length + k)) = (xs.drop i).take (j - i) := by
      rw [← hres, ← pick_range xs _ _ (by omega)]
      exact congrArg (fun g => List.filterMap g _) (funext fun k => by simp)
    rw [this]

theorem take_one (xs : List Nat) (i : Nat) : (xs.drop i).take 1 = if i < xs.length then [xs.getD i 0] else [] := by
  split
  · rename_i h
    have e : xs.getD i 0 = xs[i] := by simp [h]
    rw [List.drop_eq_getElem_cons h, e]; rfl
  · rw [List.drop_eq_nil_of_le (by omega)]; simp
theorem take_two (xs : List Nat) (i : Nat) (h : i + 1 < xs.length) : (xs.drop i).take 2 = [xs.getD i 0, xs.getD (i + 1) 0] := by
  have e1 : xs.getD i 0 = xs[i] := by simp [show i < xs.length by omega]
  have e2 : xs.getD (i + 1) 0 = xs[i + 1] := by simp [h]
  rw [List.drop_eq_getElem_cons (by omega), List.drop_eq_getElem_cons h, e1, e2]; rfl
theorem str_eq (xs ys : List Nat) : ((⟨xs.toArray⟩ : Str) == ⟨ys.toArray⟩) = decide (xs = ys) := by
  by_cases h : xs = ys
  · subst h; simp
  · have : (⟨xs.toArray⟩ : Str) ≠ ⟨ys.toArray⟩ := fun e => h (by injection e with e; injection e)
    rw [decide_eq_false h]
    simpa using this
theorem str_cat (xs ys : List Nat) : (⟨xs.toArray⟩ : Str) ++ ⟨ys.toArray⟩ = ⟨(xs ++ ys).toArray⟩ := by
  show Str.append _ _ = _
  simp [Str.append]

/-- the test for an exchange -/
theorem swap_test {a b : Nat → Nat} {xs ys : List Nat} (ha : ∀ k, xs.getD k 0 = a k) (hb : ∀ k, ys.getD k 0 = b k) {l r : Nat} (hl : l + 1 < xs.length) :
    ((xs.drop l).take 2 = (ys.drop (r + 1)).take 1 ++ (ys.drop r).take 1) ↔ (r + 1 < ys.length ∧ a l = b (r + 1) ∧ a (l + 1) = b r) := by
  rw [take_two xs l hl, take_one, take_one, ha, ha, hb, hb]
  constructor
  · intro e
    by_cases h1 : r + 1 < ys.length
    · rw [if_pos h1, if_pos (by omega)] at e
      simp only [List.cons_append, List.nil_append, List.cons.injEq, and_true] at e
      exact ⟨h1, e⟩
    · rw [if_neg h1] at e
      split at e <;> simp at e
  · rintro ⟨h1, h2, h3⟩
    rw [if_pos h1, if_pos (by omega), h2, h3]; rfl
theorem same_test {a b : Nat → Nat} {xs ys : List Nat} (ha : ∀ k, xs.getD k 0 = a k) (hb : ∀ k, ys.getD k 0 = b k) {l r : Nat} (hl : l < xs.length) :
    ((xs.drop l).take 1 = (ys.drop r).take 1) ↔ (r < ys.length ∧ a l = b r) := by
  rw [take_one, take_one, ha, hb, if_pos hl]
  constructor
  · intro e
    split at e
    · rename_i h; simp only [List.cons.injEq, and_true] at e; exact ⟨h, e⟩
    · simp at e
  · rintro ⟨h1, h2⟩
    rw [if_pos h1, h2]
end Ky
end

section -- KyStep
open PySem PySem.W PyProof.Rows
set_option Elab.async false
set_option maxRecDepth 100000
namespace Ky
abbrev stpScope : Scope := defScope (stAt 7)
abbrev stpBody : List Stmt := defBody (stAt 7)
abbrev stpOuter : List Stmt := forBody (nth stpBody 2)
abbrev stpFor : List Stmt := forBody (nth stpOuter 1)
abbrev stpWhile : List Stmt := forBody (nth stpFor 0)
abbrev stpEnv (L f : Addr) (cd : Value) : Env := envOf "_law_steps" stpScope L f cd
local macro_rules | `(tactic| walk_at "eval Name") => `(tactic| refine ld (by assumption) (by first | rfl | assumption) ?_)

structure StM (m : Str → Option Value) (xs ys : List Nat) (sw : Bool) (sa ma : Addr) (l r c : Nat) : Prop where
  one : ∃ t, m "one" = some (.str ⟨xs.toArray⟩ t)
  other : ∃ t, m "other" = some (.str ⟨ys.toArray⟩ t)
  sw : m "swaps" = some (.bool sw)
  seen : m "seen" = some (.ref sa)
  more : m "more" = some (.ref ma)
  left : ∃ t, m "left" = some (.int (l : Nat) t)
  right : ∃ t, m "right" = some (.int (r : Nat) t)
  cost : ∃ t, m "cost" = some (.int (c : Nat) t)

theorem News.head {h₀ h h' : Heap} {L d : Addr} {o o' : Obj} {rest : List (Addr × Obj)} (N : News h₀ L h ((d, o) :: rest)) (hs : Heap.SameBut d h h') (ho : h'.get? d = some o') (hr : ∀ p ∈ rest, p.1 ≠ d) : News h₀ L h' ((d, o') :: rest) := fun p hp => by
  rcases List.mem_cons.mp hp with rfl | hp
  · exact ⟨ho, (N (d, o) (List.mem_cons_self ..)).2⟩
  · have P := N p (List.mem_cons_of_mem _ hp)
    exact ⟨(hs.2 p.1 (hr p hp)).trans P.1, P.2⟩

theorem TupO.mk {l r : Nat} {t u : Tok} : TupO { cls := .type "tuple", data := .seq #[.int (l : Int) t, .int (r : Int) u] } l r := ⟨rfl, t, u, _, rfl⟩

theorem stp_s0 {prog : Program} {w : World} {A : Around} {s : Shared} {h₀ : Heap} {L f : Addr} {cd : Value} {m : Str → Option Value} {Q : Flow → Shared → Prop}
    {xs ys : List Nat} {sw : Bool} {sa ma : Addr} {so mo : Obj} {tups rest : List (Addr × Obj)} {S : List (Nat × Nat)} {l r c : Nat}
    (hu : A.units + 16 < cLine) (F : Fr h₀ L s.heap m) (N : News h₀ L s.heap ((sa, so) :: (ma, mo) :: (tups ++ rest))) (hsm : sa ≠ ma) (hoffs : ∀ p ∈ tups ++ rest, p.1 ≠ sa ∧ p.1 ≠ ma) (SM : StM m xs ys sw sa ma l r c)
    (hS : SetO (TupL tups) so S) (hl : l < 7) (hr : r < 7) (hno : (l, r) ∉ S)
    (h : ∀ h' tk so' p, p.1 ≠ sa → p.1 ≠ ma → (∀ q ∈ rest, p.1 ≠ q.1) → SetO (TupL (p :: tups)) so' ((l, r) :: S) → Fr h₀ L h' m → News h₀ L h' ((sa, so') :: (ma, mo) :: (p :: tups ++ rest)) → Q .next { s with heap := h', toks := tk }) :
    wpAny (model prog w) A (exec (nth stpWhile 0) (stpEnv L f cd)) Q (fun _ _ => False) s := by
  obtain ⟨⟨t1, q1⟩, ⟨t2, q2⟩, q3, q4, q5, ⟨t6, q6⟩, ⟨t7, q7⟩, ⟨t8, q8⟩⟩ := SM
  show wpAny _ _ (exec (Stmt.Expr _ _) _) _ _ _
  walk1; walk1; walk1
  have X0 : SetAt s.heap sa S := hS.at (N (sa, so) (by simp)).1 fun _ _ _ x => x.tupAt N (fun p hp => by simp [hp])
  refine method_add X0 ?_
  walk1; walk1
  refine Tuple_ ?_
  walk1; walk1; walk1; walk1; walk1
  refine newTuple_N F N fun h2 F2 N2 => ?_
  walk1
  have hT0s : s.heap.objs.size ≠ sa := Nat.ne_of_gt (Heap.lt_size (N (sa, so) (by simp)).1)
  have hT0m : s.heap.objs.size ≠ ma := Nat.ne_of_gt (Heap.lt_size (N (ma, mo) (by simp)).1)
  have hT0r : ∀ q ∈ rest, s.heap.objs.size ≠ q.1 := fun q hq => Nat.ne_of_gt (Heap.lt_size (N q (by simp [hq])).1)
  generalize s.heap.objs.size = T0 at *
  generalize hot : ({ cls := Value.type "tuple", data := Data.seq #[Value.int (↑l) t6, Value.int (↑r) t7] } : Obj) = oT at *
  have hoT : TupO oT l r := by rw [← hot]; exact TupO.mk
  have N3 : News h₀ L h2 ((sa, so) :: (ma, mo) :: ((T0, oT) :: tups ++ rest)) := fun p hp => N2 p (by
    simp only [List.mem_cons, List.cons_append] at hp ⊢
    rcases hp with h | h | h | h
    · exact .inr (.inl h)
    · exact .inr (.inr (.inl h))
    · exact .inl h
    · exact .inr (.inr (.inr h)))
  have hS' : SetO (TupL ((T0, oT) :: tups)) so S := hS.keeps fun _ _ _ x => x.mono fun p hp => List.mem_cons_of_mem _ hp
  refine add_set (T := TupL ((T0, oT) :: tups)) (o := so) (by omega) (N3 (sa, so) (by simp)).1 hS' (fun _ _ _ x => x.tupAt N3 (fun p hp => by simp only [List.mem_cons] at hp; rcases hp with rfl | hp <;> simp [*])) ⟨oT, by simp, hoT⟩ hl hr hno fun h4 o4 tk4 hs4 ho4 hS4 => ?_
  refine h h4 tk4 o4 (T0, oT) hT0s hT0m hT0r hS4 (F2.change hs4 (N3 (sa, so) (by simp)).2.1 (N3 (sa, so) (by simp)).2.2) (News.head N3 hs4 ho4 ?_)
  simp only [List.mem_cons, List.cons_append]
  rintro p (rfl | rfl | hp)
  · exact Ne.symm hsm
  · exact hT0s
  · exact (hoffs p hp).1
end Ky
end

section -- KyStep1
open PySem PySem.W PyProof.Rows
set_option Elab.async false
set_option maxRecDepth 100000
namespace Ky
local macro_rules | `(tactic| walk_at "eval Name") => `(tactic| refine ld (by assumption) (by first | rfl | assumption) ?_)

theorem fresh_ne {h₀ h : Heap} {L a : Addr} {o : Obj} {news : List (Addr × Obj)} (N : News h₀ L h news) (hm : (a, o) ∈ news) : h.objs.size ≠ a := Nat.ne_of_gt (Heap.lt_size (N _ hm).1)
theorem sz1 : 1 ≤ sizeLine := by rw [sizeLine_eq]; omega
theorem sz2 : 2 ≤ sizeLine := by rw [sizeLine_eq]; omega
theorem sz3 : 3 ≤ sizeLine := by rw [sizeLine_eq]; omega

theorem stp_s1 {prog : Program} {w : World} {A : Around} {s : Shared} {h₀ : Heap} {L f : Addr} {cd : Value} {m : Str → Option Value} {Q : Flow → Shared → Prop}
    {xs ys : List Nat} {sw : Bool} {sa ma : Addr} {so mo : Obj} {tups rest : List (Addr × Obj)} {vsM : List Value} {M : List (Nat × Nat)} {l r c : Nat}
    (F : Fr h₀ L s.heap m) (N : News h₀ L s.heap ((sa, so) :: (ma, mo) :: (tups ++ rest))) (hoffs : ∀ p ∈ tups ++ rest, p.1 ≠ sa ∧ p.1 ≠ ma) (SM : StM m xs ys sw sa ma l r c)
    (hM : PlO mo vsM) (hP : PairsAre (TupL tups) vsM M) (hMl : M.length ≤ 1000)
    (h : ∀ h' tk m' ma' mo' vsM' p1 p2 p3, StM m' xs ys sw sa ma' l r c → sa ≠ ma' → (∀ q ∈ rest, p1.1 ≠ q.1 ∧ p2.1 ≠ q.1 ∧ p3.1 ≠ q.1) → (∀ p ∈ p1 :: p2 :: p3 :: tups ++ rest, p.1 ≠ sa ∧ p.1 ≠ ma') → PlO mo' vsM' → PairsAre (TupL (p1 :: p2 :: p3 :: tups)) vsM' (M ++ [(l + 1, r), (l, r + 1), (l + 1, r + 1)]) →
      Fr h₀ L h' m' → News h₀ L h' ((sa, so) :: (ma', mo') :: (p1 :: p2 :: p3 :: tups ++ rest)) → Q .next { s with heap := h', toks := tk }) :
    wpAny (model prog w) A (exec (nth stpWhile 1) (stpEnv L f cd)) Q (fun _ _ => False) s := by
  obtain ⟨⟨t1, q1⟩, ⟨t2, q2⟩, q3, q4, q5, ⟨t6, q6⟩, ⟨t7, q7⟩, ⟨t8, q8⟩⟩ := SM
  show wpAny _ _ (exec (Stmt.Assign _ _ _) _) _ _ _
  walk1; walk1; walk1
  refine List_ ?_
  walk1
  refine Tuple_ ?_
  walk1; walk1; walk1; walk1; walk1; walk1; walk1; walk1
  refine newTuple_N F N (hsz := sz2) fun h2 F2 N2 => ?_
  dsimp only
  walk1
  refine Tuple_ ?_
  walk1; walk1; walk1; walk1; walk1; walk1; walk1; walk1
  refine newTuple_N F2 N2 (hsz := sz2) fun h3 F3 N3 => ?_
  dsimp only
  walk1
  refine Tuple_ ?_
  walk1; walk1; walk1; walk1; walk1; walk1; walk1; walk1; walk1; walk1; walk1
  refine newTuple_N F3 N3 (hsz := sz2) fun h4 F4 N4 => ?_
  dsimp only
  walk1
  refine newList_N F4 N4 (hsz := sz3) fun h5 F5 N5 => ?_
  dsimp only
  obtain ⟨nM, rfl⟩ := hM
  have hlM := hP.length
  refine add_arrays (its := vsM.toArray) F5 N5 ⟨{ cls := .type "list", data := .seq vsM.toArray nM }, (N5 (ma, _) (by simp)).1, rfl, nM, rfl⟩ (N5.isList (List.mem_cons_self ..)) (hsz := by simp [sizeLine_eq]; omega) fun h6 F6 N6 => ?_
  dsimp only
  have f1 : ∀ p ∈ tups ++ rest, p.1 ≠ h5.objs.size := fun p hp => (fresh_ne N5 (a := p.1) (o := p.2) (by simp only [List.mem_cons]; exact .inr (.inr (.inr (.inr (.inr (.inr hp))))))).symm
  have f2 : h5.objs.size ≠ sa := fresh_ne N5 (o := so) (by simp)
  have g1 : s.heap.objs.size ≠ sa := fresh_ne N (o := so) (by simp)
  have g2 : h2.objs.size ≠ sa := fresh_ne N2 (o := so) (by simp)
  have g3 : h3.objs.size ≠ sa := fresh_ne N3 (o := so) (by simp)
  have k1 : h5.objs.size ≠ s.heap.objs.size := fresh_ne N5 (by simp only [List.mem_cons]; exact .inr (.inr (.inr (.inl rfl))))
  have k2 : h5.objs.size ≠ h2.objs.size := fresh_ne N5 (by simp only [List.mem_cons]; exact .inr (.inr (.inl rfl)))
  have k3 : h5.objs.size ≠ h3.objs.size := fresh_ne N5 (by simp only [List.mem_cons]; exact .inr (.inl rfl))
  have hP' : ∀ u1 u2 u3 u4 u5 u6, PairsAre (TupL ((s.heap.objs.size, { cls := Value.type "tuple", data := Data.seq #[Value.int (↑l + 1) u1, Value.int (↑r) u2] }) :: (h2.objs.size, { cls := Value.type "tuple", data := Data.seq #[Value.int (↑l) u3, Value.int (↑r + 1) u4] }) :: (h3.objs.size, { cls := Value.type "tuple", data := Data.seq #[Value.int (↑l + 1) u5, Value.int (↑r + 1) u6] }) :: tups))
      (vsM ++ [Value.ref s.heap.objs.size, Value.ref h2.objs.size, Value.ref h3.objs.size]) (M ++ [(l + 1, r), (l, r + 1), (l + 1, r + 1)]) := fun u1 u2 u3 u4 u5 u6 => by
    refine PairsAre.append (hP.mono fun _ _ _ x => x.mono fun p hp => by simp [hp]) ?_
    refine .cons ⟨_, List.mem_cons_self .., ⟨rfl, u1, u2, _, rfl⟩⟩ (.cons ⟨_, List.mem_cons_of_mem _ (List.mem_cons_self ..), ⟨rfl, u3, u4, _, rfl⟩⟩ (.cons ⟨_, List.mem_cons_of_mem _ (List.mem_cons_of_mem _ (List.mem_cons_self ..)), ⟨rfl, u5, u6, _, rfl⟩⟩ .nil))
  have hR3 : ∀ q ∈ rest, s.heap.objs.size ≠ q.1 ∧ h2.objs.size ≠ q.1 ∧ h3.objs.size ≠ q.1 := fun q hq => ⟨Nat.ne_of_gt (Heap.lt_size (N q (by simp [hq])).1), Nat.ne_of_gt (Heap.lt_size (N2 q (by simp [hq])).1), Nat.ne_of_gt (Heap.lt_size (N3 q (by simp [hq])).1)⟩
  have hN7 : ∀ (p1 p2 p3 p4 p5 : Addr × Obj), News h₀ L h6 (p5 :: p4 :: p3 :: p2 :: p1 :: (sa, so) :: (ma, { cls := .type "list", data := .seq vsM.toArray nM }) :: (tups ++ rest)) → News h₀ L h6 ((sa, so) :: p5 :: (p1 :: p2 :: p3 :: tups ++ rest)) := fun p1 p2 p3 p4 p5 X p hp => X p (by
    simp only [List.mem_cons, List.cons_append] at hp ⊢
    rcases hp with h | h | h | h | h | h
    · exact .inr (.inr (.inr (.inr (.inr (.inl h)))))
    · exact .inl h
    · exact .inr (.inr (.inr (.inr (.inl h))))
    · exact .inr (.inr (.inr (.inl h)))
    · exact .inr (.inr (.inl h))
    · exact .inr (.inr (.inr (.inr (.inr (.inr (.inr h)))))))
  have N7 := hN7 _ _ _ _ _ N6
  dsimp only at N7
  walk1
  clear F6 N7 N6
  rename_i h8 F8 N8
  have SM' : StM (fun y => if y = Str.ofString "more" then some (Value.ref h5.objs.size) else m y) xs ys sw sa h5.objs.size l r c := ⟨⟨t1, q1⟩, ⟨t2, q2⟩, q3, q4, rfl, ⟨t6, q6⟩, ⟨t7, q7⟩, ⟨t8, q8⟩⟩
  refine h _ _ _ _ _ _ _ _ _ SM' (Ne.symm f2) hR3 ?_ ⟨0, rfl⟩ (hP' _ _ _ _ _ _) F8 N8
  simp only [List.mem_cons, List.cons_append]
  rintro p (rfl | rfl | rfl | hp)
  · exact ⟨g1, Ne.symm k1⟩
  · exact ⟨g2, Ne.symm k2⟩
  · exact ⟨g3, Ne.symm k3⟩
  · exact ⟨(hoffs p hp).1, f1 p hp⟩
end Ky
end

section -- KyStep2
open PySem PySem.W PyProof.Rows
set_option Elab.async false
set_option maxRecDepth 100000
namespace Ky
local macro_rules | `(tactic| walk_at "eval Name") => `(tactic| refine ld (by assumption) (by first | rfl | assumption) ?_)

section
variable {prog : Program} {w : World} {A : Around} {E : Value → Shared → Prop} {s : Shared} {h₀ : Heap} {L : Addr} {m : Str → Option Value} {news : List (Addr × Obj)}
theorem slice_own {value slice : Expr} {xs : List Nat} {t : Tok} {i j : Int} {ui uj : Tok} {Q : Value → Shared → Prop} (hF : Fr h₀ L s.heap m) (hN : News h₀ L s.heap news) (I J : Nat) (hi : i = (I : Nat)) (hj : j = (J : Nat)) (hx : xs.length ≤ 2 ^ 10)
    (h : ∀ h' t' k, Fr h₀ L h' m → News h₀ L h' news → Q (.str ⟨((xs.drop I).take (J - I)).toArray⟩ t') { s with heap := h', toks := k })
    (hs : subscripted slice false (.str ⟨xs.toArray⟩ t) (.ref s.heap.objs.size) = operate [.ref s.heap.objs.size, .str ⟨xs.toArray⟩ t] (getItem (.str ⟨xs.toArray⟩ t) (.ref s.heap.objs.size)) := by with_unfolding_all rfl)
    (ht : ∀ r, letTemporaryGo value (.str ⟨xs.toArray⟩ t) r = pure () := by intro _; with_unfolding_all rfl) :
    wpAny (model prog w) A (subscriptTail value slice (.str ⟨xs.toArray⟩ t) (.ref s.heap.objs.size)) Q E { s with heap := s.heap.push { cls := .type "slice", data := .fields #[.int i ui, .int j uj, .none] } } := by
  subst hi hj
  refine slice_strN_ss hF hN (fun h' t' k a b => ?_) hs ht (by simp [Str.length, sizeLine_eq]; omega)
  rw [slice_text]
  exact h h' t' k a b
theorem add_own {xs ys : List Nat} {t u : Tok} {Q : Value → Shared → Prop} (hx : xs.length + ys.length ≤ 2 ^ 10) (h : ∀ t' tk, Q (.str ⟨(xs ++ ys).toArray⟩ t') { s with toks := tk }) :
    wpAny (model prog w) A (binaryOp .Add (.str ⟨xs.toArray⟩ t) (.str ⟨ys.toArray⟩ u)) Q E s := by
  refine add_str (fun t' tk => ?_) (by simp [Str.length, sizeLine_eq]; omega)
  rw [str_cat]; exact h t' tk
theorem eq_own {xs ys : List Nat} {t u : Tok} {Q : Value → Shared → Prop} (h : Q (.bool (decide (xs = ys))) s) :
    wpAny (model prog w) A (compareOp .Eq (.str ⟨xs.toArray⟩ t) (.str ⟨ys.toArray⟩ u)) Q E s := by
  refine eq_str ?_
  rw [str_eq]; exact h
theorem len_own {xs : List Nat} {t : Tok} {Q : Value → Shared → Prop} (hx : xs.length ≤ 2 ^ 10) (h : ∀ t' tk, Q (.int xs.length t') { s with toks := tk }) :
    wpAny (model prog w) A (call (.builtin "len") [.str ⟨xs.toArray⟩ t]) Q E s := len_seq (.inl ⟨t, rfl⟩) (by omega) fun t' tk => h t' tk
end

set_option maxHeartbeats 4000000 in
theorem stp_s2 {prog : Program} {w : World} {A : Around} {s : Shared} {h₀ : Heap} {mg mb : Str → Option Value} {L f : Addr} {cd : Value} {m : Str → Option Value} {Q : Flow → Shared → Prop}
    {xs ys : List Nat} {a b : Nat → Nat} {sw : Bool} {sa ma : Addr} {so mo : Obj} {tups rest : List (Addr × Obj)} {vsM : List Value} {M : List (Nat × Nat)} {l r c : Nat}
    (G : Glo h₀ mg mb) (hx : xs.length ≤ 6) (hy : ys.length ≤ 6) (ha : ∀ k, xs.getD k 0 = a k) (hb : ∀ k, ys.getD k 0 = b k)
    (F : Fr h₀ L s.heap m) (N : News h₀ L s.heap ((sa, so) :: (ma, mo) :: (tups ++ rest))) (hsm : sa ≠ ma) (hoffs : ∀ p ∈ tups ++ rest, p.1 ≠ sa ∧ p.1 ≠ ma) (SM : StM m xs ys sw sa ma l r c)
    (hM : PlO mo vsM) (hP : PairsAre (TupL tups) vsM M) (hMl : M.length ≤ 1000)
    (h : ∀ h' tk mo' vsM' M' tups', ((SwE sw a b xs.length ys.length (l, r) ∧ M' = M ++ [(l + 2, r + 2)]) ∨ (¬ SwE sw a b xs.length ys.length (l, r) ∧ M' = M)) → (∀ p ∈ tups, p ∈ tups') → (∀ p ∈ tups', p ∈ tups ∨ ∀ q ∈ rest, p.1 ≠ q.1) → (∀ p ∈ tups' ++ rest, p.1 ≠ sa ∧ p.1 ≠ ma) → PlO mo' vsM' → PairsAre (TupL tups') vsM' M' →
      Fr h₀ L h' m → News h₀ L h' ((sa, so) :: (ma, mo') :: (tups' ++ rest)) → Q .next { s with heap := h', toks := tk }) :
    wpAny (model prog w) A (exec (nth stpWhile 2) (stpEnv L f cd)) Q (fun _ _ => False) s := by
  obtain ⟨⟨t1, q1⟩, ⟨t2, q2⟩, q3, q4, q5, ⟨t6, q6⟩, ⟨t7, q7⟩, ⟨t8, q8⟩⟩ := SM
  have stay : ∀ h' tk, ¬ SwE sw a b xs.length ys.length (l, r) → Fr h₀ L h' m → News h₀ L h' ((sa, so) :: (ma, mo) :: (tups ++ rest)) → Q .next { s with heap := h', toks := tk } :=
    fun h' tk hn F' N' => h h' tk mo vsM M tups (.inr ⟨hn, rfl⟩) (fun _ hp => hp) (fun _ hp => .inl hp) hoffs hM hP F' N'
  show wpAny _ _ (exec (Stmt.If _ _ _ _) _) _ _ _
  walk1; walk1; walk1; walk1; walk1
  by_cases c1 : sw = true
  · rw [if_pos c1]
    iterate 13 walk1
    refine slice_own F N l (l + 2) (by omega) (by omega) (by omega) fun h2 ts2 k2 F2 N2 => ?_
    try dsimp only
    iterate 8 walk1
    try dsimp only
    iterate 7 walk1
    try dsimp only
    refine slice_own (s := { s with heap := h2, toks := _ }) F2 N2 (r + 1) (r + 2) (by omega) (by omega) (by omega) fun h3 ts3 k3 F3 N3 => ?_
    try dsimp only
    iterate 6 walk1
    try dsimp only
    iterate 5 walk1
    try dsimp only
    refine slice_own (s := { s with heap := h3, toks := _ }) F3 N3 r (r + 1) (by omega) (by omega) (by omega) fun h4 ts4 k4 F4 N4 => ?_
    try dsimp only
    refine add_own (by simp; omega) fun t5 k5 => ?_
    try dsimp only
    refine eq_own ?_
    walk1
    have e1 : l + 2 - l = 2 := by omega
    have e2 : r + 2 - (r + 1) = 1 := by omega
    have e3 : r + 1 - r = 1 := by omega
    by_cases c2 : List.take (l + 2 - l) (List.drop l xs) = List.take (r + 2 - (r + 1)) (List.drop (r + 1) ys) ++ List.take (r + 1 - r) (List.drop r ys)
    · rw [if_pos (decide_eq_true c2)]
      rw [e1, e2, e3] at c2
      iterate 7 walk1
      try dsimp only
      refine ld_builtin_at F4 G.g G.glen G.b G.blen ?_
      walk1; walk1; walk1; walk1
      refine len_own (by omega) fun t6' k6 => ?_
      try dsimp only
      walk1; walk1
      by_cases c3 : l + 1 < xs.length
      · rw [if_pos (decide_eq_true (by omega))]
        have hsw : SwE sw a b xs.length ys.length (l, r) := ⟨c1, c3, (swap_test ha hb c3).mp c2⟩
        obtain ⟨nM, rfl⟩ := hM
        walk1; walk1; walk1; walk1; walk1; walk1
        refine Calls.getMethod_list_append (o := { cls := .type "list", data := .seq vsM.toArray nM }) (N4 (ma, _) (by simp)).1 rfl rfl ?_
        try dsimp only
        walk1; walk1
        refine Tuple_ ?_
        walk1; walk1; walk1; walk1; walk1; walk1; walk1; walk1; walk1; walk1; walk1
        refine newTuple_N F4 N4 (hsz := sz2) fun h5 F5 N5 => ?_
        try dsimp only
        walk1
        have hT0s : h4.objs.size ≠ sa := fresh_ne N4 (o := so) (by simp)
        have hT0m : h4.objs.size ≠ ma := fresh_ne N4 (o := { cls := .type "list", data := .seq vsM.toArray nM }) (by simp)
        have hT0r : ∀ q ∈ rest, h4.objs.size ≠ q.1 := fun q hq => Nat.ne_of_gt (Heap.lt_size (N4 q (by simp [hq])).1)
        refine wpAny_list_append_plain (items := vsM.toArray) ⟨nM, (N5 (ma, _) (by simp)).1⟩ (hsz := by have := hP.length; simp [sizeLine_eq]; omega) fun h6 pl6 sb6 => ?_
        dsimp only
        walk1
        have F6 := F5.change sb6 (N5 (ma, { cls := .type "list", data := .seq vsM.toArray nM }) (by simp)).2.1 (N5 (ma, { cls := .type "list", data := .seq vsM.toArray nM }) (by simp)).2.2
        generalize h4.objs.size = T0 at *
        generalize hot : ({ cls := Value.type "tuple", data := Data.seq #[Value.int (↑l + 2) _, Value.int (↑r + 2) _] } : Obj) = oT at *
        have hoT : TupO oT (l + 2) (r + 2) := by rw [← hot]; exact TupO.mk
        obtain ⟨n6, e6⟩ := pl6
        rw [List.push_toArray] at e6
        have N7 : News h₀ L h5 ((ma, { cls := .type "list", data := .seq vsM.toArray nM }) :: (sa, so) :: ((T0, oT) :: tups ++ rest)) := fun p hp => N5 p (by
          simp only [List.mem_cons, List.cons_append] at hp ⊢
          rcases hp with h | h | h | h
          · exact .inr (.inr (.inl h))
          · exact .inr (.inl h)
          · exact .inl h
          · exact .inr (.inr (.inr h)))
        have N8 := News.head N7 sb6 e6 (by
          simp only [List.mem_cons, List.cons_append]
          rintro p (rfl | rfl | hp)
          · exact hsm
          · exact hT0m
          · exact (hoffs p hp).2)
        refine h h6 _ _ (vsM ++ [.ref T0]) _ ((T0, oT) :: tups) (.inl ⟨hsw, rfl⟩) (fun p hp => List.mem_cons_of_mem _ hp) (fun p hp => (List.mem_cons.mp hp).elim (fun e => .inr (by rw [e]; exact hT0r)) .inl) ?_ ⟨n6, rfl⟩ ?_ F6 (fun p hp => N8 p ?_)
        · simp only [List.mem_cons, List.cons_append]
          rintro p (rfl | hp)
          · exact ⟨hT0s, hT0m⟩
          · exact hoffs p hp
        · exact PairsAre.append (hP.mono fun _ _ _ x => x.mono fun p hp => List.mem_cons_of_mem _ hp) (.cons ⟨oT, List.mem_cons_self .., hoT⟩ .nil)
        · simp only [List.mem_cons, List.cons_append] at hp ⊢
          rcases hp with h | h | h | h
          · exact .inr (.inl h)
          · exact .inl h
          · exact .inr (.inr (.inl h))
          · exact .inr (.inr (.inr h))
      · rw [if_neg (by rw [decide_eq_false (by omega)]; exact Bool.false_ne_true)]
        walk1; walk1
        exact stay _ _ (fun hsw => c3 hsw.2.1) F4 N4
    · rw [if_neg (by rw [decide_eq_false c2]; exact Bool.false_ne_true)]
      rw [e1, e2, e3] at c2
      walk1; walk1
      refine stay _ _ (fun hsw => c2 ?_) F4 N4
      exact (swap_test ha hb hsw.2.1).mpr hsw.2.2
  · rw [if_neg c1]
    walk1; walk1
    exact stay _ _ (fun hsw => c1 hsw.1) F N
end Ky
end

section -- KyStep3
open PySem PySem.W PyProof.Rows
set_option Elab.async false
set_option maxRecDepth 100000
namespace Ky
local macro_rules | `(tactic| walk_at "eval Name") => `(tactic| refine ld (by assumption) (by first | rfl | assumption) ?_)

set_option maxHeartbeats 4000000 in
theorem stp_s3 {prog : Program} {w : World} {A : Around} {s : Shared} {h₀ : Heap} {mg mb : Str → Option Value} {L f : Addr} {cd : Value} {m : Str → Option Value} {Q : Flow → Shared → Prop}
    {xs ys : List Nat} {a b : Nat → Nat} {sw : Bool} {sa ma : Addr} {news : List (Addr × Obj)} {l r c : Nat}
    (G : Glo h₀ mg mb) (hh : A.handled = none) (hx : xs.length ≤ 6) (hy : ys.length ≤ 6) (ha : ∀ k, xs.getD k 0 = a k) (hb : ∀ k, ys.getD k 0 = b k) (hl : l ≤ xs.length)
    (F : Fr h₀ L s.heap m) (N : News h₀ L s.heap news) (SM : StM m xs ys sw sa ma l r c)
    (h : ∀ h' tk m' l' r', ((Zero a b xs.length ys.length (l, r) ∧ l' = l + 1 ∧ r' = r + 1) ∨ (¬ Zero a b xs.length ys.length (l, r) ∧ l' = l ∧ r' = r)) → StM m' xs ys sw sa ma l' r' c → Fr h₀ L h' m' → News h₀ L h' news → Q .next { s with heap := h', toks := tk }) :
    wpAny (model prog w) A (exec (nth stpWhile 3) (stpEnv L f cd)) Q (fun _ _ => False) s := by
  have SM' := SM
  obtain ⟨⟨t1, q1⟩, ⟨t2, q2⟩, q3, q4, q5, ⟨t6, q6⟩, ⟨t7, q7⟩, ⟨t8, q8⟩⟩ := SM
  have stay : ∀ h' tk, ¬ Zero a b xs.length ys.length (l, r) → Fr h₀ L h' m → News h₀ L h' news → Q .next { s with heap := h', toks := tk } :=
    fun h' tk hn F' N' => h h' tk m l r (.inr ⟨hn, rfl, rfl⟩) SM' F' N'
  show wpAny _ _ (exec (Stmt.If _ _ _ _) _) _ _ _
  iterate 14 walk1
  refine slice_own F N l (l + 1) (by omega) (by omega) (by omega) fun h2 ts2 k2 F2 N2 => ?_
  try dsimp only
  iterate 11 walk1
  try dsimp only
  refine slice_own (s := { s with heap := h2, toks := _ }) F2 N2 r (r + 1) (by omega) (by omega) (by omega) fun h3 ts3 k3 F3 N3 => ?_
  try dsimp only
  refine eq_own ?_
  walk1
  have e1 : l + 1 - l = 1 := by omega
  have e3 : r + 1 - r = 1 := by omega
  by_cases c2 : List.take (l + 1 - l) (List.drop l xs) = List.take (r + 1 - r) (List.drop r ys)
  · rw [if_pos (decide_eq_true c2)]
    rw [e1, e3] at c2
    walk1; walk1; walk1; walk1
    refine ld_builtin_at F3 G.g G.glen G.b G.blen ?_
    walk1; walk1; walk1; walk1
    refine len_own (by omega) fun t6' k6 => ?_
    try dsimp only
    walk1; walk1
    by_cases c3 : l < xs.length
    · rw [if_pos (decide_eq_true (by omega))]
      have hz : Zero a b xs.length ys.length (l, r) := ⟨c3, (same_test ha hb c3).mp c2⟩
      walk1; walk1
      refine wpAny_execs_cons (Assign_Tuple_swapped (names := ["left", "right"]) ?_ (by rfl) (by rfl))
      refine Tuple_ ?_
      walk1; walk1; walk1; walk1; walk1; walk1; walk1; walk1; walk1; walk1; walk1
      refine newTuple_N F3 N3 (hsz := sz2) fun h4 F4 N4 => ?_
      refine unpackItemsN_ F4 N4 ⟨_, (N4 (_, _) (List.mem_cons_self ..)).1, rfl, _, rfl⟩ hh (by rfl) fun h5 F5 N5 => ?_
      have N6 : News h₀ L h5 news := fun p hp => N5 p (List.mem_cons_of_mem _ hp)
      clear N5 N4 F4
      try dsimp only
      iterate 7 walk1
      clear F5 N6
      rename_i _ _ _ h8 F8 N8
      walk1
      refine h h8 _ _ (l + 1) (r + 1) (.inl ⟨hz, rfl, rfl⟩) ?_ F8 N8
      exact ⟨⟨t1, q1⟩, ⟨t2, q2⟩, q3, q4, q5, ⟨k6 + 1, rfl⟩, ⟨k6 + 1 + 1 + 1, rfl⟩, ⟨t8, q8⟩⟩
    · rw [if_neg (by rw [decide_eq_false (by omega)]; exact Bool.false_ne_true)]
      walk1; walk1
      exact stay _ _ (fun hz => c3 hz.1) F3 N3
  · rw [if_neg (by rw [decide_eq_false c2]; exact Bool.false_ne_true)]
    rw [e1, e3] at c2
    walk1; walk1
    refine stay _ _ (fun hz => c2 ?_) F3 N3
    exact (same_test ha hb hz.1).mpr hz.2
end Ky
end

section -- KyStep4
open PySem PySem.W PyProof.Rows
set_option Elab.async false
set_option maxRecDepth 100000
namespace Ky
local macro_rules | `(tactic| walk_at "eval Name") => `(tactic| refine ld (by assumption) (by first | rfl | assumption) ?_)

structure WI (h₀ : Heap) (L : Addr) (xs ys : List Nat) (a b : Nat → Nat) (sw : Bool) (sa : Addr) (c : Nat) (done : List (Nat × Nat)) (p0 : Nat × Nat) (tups0 rest : List (Addr × Obj))
    (h : Heap) (m : Str → Option Value) (ma : Addr) (so mo : Obj) (tups : List (Addr × Obj)) (vsM : List Value) (M S : List (Nat × Nat)) (l r : Nat) : Prop where
  F : Fr h₀ L h m
  N : News h₀ L h ((sa, so) :: (ma, mo) :: (tups ++ rest))
  hsm : sa ≠ ma
  hoffs : ∀ p ∈ tups ++ rest, p.1 ≠ sa ∧ p.1 ≠ ma
  offR : ∀ p ∈ tups, ∀ q ∈ rest, p.1 ≠ q.1
  SM : StM m xs ys sw sa ma l r c
  hS : SetO (TupL tups) so S
  hM : PlO mo vsM
  hP : PairsAre (TupL tups) vsM M
  R : Round sw a b xs.length ys.length c S done (some (l, r)) M
  sub : ∀ p ∈ tups0, p ∈ tups
  nd : S.Nodup
  ml : M.length ≤ 4 * S.length
  hp0 : Inn xs.length ys.length p0 → p0 ∈ S ∨ p0 = (l, r)

theorem count_le {n m : Nat} {S : List (Nat × Nat)} (hn : n ≤ 6) (hm : m ≤ 6) (nd : S.Nodup) (h : ∀ p ∈ S, Inn n m p) : S.length ≤ 49 := by
  have key : (S.map fun p => p.1 * 7 + p.2).Nodup := by
    refine List.pairwise_map.mpr (nd.imp_of_mem fun {p q} hp hq hne e => hne ?_)
    have h1 := h p hp
    have h2 := h q hq
    unfold Inn at h1 h2
    obtain ⟨p1, p2⟩ := p
    obtain ⟨q1, q2⟩ := q
    simp only [Prod.mk.injEq] at *
    omega
  have hsub : ∀ x ∈ (S.map fun p => p.1 * 7 + p.2), x ∈ List.range 49 := fun x hx => by
    obtain ⟨p, hp, rfl⟩ := List.mem_map.mp hx
    have h1 := h p hp
    unfold Inn at h1
    rw [List.mem_range]; omega
  have := nodup_le _ (List.range 49) key hsub
  simpa using this
end Ky
end

section -- KyStep5
open PySem PySem.W PyProof.Rows
set_option Elab.async false
set_option maxRecDepth 100000
namespace Ky
local macro_rules | `(tactic| walk_at "eval Name") => `(tactic| refine ld (by assumption) (by first | rfl | assumption) ?_)

/-- the test of the inner loop -/
theorem stp_test {prog : Program} {w : World} {A : Around} {s : Shared} {h₀ : Heap} {mg mb : Str → Option Value} {L f : Addr} {cd : Value} {m : Str → Option Value} {Q : Bool → Shared → Prop}
    {xs ys : List Nat} {sw : Bool} {sa ma : Addr} {so : Obj} {tups news : List (Addr × Obj)} {S : List (Nat × Nat)} {l r c : Nat}
    (G : Glo h₀ mg mb) (hu : A.units + 16 < cLine) (hx : xs.length ≤ 6) (hy : ys.length ≤ 6)
    (F : Fr h₀ L s.heap m) (N : News h₀ L s.heap news) (hsa : (sa, so) ∈ news) (hsub : ∀ p ∈ tups, p ∈ news) (SM : StM m xs ys sw sa ma l r c)
    (hS : SetO (TupL tups) so S)
    (hyes : Inn xs.length ys.length (l, r) → (l, r) ∉ S → ∀ h' tk, Fr h₀ L h' m → News h₀ L h' news → Q true { s with heap := h', toks := tk })
    (hno : (Inn xs.length ys.length (l, r) → (l, r) ∈ S) → ∀ h' tk, Fr h₀ L h' m → News h₀ L h' news → Q false { s with heap := h', toks := tk }) :
    wpAny (model prog w) A (isTrue (match nth stpFor 0 with | .While t _ _ _ => t | _ => .Constant .none 0 default) (stpEnv L f cd) (eval (match nth stpFor 0 with | .While t _ _ _ => t | _ => .Constant .none 0 default) (stpEnv L f cd))) Q (fun _ _ => False) s := by
  obtain ⟨⟨t1, q1⟩, ⟨t2, q2⟩, q3, q4, q5, ⟨t6, q6⟩, ⟨t7, q7⟩, ⟨t8, q8⟩⟩ := SM
  show wpAny _ _ (isTrue (Expr.BoolOp _ _ _) _ _) _ _ _
  walk1; walk1; walk1; walk1
  refine ld_builtin_at F G.g G.glen G.b G.blen ?_
  walk1; walk1; walk1; walk1
  refine len_own (by omega) fun t6' k6 => ?_
  try dsimp only
  walk1; walk1
  by_cases c1 : l ≤ xs.length
  · rw [if_pos (decide_eq_true (by omega))]
    walk1; walk1; walk1; walk1
    refine ld_builtin_at F G.g G.glen G.b G.blen ?_
    walk1; walk1; walk1; walk1
    refine len_own (by omega) fun t7' k7 => ?_
    try dsimp only
    walk1; walk1
    by_cases c2 : r ≤ ys.length
    · rw [if_pos (decide_eq_true (by omega))]
      walk1; walk1
      refine Tuple_ ?_
      walk1; walk1; walk1; walk1; walk1
      refine newTuple_N F N (hsz := sz2) fun h2 F2 N2 => ?_
      try dsimp only
      walk1
      refine notin_set (S := S) (l := l) (r := r) (by omega) (hS.at (N2 (sa, so) (by simp [hsa])).1 fun _ _ _ x => x.tupAt N2 (fun p hp => List.mem_cons_of_mem _ (hsub p hp))) ⟨_, _, _, _, (N2 _ (List.mem_cons_self ..)).1, rfl, rfl⟩ (by omega) (by omega) fun k8 => ?_
      have N3 : News h₀ L h2 news := fun p hp => N2 p (List.mem_cons_of_mem _ hp)
      try dsimp only
      walk1
      by_cases c3 : (l, r) ∈ S
      · rw [if_neg (by simp [c3])]
        exact hno (fun _ => c3) _ _ F2 N3
      · rw [if_pos (by simp [c3])]
        walk1
        exact hyes ⟨c1, c2⟩ c3 _ _ F2 N3
    · rw [if_neg (by rw [decide_eq_false (by omega)]; exact Bool.false_ne_true)]
      exact hno (fun z => absurd z.2 c2) _ _ F N
  · rw [if_neg (by rw [decide_eq_false (by omega)]; exact Bool.false_ne_true)]
    exact hno (fun z => absurd z.1 c1) _ _ F N
end Ky
end

section -- KyStep6
open PySem PySem.W PyProof.Rows
set_option Elab.async false
set_option maxRecDepth 100000
namespace Ky

/-- one turn of the inner loop -/
theorem stp_turn {prog : Program} {w : World} {A : Around} {s : Shared} {h₀ : Heap} {mg mb : Str → Option Value} {L f : Addr} {cd : Value} {m : Str → Option Value} {Q : Flow → Shared → Prop}
    {xs ys : List Nat} {a b : Nat → Nat} {sw : Bool} {sa ma : Addr} {so mo : Obj} {tups0 tups rest : List (Addr × Obj)} {vsM : List Value} {M S done : List (Nat × Nat)} {p0 : Nat × Nat} {l r c : Nat}
    (G : Glo h₀ mg mb) (hu : A.units + 16 < cLine) (hh : A.handled = none) (hx : xs.length ≤ 6) (hy : ys.length ≤ 6) (ha : ∀ k, xs.getD k 0 = a k) (hb : ∀ k, ys.getD k 0 = b k)
    (W : WI h₀ L xs ys a b sw sa c done p0 tups0 rest s.heap m ma so mo tups vsM M S l r) (hin : Inn xs.length ys.length (l, r)) (hno : (l, r) ∉ S)
    (h : ∀ h' tk m' ma' so' mo' tups' vsM' M' l' r', WI h₀ L xs ys a b sw sa c done p0 tups0 rest h' m' ma' so' mo' tups' vsM' M' ((l, r) :: S) l' r' → Q .next { s with heap := h', toks := tk }) :
    wpAny (model prog w) A (execs stpWhile (stpEnv L f cd)) Q (fun _ _ => False) s := by
  obtain ⟨F, N, hsm, hoffs, offR, SM, hS, hM, hP, R, sub, nd, ml, hp0⟩ := W
  have hl : l ≤ xs.length := hin.1
  have hr : r ≤ ys.length := hin.2
  have hc49 := count_le hx hy nd (fun p hp => (R.A p hp).1)
  refine wpAny_execs_cons (stp_s0 hu F N hsm hoffs SM hS (by omega) (by omega) hno fun h1 k1 so1 pS hpS1 hpS2 hpR hS1 F1 N1 => ?_)
  have hoffs1 : ∀ p ∈ (pS :: tups) ++ rest, p.1 ≠ sa ∧ p.1 ≠ ma := by
    simp only [List.mem_cons, List.cons_append]
    rintro p (rfl | hp)
    · exact ⟨hpS1, hpS2⟩
    · exact hoffs p hp
  have hP1 : PairsAre (TupL (pS :: tups)) vsM M := hP.mono fun _ _ _ x => x.mono fun p hp => List.mem_cons_of_mem _ hp
  refine wpAny_execs_cons (stp_s1 (s := { s with heap := h1, toks := k1 }) F1 N1 hoffs1 SM hM hP1 (by omega) fun h2 k2 m2 ma2 mo2 vs2 p1 p2 p3 SM2 hsm2 hr3 hoffs2 hM2 hP2 F2 N2 => ?_)
  have hsubT : ∀ p ∈ pS :: tups, p ∈ p1 :: p2 :: p3 :: (pS :: tups) := fun p hp => List.mem_cons_of_mem _ (List.mem_cons_of_mem _ (List.mem_cons_of_mem _ hp))
  have ml2 : (M ++ [(l + 1, r), (l, r + 1), (l + 1, r + 1)]).length ≤ 4 * S.length + 3 := by simp; omega
  refine wpAny_execs_cons (stp_s2 (s := { s with heap := h2, toks := k2 }) G hx hy ha hb F2 N2 hsm2 hoffs2 SM2 hM2 hP2 (by omega) fun h3 k3 mo3 vs3 M3 tups3 hcase hsub3 hr4 hoffs3 hM3 hP3 F3 N3 => ?_)
  refine wpAny_execs_cons (stp_s3 (s := { s with heap := h3, toks := k3 }) G hh hx hy ha hb hl F3 N3 SM2 fun h4 k4 m4 l' r' hz SM4 F4 N4 => wpAny_execs_nil ?_)
  refine h h4 k4 m4 ma2 so1 mo3 tups3 vs3 M3 l' r' ⟨F4, N4, hsm2, hoffs3, ?_, SM4, ?_, hM3, hP3, ?_, ?_, ?_, ?_, ?_⟩
  · intro p hp
    rcases hr4 p hp with h | h
    · simp only [List.mem_cons] at h
      rcases h with rfl | rfl | rfl | rfl | h
      · exact fun q hq => (hr3 q hq).1
      · exact fun q hq => (hr3 q hq).2.1
      · exact fun q hq => (hr3 q hq).2.2
      · exact hpR
      · exact offR p h
    · exact h
  · exact hS1.keeps fun _ _ _ x => x.mono fun p hp => hsub3 p (hsubT p hp)
  · refine R.step hin hno ?_ ?_
    · intro q
      rcases hcase with ⟨hsw, rfl⟩ | ⟨hsw, rfl⟩
      · simp only [List.mem_append, List.mem_cons, List.not_mem_nil, or_false, Succ, hsw, true_and, or_assoc]
      · simp only [List.mem_append, List.mem_cons, List.not_mem_nil, or_false, Succ, hsw, false_and, or_assoc]
    · rcases hz with ⟨hz, rfl, rfl⟩ | ⟨hz, rfl, rfl⟩
      · exact .inl ⟨hz, rfl⟩
      · exact .inr ⟨hz, rfl⟩
  · exact fun p hp => hsub3 p (hsubT p (List.mem_cons_of_mem _ (sub p hp)))
  · exact List.nodup_cons.mpr ⟨hno, nd⟩
  · rcases hcase with ⟨hsw, rfl⟩ | ⟨hsw, rfl⟩ <;> simp <;> omega
  · intro hi
    rcases hp0 hi with hq | rfl
    · exact .inl (List.mem_cons_of_mem _ hq)
    · exact .inl (List.mem_cons_self ..)

/-- the inner loop -/
theorem stp_while {prog : Program} {w : World} {A : Around} {s : Shared} {h₀ : Heap} {mg mb : Str → Option Value} {L f : Addr} {cd : Value} {m : Str → Option Value} {Q : Flow → Shared → Prop}
    {xs ys : List Nat} {a b : Nat → Nat} {sw : Bool} {sa ma : Addr} {so mo : Obj} {tups0 tups rest : List (Addr × Obj)} {vsM : List Value} {M S done : List (Nat × Nat)} {p0 : Nat × Nat} {l r c : Nat}
    (G : Glo h₀ mg mb) (hu : A.units + 16 < cLine) (hh : A.handled = none) (hx : xs.length ≤ 6) (hy : ys.length ≤ 6) (ha : ∀ k, xs.getD k 0 = a k) (hb : ∀ k, ys.getD k 0 = b k)
    (W : WI h₀ L xs ys a b sw sa c done p0 tups0 rest s.heap m ma so mo tups vsM M S l r)
    (h : ∀ h' tk m' ma' so' mo' tups' vsM' M' S' l' r', WI h₀ L xs ys a b sw sa c done p0 tups0 rest h' m' ma' so' mo' tups' vsM' M' S' l' r' → (Inn xs.length ys.length (l', r') → (l', r') ∈ S') → Q .next { s with heap := h', toks := tk }) :
    wpAny (model prog w) A (exec (nth stpFor 0) (stpEnv L f cd)) Q (fun _ _ => False) s := by
  show wpAny _ _ (exec (Stmt.While _ _ _ _) _) _ _ _
  refine wpAny_While ?_
  refine codeAny_whileLoop (fun k s' => ∃ h' tk m' ma' so' mo' tups' vsM' M' S' l' r', s' = { s with heap := h', toks := tk } ∧ WI h₀ L xs ys a b sw sa c done p0 tups0 rest h' m' ma' so' mo' tups' vsM' M' S' l' r' ∧ k = 50 - S'.length) ?_ (50 - S.length)
    ⟨_, s.toks, m, ma, so, mo, tups, vsM, M, S, l, r, rfl, W, rfl⟩
  rintro k s' ⟨h', tk, m', ma', so', mo', tups', vsM', M', S', l', r', rfl, W', rfl⟩
  refine wpAny_mono (E := fun _ _ => False) ?_ (fun _ _ z => z) (fun _ _ z => z.elim)
  refine stp_test (s := { s with heap := h', toks := tk }) (tups := tups') (sa := sa) (so := so') G hu hx hy W'.F W'.N (List.mem_cons_self ..) (fun p hp => by simp [hp]) W'.SM W'.hS ?_ ?_
  · intro hin hno h2 tk2 F2 N2
    rw [if_pos rfl]
    refine wpAny_mono (E := fun _ _ => False) ?_ (fun _ _ z => z) (fun _ _ z => z.elim)
    have W2 : WI h₀ L xs ys a b sw sa c done p0 tups0 rest h2 m' ma' so' mo' tups' vsM' M' S' l' r' := ⟨F2, N2, W'.hsm, W'.hoffs, W'.offR, W'.SM, W'.hS, W'.hM, W'.hP, W'.R, W'.sub, W'.nd, W'.ml, W'.hp0⟩
    refine stp_turn (s := { s with heap := h2, toks := tk2 }) G hu hh hx hy ha hb W2 hin hno fun h3 tk3 m3 ma3 so3 mo3 tups3 vs3 M3 l3 r3 W3 => ?_
    have h49 := count_le hx hy W3.nd (fun p hp => (W3.R.A p hp).1)
    simp only [List.length_cons] at h49
    exact ⟨50 - ((l', r') :: S').length, by simp only [List.length_cons]; omega, h3, tk3, m3, ma3, so3, mo3, tups3, vs3, M3, _, l3, r3, rfl, W3, rfl⟩
  · intro hno h2 tk2 F2 N2
    rw [if_neg Bool.false_ne_true]
    refine wpAny_execs_nil ?_
    exact h h2 tk2 m' ma' so' mo' tups' vsM' M' S' l' r' ⟨F2, N2, W'.hsm, W'.hoffs, W'.offR, W'.SM, W'.hS, W'.hM, W'.hP, W'.R, W'.sub, W'.nd, W'.ml, W'.hp0⟩ hno
end Ky
end

section -- KyRound
open PySem PySem.W PyProof.Rows
set_option Elab.async false
set_option maxRecDepth 100000
namespace Ky
local macro_rules | `(tactic| walk_at "eval Name") => `(tactic| refine ld (by assumption) (by first | rfl | assumption) ?_)

structure StP (m : Str → Option Value) (xs ys : List Nat) (sw : Bool) (sa pa : Addr) : Prop where
  one : ∃ t, m "one" = some (.str ⟨xs.toArray⟩ t)
  other : ∃ t, m "other" = some (.str ⟨ys.toArray⟩ t)
  sw : m "swaps" = some (.bool sw)
  seen : m "seen" = some (.ref sa)
  places : m "places" = some (.ref pa)
structure StF (m : Str → Option Value) (xs ys : List Nat) (sw : Bool) (sa ma : Addr) (c : Nat) : Prop where
  one : ∃ t, m "one" = some (.str ⟨xs.toArray⟩ t)
  other : ∃ t, m "other" = some (.str ⟨ys.toArray⟩ t)
  sw : m "swaps" = some (.bool sw)
  seen : m "seen" = some (.ref sa)
  more : m "more" = some (.ref ma)
  cost : ∃ t, m "cost" = some (.int (c : Nat) t)

structure RI (xs ys : List Nat) (a b : Nat → Nat) (sw : Bool) (sa : Addr) (c : Nat) (m : Str → Option Value) (pa : Addr) (so po : Obj) (tups : List (Addr × Obj)) (vsP : List Value) (P S : List (Nat × Nat)) : Prop where
  SP : StP m xs ys sw sa pa
  hsp : pa ≠ sa
  hoffs : ∀ p ∈ tups, p.1 ≠ sa ∧ p.1 ≠ pa
  hS : SetO (TupL tups) so S
  nd : S.Nodup
  hSx : ∀ p, p ∈ S ↔ Inn xs.length ys.length p ∧ dist sw a b p < c
  hpo : PlO po vsP
  hP : PairsAre (TupL tups) vsP P
  pl : PL sw a b xs.length ys.length c P
  le : c ≤ D sw a b xs.length ys.length

structure FI (xs ys : List Nat) (a b : Nat → Nat) (sw : Bool) (sa : Addr) (c : Nat) (tups rest : List (Addr × Obj)) (P : List (Nat × Nat)) (i : Nat) (m : Str → Option Value) (n : List (Addr × Obj))
    (ma : Addr) (so mo : Obj) (tupsI : List (Addr × Obj)) (vsM : List Value) (M S : List (Nat × Nat)) : Prop where
  n : n = (sa, so) :: (ma, mo) :: (tupsI ++ rest)
  hsm : sa ≠ ma
  hoffs : ∀ p ∈ tupsI ++ rest, p.1 ≠ sa ∧ p.1 ≠ ma
  offR : ∀ p ∈ tupsI, ∀ q ∈ rest, p.1 ≠ q.1
  SF : StF m xs ys sw sa ma c
  hS : SetO (TupL tupsI) so S
  hM : PlO mo vsM
  hP : PairsAre (TupL tupsI) vsM M
  R : Round sw a b xs.length ys.length c S (P.take i) none M
  sub : ∀ p ∈ tups, p ∈ tupsI
  nd : S.Nodup
  ml : M.length ≤ 4 * S.length

/-- one round -/
theorem stp_round {prog : Program} {w : World} {A : Around} {s : Shared} {h₀ : Heap} {mg mb : Str → Option Value} {L f : Addr} {cd : Value} {m : Str → Option Value} {Q : Flow → Shared → Prop}
    {xs ys : List Nat} {a b : Nat → Nat} {sw : Bool} {sa pa Io : Addr} {so po ito : Obj} {tups : List (Addr × Obj)} {vsP : List Value} {P S : List (Nat × Nat)} {c : Nat}
    (G : Glo h₀ mg mb) (hu : A.units + 16 < cLine) (hh : A.handled = none) (hx : xs.length ≤ 6) (hy : ys.length ≤ 6) (ha : ∀ k, xs.getD k 0 = a k) (hb : ∀ k, ys.getD k 0 = b k)
    (F : Fr h₀ L s.heap m) (N : News h₀ L s.heap ((Io, ito) :: (sa, so) :: (pa, po) :: tups)) (hIo : ∀ p ∈ (sa, so) :: (pa, po) :: tups, p.1 ≠ Io) (I : RI xs ys a b sw sa c m pa so po tups vsP P S) (hcost : ∃ t, m "cost" = some (.int (c : Nat) t))
    (hret : ∀ h' tk m' t, c = D sw a b xs.length ys.length → Fr h₀ L h' m' → Q (.ret (.int (c : Nat) t)) { s with heap := h', toks := tk })
    (hnext : ∀ h' tk m' pa' so' po' tups' vs' P' S', RI xs ys a b sw sa (c + 1) m' pa' so' po' tups' vs' P' S' → Fr h₀ L h' m' → News h₀ L h' ((Io, ito) :: (sa, so') :: (pa', po') :: tups') → (∀ p ∈ (sa, so') :: (pa', po') :: tups', p.1 ≠ Io) → Q .next { s with heap := h', toks := tk }) :
    wpAny (model prog w) A (execs stpOuter (stpEnv L f cd)) Q (fun _ _ => False) s := by
  obtain ⟨⟨⟨t1, q1⟩, ⟨t2, q2⟩, q3, q4, q5⟩, hsp, hoffs, hS, nd, hSx, hpo, hP, pl, hle⟩ := I
  obtain ⟨t8, q8⟩ := hcost
  walk1; walk1; walk1; walk1
  refine newList_N F N fun h1 F1 N1 => ?_
  have g1 : s.heap.objs.size ≠ sa := fresh_ne N (o := so) (by simp)
  have g2 : s.heap.objs.size ≠ pa := fresh_ne N (o := po) (by simp)
  have g3 : s.heap.objs.size ≠ Io := fresh_ne N (o := ito) (by simp)
  have g4 : ∀ p ∈ tups, p.1 ≠ s.heap.objs.size := fun p hp => (Nat.ne_of_gt (Heap.lt_size (N p (by simp [hp])).1)).symm
  generalize s.heap.objs.size = ma at *
  try dsimp only
  walk1
  clear F1 N1
  rename_i h2 F2 N2
  have N3 : News h₀ L h2 ((sa, so) :: (ma, { cls := .type "list", data := .seq ([] : List Value).toArray }) :: (tups ++ [(Io, ito), (pa, po)])) := fun p hp => N2 p (by
    simp only [List.mem_cons, List.mem_append, List.not_mem_nil, or_false] at hp ⊢
    rcases hp with h | h | h | h | h
    · exact .inr (.inr (.inl h))
    · exact .inl h
    · exact .inr (.inr (.inr (.inr h)))
    · exact .inr (.inl h)
    · exact .inr (.inr (.inr (.inl h))))
  refine wpAny_execs_cons (wpAny_For ?_)
  walk1
  refine for_pairs (po := po) (vs := vsP) (P := P) (fun i m₁ n => ∃ ma so mo tupsI vsM M S, FI xs ys a b sw sa c tups [(Io, ito), (pa, po)] P i m₁ n ma so mo tupsI vsM M S) hh hpo hP.length rfl rfl rfl F2 N3 ?_ ?_ ?_ ?_
  · refine ⟨ma, so, _, tups, [], [], S, rfl, Ne.symm g1, ?_, ?_, ⟨⟨t1, q1⟩, ⟨t2, q2⟩, q3, q4, rfl, ⟨t8, q8⟩⟩, hS, ⟨0, rfl⟩, .nil, ?_, fun _ hp => hp, nd, Nat.zero_le _⟩
    · simp only [List.mem_cons, List.mem_append, List.not_mem_nil, or_false]
      rintro p (h | rfl | rfl)
      · exact ⟨(hoffs p h).1, g4 p h⟩
      · exact ⟨(hIo (sa, so) (by simp)).symm, g3.symm⟩
      · exact ⟨hsp, g2.symm⟩
    · intro p hp q hq
      simp only [List.mem_cons, List.not_mem_nil, or_false] at hq
      rcases hq with rfl | rfl
      · exact hIo p (by simp [hp])
      · exact (hoffs p hp).2
    · rw [List.take_zero]; exact Round.start hSx
  · rintro i m₁ n ⟨ma', so', mo', tupsI, vsM, M, S', I⟩
    rw [I.n]
    refine ⟨by simp, hP.mono fun _ _ _ x => x.mono fun p hp => by simp [I.sub p hp]⟩
  · rintro i l r t u m₁ news₁ h4 tk4 I it hget hoff ⟨ma', so', mo', tupsI, vsM, M, S', J⟩ F4 N4
    obtain ⟨rfl, jsm, joffs, jR, ⟨j1, j2, j3, j4, j5, j6⟩, jS, jM, jP, jRd, jsub, jnd, jml⟩ := J
    have hmem : (l, r) ∈ P := List.mem_of_getElem? hget
    have W : WI h₀ L xs ys a b sw sa c (P.take i) (l, r) tups [(Io, ito), (pa, po), (I, it)] h4 _ ma' so' mo' tupsI vsM M S' l r :=
      ⟨F4, ?_, jsm, ?_, ?_, ⟨j1, j2, j3, j4, j5, ⟨_, rfl⟩, ⟨_, rfl⟩, j6⟩, jS, jM, jP, jRd.take (pl.le _ hmem), jsub, jnd, jml, fun _ => .inr rfl⟩
    · refine wpAny_execs_cons (stp_while (s := { s with heap := h4, toks := tk4 }) G hu hh hx hy ha hb W ?_)
      intro h5 tk5 m5 ma5 so5 mo5 tups5 vs5 M5 S5 l5 r5 W5 hx5
      refine wpAny_execs_nil ?_
      obtain ⟨F5, N5, wsm, woffs, wR, ⟨w1, w2, w3, w4, w5, _, _, w8⟩, wS, wM, wP, wRd, wsub, wnd, wml, wp0⟩ := W5
      refine TEnd.intro F5 (news' := (sa, so5) :: (ma5, mo5) :: (tups5 ++ [(Io, ito), (pa, po)])) ?_ ?_ ⟨ma5, so5, mo5, tups5, vs5, M5, S5, rfl, wsm, ?_, ?_, ⟨w1, w2, w3, w4, w5, w8⟩, wS, wM, wP, wRd.exit wp0 hx5 ?_, wsub, wnd, wml⟩
      · intro p hp
        refine N5 p ?_
        simp only [List.mem_cons, List.mem_append, List.not_mem_nil, or_false] at hp ⊢
        rcases hp with h | h | h | h | h | h <;> simp [h]
      · simp only [List.mem_cons, List.mem_append, List.not_mem_nil, or_false]
        rintro p (rfl | rfl | h | rfl | rfl)
        · exact (woffs (I, it) (by simp)).1.symm
        · exact (woffs (I, it) (by simp)).2.symm
        · exact wR p h (I, it) (by simp)
        · exact hoff (Io, ito) (by simp)
        · exact hoff (pa, po) (by simp)
      · intro p hp
        exact woffs p (by simp only [List.mem_append, List.mem_cons, List.not_mem_nil, or_false] at hp ⊢; rcases hp with h | h | h <;> simp [h])
      · intro p hp q hq
        exact wR p hp q (by simp only [List.mem_cons, List.not_mem_nil, or_false] at hq ⊢; rcases hq with h | h <;> simp [h])
      · intro q hq
        rw [List.take_add_one, hget] at hq
        simpa using hq
    · intro p hp
      refine N4 p ?_
      simp only [List.mem_cons, List.mem_append, List.not_mem_nil, or_false] at hp ⊢
      rcases hp with h | h | h | h | h | h <;> simp [h]
    · simp only [List.mem_append, List.mem_cons, List.not_mem_nil, or_false]
      rintro p (h | rfl | rfl | rfl)
      · exact joffs p (by simp [h])
      · exact joffs (Io, ito) (by simp)
      · exact joffs (pa, po) (by simp)
      · exact ⟨(hoff (sa, so') (by simp)).symm, (hoff (ma', mo') (by simp)).symm⟩
    · intro p hp q hq
      simp only [List.mem_cons, List.not_mem_nil, or_false] at hq
      rcases hq with rfl | rfl | rfl
      · exact jR p hp (Io, ito) (by simp)
      · exact jR p hp (pa, po) (by simp)
      · exact hoff p (by simp [hp])
  · rintro m₁ news₁ h4 tk4 ⟨ma', so', mo', tupsI, vsM, M, S', J⟩ F4 N4
    obtain ⟨rfl, jsm, joffs, jR, ⟨⟨j1, p1⟩, ⟨j2, p2⟩, p3, p4, p5, ⟨j6, p6⟩⟩, jS, jM, jP, jRd, jsub, jnd, jml⟩ := J
    rw [List.take_length] at jRd
    clear N3 F2 N2 F N
    show wpAny _ _ (execs (Stmt.If _ _ _ _ :: _) _) _ _ _
    change Fr h₀ L h4 m₁ at F4
    change News h₀ L h4 _ at N4
    walk1; walk1; walk1
    refine Tuple_ ?_
    walk1; walk1
    refine ld_builtin_at F4 G.g G.glen G.b G.blen ?_
    walk1; walk1; walk1; walk1
    refine len_own (by omega) fun t5 k5 => ?_
    try dsimp only
    walk1; walk1
    refine ld_builtin_at F4 G.g G.glen G.b G.blen ?_
    walk1; walk1; walk1; walk1
    refine len_own (by omega) fun t6 k6 => ?_
    try dsimp only
    walk1
    refine newTuple_N F4 N4 (hsz := sz2) fun h5 F5 N5 => ?_
    try dsimp only
    walk1
    refine in_set (S := S') (l := xs.length) (r := ys.length) (by omega) (jS.at (N5 (sa, so') (by simp)).1 fun _ _ _ x => x.tupAt N5 (fun p hp => by simp [hp])) ⟨_, _, _, _, (N5 _ (List.mem_cons_self ..)).1, rfl, rfl⟩ (by omega) (by omega) fun k8 => ?_
    have N6 : News h₀ L h5 ((sa, so') :: (ma', mo') :: (tupsI ++ [(Io, ito), (pa, po)])) := fun p hp => N5 p (List.mem_cons_of_mem _ hp)
    try dsimp only
    walk1
    have hall := jRd.all pl
    by_cases c3 : (xs.length, ys.length) ∈ S'
    · rw [if_pos (by simp [c3])]
      have hd := ((hall _).mp c3).2
      have hd' : D sw a b xs.length ys.length < c + 1 := hd
      walk1; walk1; walk1
      exact hret _ _ _ _ (by omega) F5
    · rw [if_neg (by simp [c3])]
      have hd : ¬ D sw a b xs.length ys.length < c + 1 := fun h => c3 ((hall _).mpr ⟨⟨Nat.le_refl _, Nat.le_refl _⟩, h⟩)
      clear N5
      walk1; walk1; walk1; walk1; walk1
      rename_i h7 F7 N7
      walk1
      have N8 : News h₀ L h7 ((Io, ito) :: (sa, so') :: (ma', mo') :: tupsI) := fun p hp => N7 p (by
        simp only [List.mem_cons, List.mem_append, List.not_mem_nil, or_false] at hp ⊢
        rcases hp with h | h | h | h <;> simp [h])
      refine hnext h7 _ _ ma' so' mo' tupsI vsM M S' ⟨?_, jsm.symm, fun p hp => joffs p (by simp [hp]), jS, jnd, hall, jM, jP, pl.next jRd, by omega⟩ F7 N8 ?_
      · exact ⟨⟨j1, p1⟩, ⟨j2, p2⟩, p3, p4, rfl⟩
      simp only [List.mem_cons]
      rintro p (rfl | rfl | h)
      · exact (joffs (Io, ito) (by simp)).1.symm
      · exact (joffs (Io, ito) (by simp)).2.symm
      · exact jR p h (Io, ito) (by simp)
end Ky
end

section -- KyStpCall
open PySem PySem.W PyProof.Rows
set_option Elab.async false
set_option maxRecDepth 100000
namespace Ky
local macro_rules | `(tactic| walk_at "eval Name") => `(tactic| refine ld (by assumption) (by first | rfl | assumption) ?_)

theorem stp_body {prog : Program} {w : World} {A : Around} {s : Shared} {h₀ : Heap} {mg mb : Str → Option Value} {L f : Addr} {cd : Value} {m : Str → Option Value} {Q : Flow → Shared → Prop}
    {xs ys : List Nat} {a b : Nat → Nat} {sw : Bool} {t1 t2 : Tok}
    (G : Glo h₀ mg mb) (hu : A.units + 16 < cLine) (hh : A.handled = none) (hx : xs.length ≤ 6) (hy : ys.length ≤ 6) (ha : ∀ k, xs.getD k 0 = a k) (hb : ∀ k, ys.getD k 0 = b k)
    (F : Fr h₀ L s.heap m) (q1 : m "one" = some (.str ⟨xs.toArray⟩ t1)) (q2 : m "other" = some (.str ⟨ys.toArray⟩ t2)) (q3 : m "swaps" = some (.bool sw))
    (hQ : ∀ h' tk' m' t, Fr h₀ L h' m' → Q (.ret (.int ((D sw a b xs.length ys.length : Nat) : Int) t)) { s with heap := h', toks := tk' }) :
    wpAny (model prog w) A (execs stpBody (stpEnv L f cd)) Q (fun _ _ => False) s := by
  have N : News h₀ L s.heap [] := News.nil
  walk1; walk1; walk1
  refine ld_builtin_at F G.g G.gset G.b G.bset ?_
  walk1
  refine newSet_N F N fun h1 led F1 N1 => ?_
  have hsaL := F.ns.lt
  generalize s.heap.objs.size = sa at *
  try dsimp only
  walk1
  clear F1 N1 F N
  rename_i h2 F2 N2
  walk1; walk1
  refine List_ ?_
  walk1
  refine Tuple_ ?_
  walk1; walk1; walk1; walk1; walk1
  refine newTuple_N F2 N2 (hsz := sz2) fun h3 F3 N3 => ?_
  have g3s : h2.objs.size ≠ sa := fresh_ne N2 (List.mem_cons_self ..)
  generalize h2.objs.size = T0 at *
  try dsimp only
  walk1
  refine newList_N F3 N3 (hsz := sz1) fun h4 F4 N4 => ?_
  have g4s : h3.objs.size ≠ sa := fresh_ne N3 (List.mem_cons_of_mem _ (List.mem_cons_self ..))
  have g4t : h3.objs.size ≠ T0 := fresh_ne N3 (List.mem_cons_self ..)
  generalize h3.objs.size = pa at *
  try dsimp only
  walk1
  clear F2 N2 F3 N3 F4 N4
  rename_i h5 F5 N5
  refine wpAny_execs_cons (For_invV h₀ (by rfl) (by rfl) ?_ (hE := PassesOwn.never))
  walk1
  refine ld_builtin_at F5 G.g G.grange G.b G.brange ?_
  walk1; walk1; walk1; walk1; walk1
  refine ld_builtin_at F5 G.g G.glen G.b G.blen ?_
  walk1; walk1; walk1; walk1
  refine len_own (by omega) fun t5 k5 => ?_
  try dsimp only
  walk1
  refine ld_builtin_at F5 G.g G.glen G.b G.blen ?_
  walk1; walk1; walk1; walk1
  refine len_own (by omega) fun t6 k6 => ?_
  try dsimp only
  walk1; walk1; walk1; walk1
  try dsimp only
  refine range1_rows F5 N5 fun h10 tk10 ta ua va hr F10 N10 _ => ?_
  generalize hoT : ({ cls := Value.type "tuple", data := Data.seq #[Value.int 0 _, Value.int 0 _] } : Obj) = oT at *
  have toT : TupO oT 0 0 := by rw [← hoT]; exact TupO.mk
  have N11 : News h₀ L h10 [(sa, { cls := .type "set", dict := none, data := .set #[] 0 (.fresh 0 0 led) }), (pa, { cls := .type "list", data := .seq [Value.ref T0].toArray }), (T0, oT)] := fun p hp => N10 p (by
    simp only [List.mem_cons, List.not_mem_nil, or_false] at hp ⊢
    rcases hp with h | h | h <;> simp [h])
  refine iter_range (fun c m₁ n => ∃ pa so po tups vsP P S, n = (sa, so) :: (pa, po) :: tups ∧ RI xs ys a b sw sa c m₁ pa so po tups vsP P S) hh hr (n := xs.length + ys.length + 1) (by omega) (by omega) F10 N11 ?_ ?_ ?_
  · refine ⟨pa, _, _, _, _, [(0, 0)], [], rfl, ⟨⟨⟨t1, q1⟩, ⟨t2, q2⟩, q3, rfl, rfl⟩, g4s, ?_, SetO.new led, .nil, ?_, ⟨0, rfl⟩, .cons ⟨oT, List.mem_cons_self .., toT⟩ .nil, PL.first, Nat.zero_le _⟩⟩
    · intro p hp
      rw [List.mem_singleton.mp hp]
      exact ⟨g3s, g4t.symm⟩
    · intro p
      simp
  · rintro c t m₁ news₁ h12 tk12 I it hc hoff ⟨pa, so, po, tups, vsP, P, S, rfl, R⟩ F12 N12
    obtain ⟨⟨j1, j2, j3, j4, j5⟩, hsp, hoffs, hS, nd, hSx, hpo, hP, pl, hle⟩ := R
    refine stp_round (s := { s with heap := h12, toks := tk12 }) G hu hh hx hy ha hb F12 N12 hoff ⟨⟨j1, j2, j3, j4, j5⟩, hsp, hoffs, hS, nd, hSx, hpo, hP, pl, hle⟩ ⟨t, rfl⟩ ?_ ?_
    · intro h' tk m' t' e F'
      show Q (.ret _) _
      rw [e]
      exact hQ _ _ _ _ F'
    · intro h' tk m' pa' so' po' tups' vs' P' S' R' F' N' hoff'
      exact TEnd.intro F' N' hoff' ⟨pa', so', po', tups', vs', P', S', rfl, R'⟩
  · rintro m₁ news₁ h12 tk12 ⟨pa, so, po, tups, vsP, P, S, rfl, R⟩ F12 N12
    have h1 := R.le
    have h2 := D_le_add (sw := sw) (a := a) (b := b) xs.length ys.length
    omega

theorem stp_call {prog : Program} {w : World} {A : Around} {s : Shared} {mg mb : Str → Option Value} {f : Addr} {fo : Obj} {kV doc pm cdv ct : Value} {an : Option Addr} {R : Result → Shared → Prop}
    {xs ys : List Nat} {a b : Nat → Nat} {sw : Bool} {t1 t2 : Tok}
    (G : Glo s.heap mg mb) (hu : A.units + 20 < cLine) (hh : A.handled = none) (hroom : A.depth < recursionLimit)
    (ho : s.heap.get? f = some fo) (hd : fo.data = .func (fnOf "_law_steps" "_law_steps" (defParams (stAt 7)) stpBody stpScope .none kV doc pm an cdv ct))
    (hcd : s.heap.CodeRec cdv "_law_steps")
    (hx : xs.length ≤ 6) (hy : ys.length ≤ 6) (ha : ∀ k, xs.getD k 0 = a k) (hb : ∀ k, ys.getD k 0 = b k)
    (hR : ∀ h' tk' t, (∀ b o, s.heap.get? b = some o → h'.get? b = some o) → R (.ok (.ret (.int ((D sw a b xs.length ys.length : Nat) : Int) t))) { s with heap := h', toks := tk' }) :
    codeAny (model prog w) A (.call (.ref f) ⟨[.str ⟨xs.toArray⟩ t1, .str ⟨ys.toArray⟩ t2, .bool sw], []⟩) R s := by
  refine codeAny_call_def (body := stpBody) (binds := [("one", .str ⟨xs.toArray⟩ t1), ("other", .str ⟨ys.toArray⟩ t2), ("swaps", .bool sw)]) hroom ho hd G.nolimit hcd rfl (BindsTo.of_eq rfl) (by show ∀ x ∈ stpScope.names, x.2 ≠ .cell; decide) (locs rfl) fun h₁ hns hk => ?_
  have F : Fr s.heap s.heap.objs.size h₁ (fun x => ([("one", .str ⟨xs.toArray⟩ t1), ("other", .str ⟨ys.toArray⟩ t2), ("swaps", .bool sw)] : List (Str × Value)).reverse.lookup x) := ⟨hns, hk, Nat.le_refl _⟩
  refine wpAny_mono (stp_body (Q := fun fl s' => R (.ok (.ret (match fl with | .ret v => v | _ => .none))) s') G (A := A.deeper (stpEnv s.heap.objs.size f cdv)) (by rw [Around.deeper_units]; omega) hh hx hy ha hb F rfl rfl rfl ?_) (fun _ _ x => x) (fun _ _ x => x.elim)
  intro h' tk' m' t F'
  exact hR h' tk' t F'.keep
end Ky
end

section -- KyTrn
open PySem PySem.W PyProof.Rows
set_option Elab.async false
set_option maxRecDepth 100000
namespace Ky
local macro_rules | `(tactic| walk_at "eval Name") => `(tactic| refine ld (by assumption) (by first | rfl | assumption) ?_)
abbrev trnScope : Scope := defScope (stAt 6)
abbrev trnBody : List Stmt := defBody (stAt 6)
abbrev trnFor : List Stmt := forBody (nth trnBody 0)
abbrev trnEnv (L f : Addr) (cd : Value) : Env := envOf "_law_turned" trnScope L f cd

theorem slc {prog : Program} {w : World} {A : Around} {E : Value → Shared → Prop} {h₀ hp : Heap} {L : Addr} {m : Str → Option Value} {news : List (Addr × Obj)} {s : Shared} {k : Nat} {value slice : Expr} {x : Str} {t : Tok} {p q : Value} {Q : Value → Shared → Prop}
    (hpp : p = .none ∨ ∃ i u, p = .int i u) (hqq : q = .none ∨ ∃ i u, q = .int i u) (hx : x.length ≤ 2 ^ 12) (hF : Fr h₀ L hp m) (hN : News h₀ L hp news)
    (h : ∀ h' t' k x', x'.length ≤ x.length → Fr h₀ L h' m → News h₀ L h' news → Q (.str x' t') { heap := h', gens := s.gens, drawn := s.drawn, toks := k, os := s.os })
    (hs : subscripted slice false (.str x t) (.ref hp.objs.size) = operate [.ref hp.objs.size, .str x t] (getItem (.str x t) (.ref hp.objs.size)) := by with_unfolding_all rfl)
    (ht : ∀ r, letTemporaryGo value (.str x t) r = pure () := by intro _; with_unfolding_all rfl) :
    wpAny (model prog w) A (subscriptTail value slice (.str x t) (.ref hp.objs.size)) Q E { heap := hp.push { cls := .type "slice", data := .fields #[p, q, .none] }, gens := s.gens, drawn := s.drawn, toks := k, os := s.os } := by
  have hsz : x.length ≤ sizeLine := by rw [sizeLine_eq]; omega
  rcases hpp with rfl | ⟨i, u, rfl⟩ <;> rcases hqq with rfl | ⟨j, v, rfl⟩
  · exact slice_strN_nn (s := { s with heap := hp, toks := k }) hF hN (fun h' t' k a b => h h' t' k _ (PyProof.Txt.length_slice_le x _ _) a b) hs ht hsz
  · exact slice_strN_ns (s := { s with heap := hp, toks := k }) hF hN (fun h' t' k a b => h h' t' k _ (PyProof.Txt.length_slice_le x _ _) a b) hs ht hsz
  · exact slice_strN_sn (s := { s with heap := hp, toks := k }) hF hN (fun h' t' k a b => h h' t' k _ (PyProof.Txt.length_slice_le x _ _) a b) hs ht hsz
  · exact slice_strN_ss (s := { s with heap := hp, toks := k }) hF hN (fun h' t' k a b => h h' t' k _ (PyProof.Txt.length_slice_le x _ _) a b) hs ht hsz
theorem cat {prog : Program} {w : World} {A : Around} {E : Value → Shared → Prop} {s : Shared} {x y : Str} {t u : Tok} {Q : Value → Shared → Prop} (hx : x.length + y.length ≤ 2 ^ 14) (h : ∀ t' tk z, z.length = x.length + y.length → Q (.str z t') { s with toks := tk }) :
    wpAny (model prog w) A (binaryOp .Add (.str x t) (.str y u)) Q E s :=
  add_str (fun t' tk => h t' tk (x ++ y) (by show (Str.append x y).length = _; simp [Str.append, Str.length])) (by rw [sizeLine_eq]; omega)
local macro_rules | `(tactic| walk_at "subscriptTail Name Slice str ref") => `(tactic| refine slc (by first | exact Or.inl rfl | exact Or.inr ⟨_, _, rfl⟩) (by first | exact Or.inl rfl | exact Or.inr ⟨_, _, rfl⟩) (by omega) (by assumption) (by assumption) fun _ _ _ _ _ _ _ => ?_)
local macro_rules | `(tactic| walk_at "binaryOp Add str str") => `(tactic| refine cat (by omega) fun _ _ _ _ => ?_)

theorem abc_item {prog : Program} {w : World} {A : Around} {E : Value → Shared → Prop} {s : Shared} {value slice : Expr} {t u : Tok} {i : Int} {Q : Value → Shared → Prop} (h0 : 0 ≤ i) (h1 : i < 3) (h : ∀ y t' tk, y.length = 1 → Q (.str y t') { s with toks := tk })
    (hs : ∀ j, subscripted slice false (.str (Str.ofString "abc") t) (.int j u) = operate [.str (Str.ofString "abc") t, .int j u] (getItem (.str (Str.ofString "abc") t) (.int j u)) := by intro _; with_unfolding_all rfl) :
    wpAny (model prog w) A (subscriptTail value slice (.str (Str.ofString "abc") t) (.int i u)) Q E s := by
  refine tail_any (typeIs_str s _ t) slot_str_getitem.lookup ?_ (hs i)
  have hi : i = 0 ∨ i = 1 ∨ i = 2 := by omega
  rcases hi with rfl | rfl | rfl
  · exact PyProof.Rows.getItem_str (c := 97) (by decide) (by decide) (h ⟨#[97]⟩ _ _ rfl)
  · exact PyProof.Rows.getItem_str (c := 98) (by decide) (by decide) (h ⟨#[98]⟩ _ _ rfl)
  · exact PyProof.Rows.getItem_str (c := 99) (by decide) (by decide) (h ⟨#[99]⟩ _ _ rfl)

set_option maxHeartbeats 4000000 in
theorem trn_if {prog : Program} {w : World} {A : Around} {s : Shared} {h₀ : Heap} {mg mb : Str → Option Value} {L f : Addr} {cd : Value} {m : Str → Option Value} {Q : Flow → Shared → Prop}
    {news : List (Addr × Obj)} {x y : Str} {n at1 pick : Int} {t1 t2 t3 t4 t5 : Tok}
    (G : Glo h₀ mg mb) (hx : x.length ≤ 500) (hy : y.length = 1) (hat : 0 ≤ at1)
    (F : Fr h₀ L s.heap m) (N : News h₀ L s.heap news) (q1 : m "word" = some (.str x t1)) (q2 : m "number" = some (.int n t2)) (q3 : m "at" = some (.int at1 t3)) (q4 : m "sign" = some (.str y t4)) (q5 : m "pick" = some (.int pick t5))
    (h : ∀ h' tk m' (x' : Str) t1', x'.length ≤ 4 * x.length + 1 → m' "word" = some (.str x' t1') → m' "number" = some (.int n t2) → Fr h₀ L h' m' → News h₀ L h' news → Q .next { s with heap := h', toks := tk }) :
    wpAny (model prog w) A (exec (nth trnFor 4) (trnEnv L f cd)) Q (fun _ _ => False) s := by
  show wpAny _ _ (exec (Stmt.If _ _ _ _) _) _ _ _
  walk1; walk1; walk1; walk1; walk1; walk1
  by_cases c0 : pick = 0
  · rw [if_pos (by simp [c0])]
    repeat (walk1; try dsimp only)
    rename_i tz kz z hz hh9 F9 N9
    refine h hh9 _ _ z tz (by omega) ?_ ?_ F9 N9
    · rfl
    · exact q2
  · rw [if_neg (by simp [c0])]
    walk1; walk1; walk1; walk1; walk1; walk1; walk1
    try dsimp only
    by_cases c1 : pick = 1
    · rw [if_pos (by simp [c1])]
      repeat (walk1; try dsimp only)
      rename_i tz kz z hz hh9 F9 N9
      refine h hh9 _ _ z tz (by omega) ?_ ?_ F9 N9
      · rfl
      · exact q2
    · rw [if_neg (by simp [c1])]
      walk1; walk1; walk1; walk1; walk1; walk1; walk1
      try dsimp only
      by_cases c2 : pick = 2
      · rw [if_pos (by simp [c2])]
        repeat (walk1; try dsimp only)
        rename_i tz kz z hz hh9 F9 N9
        refine h hh9 _ _ z tz (by omega) ?_ ?_ F9 N9
        · rfl
        · exact q2
      · rw [if_neg (by simp [c2])]
        repeat (walk1; try dsimp only)
        rename_i tz kz z hz hh9 F9 N9
        refine h hh9 _ _ z tz (by omega) ?_ ?_ F9 N9
        · rfl
        · exact q2

set_option maxHeartbeats 4000000 in
theorem trn_turn {prog : Program} {w : World} {A : Around} {s : Shared} {h₀ : Heap} {mg mb : Str → Option Value} {L f : Addr} {cd : Value} {m : Str → Option Value} {Q : Flow → Shared → Prop}
    {news : List (Addr × Obj)} {x : Str} {n : Int} {t1 t2 : Tok}
    (G : Glo h₀ mg mb) (hx : x.length ≤ 500) (hn : 0 ≤ n)
    (F : Fr h₀ L s.heap m) (N : News h₀ L s.heap news) (q1 : m "word" = some (.str x t1)) (q2 : m "number" = some (.int n t2))
    (h : ∀ h' tk m' (x' : Str) (n' : Int) t1' t2', x'.length ≤ 4 * x.length + 1 → 0 ≤ n' → m' "word" = some (.str x' t1') → m' "number" = some (.int n' t2') → Fr h₀ L h' m' → News h₀ L h' news → Q .next { s with heap := h', toks := tk }) :
    wpAny (model prog w) A (execs trnFor (trnEnv L f cd)) Q (fun _ _ => False) s := by
  walk1; walk1; walk1; walk1; walk1; walk1; walk1
  clear F N
  rename_i h1 F N
  have hn1 : 0 ≤ n.fdiv 3 := Int.fdiv_nonneg hn (by decide)
  generalize n.fdiv 3 = n1 at *
  try dsimp only
  walk1; walk1; walk1; walk1; walk1; walk1
  refine ld_builtin_at F G.g G.glen G.b G.blen ?_
  walk1; walk1; walk1; walk1
  walk1; walk1; walk1; walk1
  try dsimp only
  walk1
  clear F N
  rename_i h2 F N
  have hat : 0 ≤ n1.fmod (↑x.length + 1) := Int.fmod_nonneg_of_pos n1 (by omega)
  generalize n1.fmod (↑x.length + 1) = at1 at *
  try dsimp only
  walk1; walk1; walk1; walk1; walk1; walk1; walk1
  walk1; walk1; walk1; walk1
  have hs0 : 0 ≤ (n1.fdiv 7).fmod 3 := Int.fmod_nonneg_of_pos _ (by omega)
  have hs1 : (n1.fdiv 7).fmod 3 < 3 := Int.fmod_lt_of_pos _ (by omega)
  generalize (n1.fdiv 7).fmod 3 = si at *
  try dsimp only
  refine abc_item hs0 hs1 fun y ty ky hy => ?_
  try dsimp only
  walk1
  clear F N
  rename_i h3 F N
  walk1; walk1; walk1; walk1; walk1; walk1; walk1; walk1
  walk1; walk1
  clear F N
  rename_i h4 F N
  refine wpAny_execs_cons (trn_if (s := { s with heap := h4, toks := _ }) G hx hy hat F N q1 rfl rfl rfl rfl ?_)
  intro h5 tk5 m5 x5 t5 hx5 r1 r2 F5 N5
  clear F N
  walk1; walk1; walk1; walk1; walk1; walk1; walk1
  clear F5 N5
  rename_i h6 F6 N6
  walk1
  refine h _ _ _ x5 (n1.fdiv 105) t5 (tk5 + 1) hx5 (Int.fdiv_nonneg hn1 (by decide)) ?_ ?_ F6 N6
  · exact r1
  · rfl
end Ky
end

section -- KyTrnCall
open PySem PySem.W PyProof.Rows
set_option Elab.async false
set_option maxRecDepth 100000
namespace Ky
local macro_rules | `(tactic| walk_at "eval Name") => `(tactic| refine ld (by assumption) (by first | rfl | assumption) ?_)

theorem slice_six (x : Str) : (Txt.slice x none (some 6)).length ≤ 6 := by
  have hidx : Builtin.Str.strSliceIndices none (some 6) 1 x.length = (List.range (min 6 x.length)).map (fun k => k) := by
    unfold Builtin.Str.strSliceIndices sliceRange
    have h2 : max 0 (min (6 : Int) (x.length : Int)) = ((min 6 x.length : Nat) : Int) := by omega
    simp only [show (1 : Int) > 0 by decide, if_true, if_neg (show ¬ ((6 : Int) < 0) by omega), h2]
    have h3 : ((if (0 : Int) < ((min 6 x.length : Nat) : Int) then (((min 6 x.length : Nat) : Int) - 0 + 1 - 1) / 1 else 0) : Int).toNat = min 6 x.length := by
      split <;> omega
    rw [h3]
    apply List.map_congr_left
    intro k _
    omega
  unfold Txt.slice
  rw [hidx]
  split
  · rename_i hc
    simp only [beq_self_eq_true, Bool.true_and, List.length_map, List.length_range, beq_iff_eq] at hc
    omega
  · show (List.filterMap _ _).toArray.size ≤ 6
    rw [List.size_toArray]
    refine Nat.le_trans (List.length_filterMap_le ..) ?_
    rw [List.length_map, List.length_range]
    omega

theorem trn_body {prog : Program} {w : World} {A : Around} {s : Shared} {h₀ : Heap} {mg mb : Str → Option Value} {L f : Addr} {cd : Value} {m : Str → Option Value} {Q : Flow → Shared → Prop}
    {x : Str} {n : Int} {t1 t2 : Tok}
    (G : Glo h₀ mg mb) (hh : A.handled = none) (hx : x.length ≤ 6) (hn : 0 ≤ n)
    (F : Fr h₀ L s.heap m) (q1 : m "word" = some (.str x t1)) (q2 : m "number" = some (.int n t2))
    (hQ : ∀ h' tk' m' t (y : Str), y.length ≤ 6 → Fr h₀ L h' m' → Q (.ret (.str y t)) { s with heap := h', toks := tk' }) :
    wpAny (model prog w) A (execs trnBody (trnEnv L f cd)) Q (fun _ _ => False) s := by
  have N : News h₀ L s.heap [] := News.nil
  have hm0 : 0 ≤ n.fmod 3 := Int.fmod_nonneg_of_pos _ (by omega)
  have hm1 : n.fmod 3 < 3 := Int.fmod_lt_of_pos _ (by omega)
  refine wpAny_execs_cons (For_invV h₀ (by rfl) (by rfl) ?_ (hE := PassesOwn.never))
  walk1
  refine ld_builtin_at F G.g G.grange G.b G.brange ?_
  walk1; walk1; walk1; walk1; walk1; walk1; walk1; walk1; walk1
  try dsimp only
  walk1
  refine range1_rows F N fun h10 tk10 ta ua va hr F10 N10 _ => ?_
  refine iter_range (fun i m₁ news => news = [] ∧ ∃ (x' : Str) (n' : Int) (u1 u2 : Tok), m₁ "word" = some (.str x' u1) ∧ m₁ "number" = some (.int n' u2) ∧ 0 ≤ n' ∧ x'.length + 1 ≤ 7 * 4 ^ i) hh hr (n := (1 + n.fmod 3).toNat) (by omega) (by omega) F10 N10 ?_ ?_ ?_
  · exact ⟨rfl, x, n, t1, t2, q1, q2, hn, by omega⟩
  · rintro i t m₁ news₁ h12 tk12 I it hi hoff ⟨rfl, x', n', u1, u2, r1, r2, hn', hx'⟩ F12 N12
    have hp : 4 ^ i ≤ 4 ^ 2 := Nat.pow_le_pow_right (by omega) (by omega)
    refine trn_turn (s := { s with heap := h12, toks := tk12 }) G (by omega) hn' F12 N12 r1 r2 ?_
    intro h' tk m' x2 n2 v1 v2 hx2 hn2 p1 p2 F' N'
    exact TEnd.intro F' N' (fun p hp => by cases hp) ⟨rfl, x2, n2, v1, v2, p1, p2, hn2, by rw [Nat.pow_succ]; omega⟩
  · rintro m₁ news₁ h12 tk12 ⟨rfl, x', n', u1, u2, r1, r2, hn', hx'⟩ F12 N12
    have hp : 4 ^ (1 + n.fmod 3).toNat ≤ 4 ^ 3 := Nat.pow_le_pow_right (by omega) (by omega)
    change Fr h₀ L h12 m₁ at F12
    change News h₀ L h12 _ at N12
    clear F N F10 N10
    walk1; walk1; walk1; walk1; walk1; walk1; walk1
    walk1; walk1
    try dsimp only
    refine slice_strN_ns (s := { s with heap := h12, toks := _ }) F12 N12 (hsz := by rw [sizeLine_eq]; omega) fun h13 t13 k13 F13 N13 => ?_
    exact hQ _ _ _ _ _ (slice_six x') F13

theorem trn_call {prog : Program} {w : World} {A : Around} {s : Shared} {mg mb : Str → Option Value} {f : Addr} {fo : Obj} {kV doc pm cdv ct : Value} {an : Option Addr} {R : Result → Shared → Prop}
    {x : Str} {n : Int} {t1 t2 : Tok}
    (G : Glo s.heap mg mb) (hh : A.handled = none) (hroom : A.depth < recursionLimit)
    (ho : s.heap.get? f = some fo) (hd : fo.data = .func (fnOf "_law_turned" "_law_turned" (defParams (stAt 6)) trnBody trnScope .none kV doc pm an cdv ct))
    (hcd : s.heap.CodeRec cdv "_law_turned")
    (hx : x.length ≤ 6) (hn : 0 ≤ n)
    (hR : ∀ h' tk' t (y : Str), y.length ≤ 6 → (∀ b o, s.heap.get? b = some o → h'.get? b = some o) → R (.ok (.ret (.str y t))) { s with heap := h', toks := tk' }) :
    codeAny (model prog w) A (.call (.ref f) ⟨[.str x t1, .int n t2], []⟩) R s := by
  refine codeAny_call_def (body := trnBody) (binds := [("word", .str x t1), ("number", .int n t2)]) hroom ho hd G.nolimit hcd rfl (BindsTo.of_eq rfl) (by show ∀ x ∈ trnScope.names, x.2 ≠ .cell; decide) (locs rfl) fun h₁ hns hk => ?_
  have F : Fr s.heap s.heap.objs.size h₁ (fun y => ([("word", .str x t1), ("number", .int n t2)] : List (Str × Value)).reverse.lookup y) := ⟨hns, hk, Nat.le_refl _⟩
  refine wpAny_mono (trn_body (Q := fun fl s' => R (.ok (.ret (match fl with | .ret v => v | _ => .none))) s') G (A := A.deeper (trnEnv s.heap.objs.size f cdv)) hh hx hn F rfl rfl ?_) (fun _ _ x => x) (fun _ _ x => x.elim)
  intro h' tk' m' t y hy F'
  exact hR h' tk' t y hy F'.keep
end Ky
end

section -- KyLaw1
open PySem PySem.W PyProof.Rows
set_option Elab.async false
set_option maxRecDepth 100000
namespace Ky

def LevFn (h : Heap) (f : Addr) : Prop := ∃ fo oT nT kV doc pm an cdv ct T, h.get? f = some fo ∧ fo.data = .func (fnOf "levenshtein" "levenshtein" (defParams (stAt 2)) levBody levScope (.ref T) kV doc pm an cdv ct) ∧ h.get? T = some oT ∧ oT.data = .seq #[.none] nT ∧ h.CodeRec cdv "levenshtein"
def DamFn (h : Heap) (f : Addr) : Prop := ∃ fo oT nT kV doc pm an cdv ct T, h.get? f = some fo ∧ fo.data = .func (fnOf "damerau_levenshtein" "damerau_levenshtein" (defParams (stAt 3)) damBody damScope (.ref T) kV doc pm an cdv ct) ∧ h.get? T = some oT ∧ oT.data = .seq #[.none] nT ∧ h.CodeRec cdv "damerau_levenshtein"
def StpFn (h : Heap) (f : Addr) : Prop := ∃ fo kV doc pm an cdv ct, h.get? f = some fo ∧ fo.data = .func (fnOf "_law_steps" "_law_steps" (defParams (stAt 7)) stpBody stpScope .none kV doc pm an cdv ct) ∧ h.CodeRec cdv "_law_steps"
def TrnFn (h : Heap) (f : Addr) : Prop := ∃ fo kV doc pm an cdv ct, h.get? f = some fo ∧ fo.data = .func (fnOf "_law_turned" "_law_turned" (defParams (stAt 6)) trnBody trnScope .none kV doc pm an cdv ct) ∧ h.CodeRec cdv "_law_turned"

theorem Glo.keeps {h h' : Heap} {mg mb : Str → Option Value} (G : Glo h mg mb) (hk : ∀ b o, h.get? b = some o → h'.get? b = some o) : Glo h' mg mb :=
  ⟨G.g.keeps hk, G.b.keeps hk, G.nolimit.keeps hk, G.xrange, G.gmin, G.glen, G.glist, G.grange, G.gset, G.bmin, G.blen, G.blist, G.brange, G.bset⟩
theorem frOn {h₀ h h' : Heap} {L : Addr} {m : Str → Option Value} (F : Fr h₀ L h m) (hk : ∀ b o, h.get? b = some o → h'.get? b = some o) : Fr h₀ L h' m :=
  ⟨F.ns.keeps hk, fun b o e => hk b o (F.keep b o e), F.above⟩
theorem newsOn {h₀ h h' : Heap} {L : Addr} {news : List (Addr × Obj)} (N : News h₀ L h news) (hk : ∀ b o, h.get? b = some o → h'.get? b = some o) : News h₀ L h' news :=
  fun p hp => ⟨hk _ _ (N p hp).1, (N p hp).2⟩

section
variable {prog : Program} {w : World} {A : Around} {E : Value → Shared → Prop} {s : Shared} {h₀ : Heap} {L f : Addr} {m mg mb : Str → Option Value} {news : List (Addr × Obj)} {Q : Value → Shared → Prop} {xs ys : List Nat} {a b : Nat → Nat}

theorem call_lev {v1 v2 lv : Value} {pos : List Value} (G : Glo h₀ mg mb) (FN : LevFn h₀ f) (hh : A.handled = none) (hroom : A.depth < recursionLimit) (F : Fr h₀ L s.heap m) (N : News h₀ L s.heap news)
    (S1 : SeqV s.heap v1 xs) (S2 : SeqV s.heap v2 ys) (hx : xs.length ≤ 6) (hy : ys.length ≤ 6) (ha : ∀ k, xs.getD k 0 = a k) (hb : ∀ k, ys.getD k 0 = b k)
    (hlv : lv = .none ∨ ∃ (l : Nat) (t : Tok), lv = .int l t) (hpos : pos = [v1, v2, lv] ∨ (pos = [v1, v2] ∧ lv = .none))
    (hR : ∀ h' tk' (r : Nat) t, LevR lv (D false a b xs.length ys.length) r → Fr h₀ L h' m → News h₀ L h' news → Q (.int r t) { s with heap := h', toks := tk' }) :
    wpAny (model prog w) A (call (.ref f) pos) Q E s := by
  obtain ⟨fo, oT, nT, kV, doc, pm, an, cdv, ct, T, e1, e2, e3, e4, e5⟩ := FN
  exact wpAny_call (lev_call (G.keeps F.keep) hh hroom (F.keep _ _ e1) e2 (F.keep _ _ e3) e4 (e5.keeps F.keep) S1 S2 (by omega) (by omega) ha hb hlv hpos fun h' tk' r t hr hk => hR h' tk' r t hr (frOn F hk) (newsOn N hk))
theorem call_dam {v1 v2 lv : Value} {pos : List Value} (G : Glo h₀ mg mb) (FN : DamFn h₀ f) (hh : A.handled = none) (hroom : A.depth < recursionLimit) (F : Fr h₀ L s.heap m) (N : News h₀ L s.heap news)
    (S1 : SeqV s.heap v1 xs) (S2 : SeqV s.heap v2 ys) (hx : xs.length ≤ 6) (hy : ys.length ≤ 6) (ha : ∀ k, xs.getD k 0 = a k) (hb : ∀ k, ys.getD k 0 = b k)
    (hlv : lv = .none ∨ ∃ (l : Nat) (t : Tok), lv = .int l t) (hpos : pos = [v1, v2, lv] ∨ (pos = [v1, v2] ∧ lv = .none))
    (hR : ∀ h' tk' (r : Nat) t, LevR lv (D true a b xs.length ys.length) r → Fr h₀ L h' m → News h₀ L h' news → Q (.int r t) { s with heap := h', toks := tk' }) :
    wpAny (model prog w) A (call (.ref f) pos) Q E s := by
  obtain ⟨fo, oT, nT, kV, doc, pm, an, cdv, ct, T, e1, e2, e3, e4, e5⟩ := FN
  exact wpAny_call (dam_call (G.keeps F.keep) hh hroom (F.keep _ _ e1) e2 (F.keep _ _ e3) e4 (e5.keeps F.keep) S1 S2 (by omega) (by omega) ha hb hlv hpos fun h' tk' r t hr hk => hR h' tk' r t hr (frOn F hk) (newsOn N hk))
theorem call_stp {sw : Bool} {t1 t2 : Tok} (G : Glo h₀ mg mb) (FN : StpFn h₀ f) (hu : A.units + 20 < cLine) (hh : A.handled = none) (hroom : A.depth < recursionLimit) (F : Fr h₀ L s.heap m) (N : News h₀ L s.heap news)
    (hx : xs.length ≤ 6) (hy : ys.length ≤ 6) (ha : ∀ k, xs.getD k 0 = a k) (hb : ∀ k, ys.getD k 0 = b k)
    (hR : ∀ h' tk' t, Fr h₀ L h' m → News h₀ L h' news → Q (.int ((D sw a b xs.length ys.length : Nat) : Int) t) { s with heap := h', toks := tk' }) :
    wpAny (model prog w) A (call (.ref f) [.str ⟨xs.toArray⟩ t1, .str ⟨ys.toArray⟩ t2, .bool sw]) Q E s := by
  obtain ⟨fo, kV, doc, pm, an, cdv, ct, e1, e2, e5⟩ := FN
  exact wpAny_call (stp_call (G.keeps F.keep) hu hh hroom (F.keep _ _ e1) e2 (e5.keeps F.keep) hx hy ha hb fun h' tk' t hk => hR h' tk' t (frOn F hk) (newsOn N hk))
theorem call_trn {x : Str} {n : Int} {t1 t2 : Tok} (G : Glo h₀ mg mb) (FN : TrnFn h₀ f) (hh : A.handled = none) (hroom : A.depth < recursionLimit) (F : Fr h₀ L s.heap m) (N : News h₀ L s.heap news)
    (hx : x.length ≤ 6) (hn : 0 ≤ n)
    (hR : ∀ h' tk' t (y : Str), y.length ≤ 6 → Fr h₀ L h' m → News h₀ L h' news → Q (.str y t) { s with heap := h', toks := tk' }) :
    wpAny (model prog w) A (call (.ref f) [.str x t1, .int n t2]) Q E s := by
  obtain ⟨fo, kV, doc, pm, an, cdv, ct, e1, e2, e5⟩ := FN
  exact wpAny_call (trn_call (G.keeps F.keep) hh hroom (F.keep _ _ e1) e2 (e5.keeps F.keep) hx hn fun h' tk' t y hy hk => hR h' tk' t y hy (frOn F hk) (newsOn N hk))
end
end Ky
end

section -- KyLaw2
open PySem PySem.W PyProof.Rows
set_option Elab.async false
set_option maxRecDepth 100000
namespace Ky
abbrev lawScope : Scope := defScope (stAt 8)
abbrev lawBody : List Stmt := defBody (stAt 8)
abbrev lawFor : List Stmt := forBody (nth lawBody 5)
abbrev lawIn : List Stmt := forBody (nth lawFor 1)
abbrev lawEnv (L f : Addr) (cd : Value) : Env := envOfC "law" lawScope L f cd

section
variable {M : Model} {A : Around} {E : Value → Shared → Prop} {s : Shared} {name : Str} {scope : Scope} {L a : Addr} {cd : Value} {h₀ : Heap} {m mg mb : Str → Option Value}
theorem gl_at {x : Str} {pos : Pos} {v : Value} {Q : Value → Shared → Prop} (F : Fr h₀ L s.heap m) (hg : h₀.Ns mainGlobals mg) (hb : mg x = some v) (h : Q v s)
    (hk : scope.kind = .function := by rfl) (hx : (envOfC name scope L a cd).kindOf x = some .globalImplicit := by rfl) (hd : (x == ("__debug__" : Str)) = false := by decide) :
    wpAny M A (eval (.Name x pos) (envOfC name scope L a cd)) Q E s :=
  Calls.Name_function_global hk hx (Calls.loadGlobal_global (env := envOfC name scope L a cd) (hg.keeps F.keep) hb h) hd
theorem bl_at {x : Str} {pos : Pos} {v : Value} {Q : Value → Shared → Prop} (F : Fr h₀ L s.heap m) (hg : h₀.Ns mainGlobals mg) (hmiss : mg x = none) (hb : h₀.Ns builtinsNs mb) (hv : mb x = some v) (h : Q v s)
    (hk : scope.kind = .function := by rfl) (hx : (envOfC name scope L a cd).kindOf x = some .globalImplicit := by rfl) (hd : (x == ("__debug__" : Str)) = false := by decide) :
    wpAny M A (eval (.Name x pos) (envOfC name scope L a cd)) Q E s :=
  Calls.Name_function_global hk hx (Calls.loadGlobal_builtin (env := envOfC name scope L a cd) (hg.keeps F.keep) hmiss (hb.keeps F.keep) hv h) hd
end
theorem fnAt_of {h : Heap} {f : Addr} {o : Obj} {fd : FuncData} (e : h.get? f = some o) (d : o.data = .func fd) : FnAt f h := by
  obtain ⟨oc, od, dat, sl⟩ := o
  simp only at d
  subst d
  exact ⟨oc, od, fd, sl, e⟩
theorem LevFn.fn {h h' : Heap} {f : Addr} (X : LevFn h f) (hk : ∀ b o, h.get? b = some o → h'.get? b = some o) : FnAt f h' := let ⟨_, _, _, _, _, _, _, _, _, _, e1, e2, _⟩ := X; fnAt_of (hk _ _ e1) e2
theorem DamFn.fn {h h' : Heap} {f : Addr} (X : DamFn h f) (hk : ∀ b o, h.get? b = some o → h'.get? b = some o) : FnAt f h' := let ⟨_, _, _, _, _, _, _, _, _, _, e1, e2, _⟩ := X; fnAt_of (hk _ _ e1) e2
theorem StpFn.fn {h h' : Heap} {f : Addr} (X : StpFn h f) (hk : ∀ b o, h.get? b = some o → h'.get? b = some o) : FnAt f h' := let ⟨_, _, _, _, _, _, _, e1, e2, _⟩ := X; fnAt_of (hk _ _ e1) e2
section
variable {prog : Program} {w : World} {A : Around} {E : Value → Shared → Prop} {s : Shared} {h₀ : Heap} {L : Addr} {m : Str → Option Value} {news : List (Addr × Obj)} {Q : Value → Shared → Prop}
theorem call_list {xs : List Nat} {t : Tok} (hh : A.handled = none) (F : Fr h₀ L s.heap m) (N : News h₀ L s.heap news) (hx : xs.length ≤ 6)
    (h : ∀ h' tk d vs n, StrsAre vs (xs.map one) → Fr h₀ L h' m → News h₀ L h' ((d, { cls := .type "list", data := .seq vs.toArray n }) :: news) → Q (.ref d) { s with heap := h', toks := tk }) :
    wpAny (model prog w) A (call (.type "list") [.str ⟨xs.toArray⟩ t]) Q E s := by
  refine list_strD hh F N (fun h' tk ys F' N' hk hn hl np hc => ?_) (by simp [Str.length, sizeLine_eq]; omega)
  obtain ⟨⟨n, e⟩, hne⟩ := np
  have hs := StrsAre.ofCarried hc
  have e2 : signs ⟨xs.toArray⟩ = xs.map one := by simp [signs, one]
  rw [e2] at hs
  refine h h' tk _ ys n hs F' fun p hp => ?_
  rcases List.mem_cons.mp hp with rfl | hp
  · exact ⟨e, Nat.ne_of_gt F.ns.lt, hn⟩
  · exact N' p hp
theorem seq_of {h : Heap} {d : Addr} {vs : List Value} {n : Nat} {xs : List Nat} (N : News h₀ L h news) (hm : (d, ({ cls := .type "list", data := .seq vs.toArray n } : Obj)) ∈ news) (hs : StrsAre vs (xs.map one)) : SeqV h (.ref d) xs :=
  .inr ⟨d, vs, rfl, ⟨_, (N _ hm).1, rfl, n, rfl⟩, hs⟩
end
local macro_rules | `(tactic| walk_at "eval Name") => `(tactic| refine ldLoc (by assumption) (by first | rfl | assumption) ?_)
local macro_rules | `(tactic| walk_at "storeName") => `(tactic| (refine stLocN (by assumption) (by assumption) ?_; intro _ _ _))

theorem levR_none {d r : Nat} (h : LevR .none d r) : r = d := by
  rcases h with h | ⟨l, t, e, _⟩
  · exact h
  · cases e
theorem levR_zero {d r : Nat} {u : Tok} (h : LevR (.int (0 : Nat) u) d r) : r = d := by
  rcases h with h | ⟨l, t, e, h0, _⟩
  · exact h
  · injection e with e1 e2
    omega

structure LawM (m : Str → Option Value) (xs ys : List Nat) (lv : Value) (sw : Bool) (d : Nat) : Prop where
  one : ∃ t, m "one" = some (.str ⟨xs.toArray⟩ t)
  other : ∃ t, m "other" = some (.str ⟨ys.toArray⟩ t)
  limit : m "limit" = some lv
  swaps : m "swaps" = some (.bool sw)
  due : ∃ t, m "due" = some (.int (d : Nat) t)

set_option maxHeartbeats 4000000 in
/-- told, by damerau_levenshtein -/
theorem law_told_dam {prog : Program} {w : World} {A : Around} {s : Shared} {h₀ : Heap} {mg mb : Str → Option Value} {L f fd : Addr} {cd : Value} {m : Str → Option Value} {news : List (Addr × Obj)} {Q : Flow → Shared → Prop}
    {xs ys : List Nat} {a b : Nat → Nat} {lv : Value} {t1 t2 : Tok}
    (G : Glo h₀ mg mb) (gd : mg "damerau_levenshtein" = some (.ref fd)) (FD : DamFn h₀ fd) (hh : A.handled = none) (hroom : A.depth < recursionLimit) (hx : xs.length ≤ 6) (hy : ys.length ≤ 6) (ha : ∀ k, xs.getD k 0 = a k) (hb : ∀ k, ys.getD k 0 = b k)
    (F : Fr h₀ L s.heap m) (N : News h₀ L s.heap news) (q1 : m "first" = some (.str ⟨xs.toArray⟩ t1)) (q2 : m "second" = some (.str ⟨ys.toArray⟩ t2))
    (h : ∀ h' tk v1 v2 v3 d, (∀ n', IntsAre [v1, v2, v3] [((D true a b xs.length ys.length : Nat) : Int), ((D true a b xs.length ys.length : Nat) : Int), ((D true a b xs.length ys.length : Nat) : Int)] → Fr h₀ L h' (fun z => if z = "told" then some (.ref d) else m z) → News h₀ L h' ((d, { cls := .type "list", data := .seq #[v1, v2, v3] n' }) :: news) → Q .next { s with heap := h', toks := tk })) :
    wpAny (model prog w) A (exec (nth lawIn 0) (lawEnv L f cd)) Q (fun _ _ => False) s := by
  show wpAny _ _ (exec (Stmt.Assign _ _ _) _) _ _ _
  walk1
  refine List_ ?_
  walk1; walk1
  refine gl_at F G.g gd ?_
  refine callWith_F (FD.fn F.keep) ?_
  walk1; walk1; walk1; walk1; walk1
  refine ⟨FD.fn F.keep, ?_⟩
  refine call_dam (lv := .none) G FD hh hroom F N (.inl ⟨_, rfl⟩) (.inl ⟨_, rfl⟩) hx hy ha hb (.inl rfl) (.inr ⟨rfl, rfl⟩) fun h1 k1 r1 u1 hr1 F1 N1 => ?_
  try dsimp only
  walk1; walk1
  refine gl_at F1 G.g gd ?_
  refine callWith_F (FD.fn F1.keep) ?_
  walk1; walk1; walk1; walk1; walk1; walk1; walk1
  refine ⟨FD.fn F1.keep, ?_⟩
  refine call_dam (lv := .int (0 : Nat) _) G FD hh hroom F1 N1 (.inl ⟨_, rfl⟩) (.inl ⟨_, rfl⟩) hx hy ha hb (.inr ⟨0, _, rfl⟩) (.inl rfl) fun h2 k2 r2 u2 hr2 F2 N2 => ?_
  try dsimp only
  clear F N F1 N1
  walk1; walk1
  refine gl_at F2 G.g gd ?_
  refine callWith_F (FD.fn F2.keep) ?_
  walk1; walk1
  refine bl_at F2 G.g G.glist G.b G.blist ?_
  walk1
  walk1; walk1; walk1
  refine call_list hh F2 N2 hx fun h3 k3 d3 vs3 n3 hs3 F3 N3 => ?_
  try dsimp only
  walk1; walk1
  refine bl_at F3 G.g G.glist G.b G.blist ?_
  walk1; walk1; walk1; walk1
  refine call_list hh F3 N3 hy fun h4 k4 d4 vs4 n4 hs4 F4 N4 => ?_
  try dsimp only
  walk1
  refine ⟨FD.fn F4.keep, ?_⟩
  refine call_dam (lv := .none) G FD hh hroom F4 N4 (seq_of N4 (List.mem_cons_of_mem _ (List.mem_cons_self ..)) hs3) (seq_of N4 (List.mem_cons_self ..) hs4) hx hy ha hb (.inl rfl) (.inr ⟨rfl, rfl⟩) fun h5 k5 r5 u5 hr5 F5 N5 => ?_
  try dsimp only
  walk1
  refine newList_N F5 N5 (hsz := sz3) fun h6 F6 N6 => ?_
  generalize h5.objs.size = d at *
  try dsimp only
  have N7 : News h₀ L h6 ((d, { cls := .type "list", data := .seq [Value.int (↑r1) u1, Value.int (↑r2) u2, Value.int (↑r5) u5].toArray }) :: news) := fun p hp => N6 p (by
    simp only [List.mem_cons] at hp ⊢
    rcases hp with h | h <;> simp [h])
  clear F2 N2 F3 N3 F4 N4 F5 N5 N6
  refine stLocN F6 N7 fun h8 F8 N8 => ?_
  refine h h8 _ _ _ _ d 0 ?_ F8 N8
  rw [levR_none hr1, levR_zero hr2, levR_none hr5]
  exact .cons _ _ (.cons _ _ (.cons _ _ .nil))
end Ky
end

section -- KyLaw3
open PySem PySem.W PyProof.Rows
set_option Elab.async false
set_option maxRecDepth 100000
namespace Ky
local macro_rules | `(tactic| walk_at "eval Name") => `(tactic| refine ldLoc (by assumption) (by first | rfl | assumption) ?_)
local macro_rules | `(tactic| walk_at "storeName") => `(tactic| (refine stLocN (by assumption) (by assumption) ?_; intro _ _ _))
set_option maxHeartbeats 4000000 in
/-- told, by levenshtein -/
theorem law_told_lev {prog : Program} {w : World} {A : Around} {s : Shared} {h₀ : Heap} {mg mb : Str → Option Value} {L f fd : Addr} {cd : Value} {m : Str → Option Value} {news : List (Addr × Obj)} {Q : Flow → Shared → Prop}
    {xs ys : List Nat} {a b : Nat → Nat} {lv : Value} {t1 t2 : Tok}
    (G : Glo h₀ mg mb) (gd : mg "levenshtein" = some (.ref fd)) (FD : LevFn h₀ fd) (hh : A.handled = none) (hroom : A.depth < recursionLimit) (hx : xs.length ≤ 6) (hy : ys.length ≤ 6) (ha : ∀ k, xs.getD k 0 = a k) (hb : ∀ k, ys.getD k 0 = b k)
    (F : Fr h₀ L s.heap m) (N : News h₀ L s.heap news) (q1 : m "first" = some (.str ⟨xs.toArray⟩ t1)) (q2 : m "second" = some (.str ⟨ys.toArray⟩ t2))
    (h : ∀ h' tk v1 v2 v3 d, (∀ n', IntsAre [v1, v2, v3] [((D false a b xs.length ys.length : Nat) : Int), ((D false a b xs.length ys.length : Nat) : Int), ((D false a b xs.length ys.length : Nat) : Int)] → Fr h₀ L h' (fun z => if z = "told" then some (.ref d) else m z) → News h₀ L h' ((d, { cls := .type "list", data := .seq #[v1, v2, v3] n' }) :: news) → Q .next { s with heap := h', toks := tk })) :
    wpAny (model prog w) A (exec (nth (forBody (nth lawIn 2)) 0) (lawEnv L f cd)) Q (fun _ _ => False) s := by
  show wpAny _ _ (exec (Stmt.Assign _ _ _) _) _ _ _
  walk1
  refine List_ ?_
  walk1; walk1
  refine gl_at F G.g gd ?_
  refine callWith_F (FD.fn F.keep) ?_
  walk1; walk1; walk1; walk1; walk1
  refine ⟨FD.fn F.keep, ?_⟩
  refine call_lev (lv := .none) G FD hh hroom F N (.inl ⟨_, rfl⟩) (.inl ⟨_, rfl⟩) hx hy ha hb (.inl rfl) (.inr ⟨rfl, rfl⟩) fun h1 k1 r1 u1 hr1 F1 N1 => ?_
  try dsimp only
  walk1; walk1
  refine gl_at F1 G.g gd ?_
  refine callWith_F (FD.fn F1.keep) ?_
  walk1; walk1; walk1; walk1; walk1; walk1; walk1
  refine ⟨FD.fn F1.keep, ?_⟩
  refine call_lev (lv := .int (0 : Nat) _) G FD hh hroom F1 N1 (.inl ⟨_, rfl⟩) (.inl ⟨_, rfl⟩) hx hy ha hb (.inr ⟨0, _, rfl⟩) (.inl rfl) fun h2 k2 r2 u2 hr2 F2 N2 => ?_
  try dsimp only
  clear F N F1 N1
  walk1; walk1
  refine gl_at F2 G.g gd ?_
  refine callWith_F (FD.fn F2.keep) ?_
  walk1; walk1
  refine bl_at F2 G.g G.glist G.b G.blist ?_
  walk1
  walk1; walk1; walk1
  refine call_list hh F2 N2 hx fun h3 k3 d3 vs3 n3 hs3 F3 N3 => ?_
  try dsimp only
  walk1; walk1
  refine bl_at F3 G.g G.glist G.b G.blist ?_
  walk1; walk1; walk1; walk1
  refine call_list hh F3 N3 hy fun h4 k4 d4 vs4 n4 hs4 F4 N4 => ?_
  try dsimp only
  walk1
  refine ⟨FD.fn F4.keep, ?_⟩
  refine call_lev (lv := .none) G FD hh hroom F4 N4 (seq_of N4 (List.mem_cons_of_mem _ (List.mem_cons_self ..)) hs3) (seq_of N4 (List.mem_cons_self ..) hs4) hx hy ha hb (.inl rfl) (.inr ⟨rfl, rfl⟩) fun h5 k5 r5 u5 hr5 F5 N5 => ?_
  try dsimp only
  walk1
  refine newList_N F5 N5 (hsz := sz3) fun h6 F6 N6 => ?_
  generalize h5.objs.size = d at *
  try dsimp only
  have N7 : News h₀ L h6 ((d, { cls := .type "list", data := .seq [Value.int (↑r1) u1, Value.int (↑r2) u2, Value.int (↑r5) u5].toArray }) :: news) := fun p hp => N6 p (by
    simp only [List.mem_cons] at hp ⊢
    rcases hp with h | h <;> simp [h])
  clear F2 N2 F3 N3 F4 N4 F5 N5 N6
  refine stLocN F6 N7 fun h8 F8 N8 => ?_
  refine h h8 _ _ _ _ d 0 ?_ F8 N8
  rw [levR_none hr1, levR_zero hr2, levR_none hr5]
  exact .cons _ _ (.cons _ _ (.cons _ _ .nil))

set_option maxHeartbeats 4000000 in
theorem law_near_dam {prog : Program} {w : World} {A : Around} {s : Shared} {h₀ : Heap} {mg mb : Str → Option Value} {L f fd : Addr} {cd : Value} {m : Str → Option Value} {news : List (Addr × Obj)} {Q : Flow → Shared → Prop}
    {xs ys : List Nat} {a b : Nat → Nat} {lv : Value} {t1 t2 : Tok}
    (G : Glo h₀ mg mb) (gd : mg "damerau_levenshtein" = some (.ref fd)) (FD : DamFn h₀ fd) (hh : A.handled = none) (hroom : A.depth < recursionLimit) (hx : xs.length ≤ 6) (hy : ys.length ≤ 6) (ha : ∀ k, xs.getD k 0 = a k) (hb : ∀ k, ys.getD k 0 = b k)
    (F : Fr h₀ L s.heap m) (N : News h₀ L s.heap news) (q1 : m "first" = some (.str ⟨xs.toArray⟩ t1)) (q2 : m "second" = some (.str ⟨ys.toArray⟩ t2)) (q3 : m "limit" = some lv) (hlv : lv = .none ∨ ∃ (l : Nat) (t : Tok), lv = .int l t)
    (h : ∀ h' tk (r : Nat) t, LevR lv (D true a b xs.length ys.length) r → Fr h₀ L h' (fun z => if z = "near" then some (.int (r : Nat) t) else m z) → News h₀ L h' news → Q .next { s with heap := h', toks := tk }) :
    wpAny (model prog w) A (exec (nth lawIn 1) (lawEnv L f cd)) Q (fun _ _ => False) s := by
  show wpAny _ _ (exec (Stmt.Assign _ _ _) _) _ _ _
  walk1; walk1
  refine gl_at F G.g gd ?_
  refine callWith_F (FD.fn F.keep) ?_
  walk1; walk1; walk1; walk1; walk1; walk1; walk1
  refine ⟨FD.fn F.keep, ?_⟩
  refine call_dam (lv := lv) G FD hh hroom F N (.inl ⟨_, rfl⟩) (.inl ⟨_, rfl⟩) hx hy ha hb hlv (.inl rfl) fun h1 k1 r1 u1 hr1 F1 N1 => ?_
  try dsimp only
  refine stLocN F1 N1 fun h8 F8 N8 => ?_
  exact h h8 _ r1 u1 hr1 F8 N8

set_option maxHeartbeats 4000000 in
theorem law_near_lev {prog : Program} {w : World} {A : Around} {s : Shared} {h₀ : Heap} {mg mb : Str → Option Value} {L f fd : Addr} {cd : Value} {m : Str → Option Value} {news : List (Addr × Obj)} {Q : Flow → Shared → Prop}
    {xs ys : List Nat} {a b : Nat → Nat} {lv : Value} {t1 t2 : Tok}
    (G : Glo h₀ mg mb) (gd : mg "levenshtein" = some (.ref fd)) (FD : LevFn h₀ fd) (hh : A.handled = none) (hroom : A.depth < recursionLimit) (hx : xs.length ≤ 6) (hy : ys.length ≤ 6) (ha : ∀ k, xs.getD k 0 = a k) (hb : ∀ k, ys.getD k 0 = b k)
    (F : Fr h₀ L s.heap m) (N : News h₀ L s.heap news) (q1 : m "first" = some (.str ⟨xs.toArray⟩ t1)) (q2 : m "second" = some (.str ⟨ys.toArray⟩ t2)) (q3 : m "limit" = some lv) (hlv : lv = .none ∨ ∃ (l : Nat) (t : Tok), lv = .int l t)
    (h : ∀ h' tk (r : Nat) t, LevR lv (D false a b xs.length ys.length) r → Fr h₀ L h' (fun z => if z = "near" then some (.int (r : Nat) t) else m z) → News h₀ L h' news → Q .next { s with heap := h', toks := tk }) :
    wpAny (model prog w) A (exec (nth (forBody (nth lawIn 2)) 1) (lawEnv L f cd)) Q (fun _ _ => False) s := by
  show wpAny _ _ (exec (Stmt.Assign _ _ _) _) _ _ _
  walk1; walk1
  refine gl_at F G.g gd ?_
  refine callWith_F (FD.fn F.keep) ?_
  walk1; walk1; walk1; walk1; walk1; walk1; walk1
  refine ⟨FD.fn F.keep, ?_⟩
  refine call_lev (lv := lv) G FD hh hroom F N (.inl ⟨_, rfl⟩) (.inl ⟨_, rfl⟩) hx hy ha hb hlv (.inl rfl) fun h1 k1 r1 u1 hr1 F1 N1 => ?_
  try dsimp only
  refine stLocN F1 N1 fun h8 F8 N8 => ?_
  exact h h8 _ r1 u1 hr1 F8 N8

end Ky
end

section -- KyLaw4
open PySem PySem.W PyProof.Rows
set_option Elab.async false
set_option maxRecDepth 100000
namespace Ky
local macro_rules | `(tactic| walk_at "eval Name") => `(tactic| refine ldLoc (by assumption) (by first | rfl | assumption) ?_)
local macro_rules | `(tactic| walk_at "storeName") => `(tactic| (refine stLocN (by assumption) (by assumption) ?_; intro _ _ _))

theorem law_chk3 {prog : Program} {w : World} {A : Around} {s : Shared} {h₀ : Heap} {L f : Addr} {cd : Value} {m : Str → Option Value} {news : List (Addr × Obj)} {Q : Flow → Shared → Prop}
    {v1 v2 v3 : Value} {D n' : Nat} {d : Addr} {td : Tok}
    (hu : A.units + 64 < cLine) (F : Fr h₀ L s.heap m) (N : News h₀ L s.heap ((d, { cls := .type "list", data := .seq #[v1, v2, v3] n' }) :: news))
    (q1 : m "told" = some (.ref d)) (q2 : m "due" = some (.int (D : Nat) td)) (hi : IntsAre [v1, v2, v3] [(D : Int), (D : Int), (D : Int)])
    (h : ∀ h' tk, Fr h₀ L h' m → News h₀ L h' news → Q .next { s with heap := h', toks := tk }) :
    wpAny (model prog w) A (exec (nth lawIn 3) (lawEnv L f cd)) Q (fun _ _ => False) s := by
  show wpAny _ _ (exec (Stmt.If _ _ _ _) _) _ _ _
  walk1; walk1; walk1
  refine List_ ?_
  walk1; walk1; walk1; walk1; walk1; walk1; walk1
  refine newList_N F N (hsz := sz3) fun h2 F2 N2 => ?_
  try dsimp only
  refine ne_intsK (vs := [v1, v2, v3]) (us := [Value.int (D : Nat) td, Value.int (D : Nat) td, Value.int (D : Nat) td]) (N2.isList (List.mem_cons_of_mem _ (List.mem_cons_self ..))) hi (N2.isList (List.mem_cons_self ..)) (.cons _ _ (.cons _ _ (.cons _ _ .nil))) hu ?_
  walk1
  rw [if_neg (by simp)]
  walk1
  exact h _ _ F2 fun p hp => N2 p (by simp [hp])

theorem law_chk4 {prog : Program} {w : World} {A : Around} {s : Shared} {h₀ : Heap} {L f : Addr} {cd : Value} {m : Str → Option Value} {news : List (Addr × Obj)} {Q : Flow → Shared → Prop}
    {D r : Nat} {td tr : Tok} {lv : Value} (F : Fr h₀ L s.heap m) (N : News h₀ L s.heap news)
    (q1 : m "near" = some (.int (r : Nat) tr)) (q2 : m "due" = some (.int (D : Nat) td)) (q3 : m "limit" = some lv) (hlv : lv = .none ∨ ∃ (l : Nat) (t : Tok), lv = .int l t) (hr : LevR lv D r)
    (h : ∀ h' tk, Fr h₀ L h' m → News h₀ L h' news → Q .next { s with heap := h', toks := tk }) :
    wpAny (model prog w) A (exec (nth lawIn 4) (lawEnv L f cd)) Q (fun _ _ => False) s := by
  show wpAny _ _ (exec (Stmt.If _ _ _ _) _) _ _ _
  rcases hlv with rfl | ⟨l, tl, rfl⟩
  · have e := levR_none hr
    subst e
    walk1; walk1; walk1; walk1; walk1
    rw [if_neg Bool.false_ne_true]
    walk1; walk1; walk1; walk1; walk1; walk1; walk1; walk1
    rw [if_neg (by simp)]
    walk1; walk1
    exact h _ _ F N
  · have els : r = D → wpAny (model prog w) A (execs (match nth lawIn 4 with | .If _ _ e _ => e | _ => []) (lawEnv L f cd)) Q (fun _ _ => False) s := by
      rintro rfl
      show wpAny _ _ (execs (Stmt.If _ _ _ _ :: _) _) _ _ _
      walk1; walk1; walk1; walk1; walk1; walk1; walk1
      rw [if_neg (by simp)]
      walk1; walk1
      exact h _ _ F N
    have hrl : (0 < l ∧ l < D ∧ l < r) ∨ ((l = 0 ∨ D ≤ l) ∧ r = D) := by
      rcases hr with e | ⟨l', t', e, h0, h1, e2⟩
      · by_cases h0 : l = 0
        · exact .inr ⟨.inl h0, e⟩
        · by_cases h1 : D ≤ l
          · exact .inr ⟨.inr h1, e⟩
          · exact .inl ⟨by omega, by omega, by omega⟩
      · injection e with e1 e3
        exact .inl ⟨by omega, by omega, by omega⟩
    walk1; walk1; walk1; walk1; walk1
    by_cases c1 : l = 0
    · rw [if_neg (by simp [c1])]
      exact els (by omega)
    · rw [if_pos (by simp [c1])]
      walk1; walk1; walk1; walk1; walk1; walk1
      by_cases c2 : l < D
      · rw [if_pos (decide_eq_true (by omega))]
        walk1; walk1; walk1; walk1; walk1; walk1; walk1
        walk1; walk1
        rw [if_neg (by rw [decide_eq_false (by omega)]; exact Bool.false_ne_true)]
        walk1; walk1
        exact h _ _ F N
      · rw [if_neg (by rw [decide_eq_false (by omega)]; exact Bool.false_ne_true)]
        exact els (by omega)
end Ky
end

section -- KyLaw5
open PySem PySem.W PyProof.Rows
set_option Elab.async false
set_option maxRecDepth 100000
namespace Ky
local macro_rules | `(tactic| walk_at "eval Name") => `(tactic| refine ldLoc (by assumption) (by first | rfl | assumption) ?_)
local macro_rules | `(tactic| walk_at "storeName") => `(tactic| (refine stLocN (by assumption) (by assumption) ?_; intro _ _ _))

structure LawG (h : Heap) (mg mb : Str → Option Value) (fl fd fs : Addr) : Prop where
  G : Glo h mg mb
  gl : mg "levenshtein" = some (.ref fl)
  gd : mg "damerau_levenshtein" = some (.ref fd)
  gs : mg "_law_steps" = some (.ref fs)
  FL : LevFn h fl
  FD : DamFn h fd
  FS : StpFn h fs

theorem law_in {prog : Program} {w : World} {A : Around} {s : Shared} {h₀ : Heap} {mg mb : Str → Option Value} {L f fl fd fs : Addr} {cd : Value} {m : Str → Option Value} {news : List (Addr × Obj)} {Q : Flow → Shared → Prop}
    {xs ys : List Nat} {a b : Nat → Nat} {lv : Value} {t1 t2 td : Tok} {sw : Bool}
    (LG : LawG h₀ mg mb fl fd fs) (hh : A.handled = none) (hroom : A.depth < recursionLimit) (hu : A.units + 64 < cLine) (hx : xs.length ≤ 6) (hy : ys.length ≤ 6) (ha : ∀ k, xs.getD k 0 = a k) (hb : ∀ k, ys.getD k 0 = b k)
    (F : Fr h₀ L s.heap m) (N : News h₀ L s.heap news) (q1 : m "first" = some (.str ⟨xs.toArray⟩ t1)) (q2 : m "second" = some (.str ⟨ys.toArray⟩ t2)) (q3 : m "limit" = some lv) (hlv : lv = .none ∨ ∃ (l : Nat) (t : Tok), lv = .int l t)
    (q4 : m "swaps" = some (.bool sw)) (q5 : m "due" = some (.int ((D sw a b xs.length ys.length : Nat) : Int) td))
    (h : ∀ h' tk m', (∀ z, z ≠ ("told" : Str) → z ≠ ("near" : Str) → m' z = m z) → Fr h₀ L h' m' → News h₀ L h' news → Q .next { s with heap := h', toks := tk }) :
    wpAny (model prog w) A (execs lawIn (lawEnv L f cd)) Q (fun _ _ => False) s := by
  refine wpAny_execs_cons (law_told_dam (lv := lv) LG.G LG.gd LG.FD hh hroom hx hy ha hb F N q1 q2 ?_)
  intro h1 k1 v1 v2 v3 d n1 hi1 F1 N1
  refine wpAny_execs_cons (law_near_dam (s := { s with heap := h1, toks := k1 }) LG.G LG.gd LG.FD hh hroom hx hy ha hb F1 N1 q1 q2 q3 hlv ?_)
  intro h2 k2 r2 u2 hr2 F2 N2
  refine wpAny_execs_cons ?_
  show wpAny _ _ (exec (Stmt.If _ _ _ _) _) _ _ _
  walk1; walk1; walk1; walk1; walk1
  try dsimp only
  cases sw with
  | true =>
    rw [if_neg (by simp)]
    walk1
    refine wpAny_execs_cons (law_chk3 (s := { s with heap := h2, toks := k2 }) hu F2 N2 rfl q5 (hi1) fun h3 k3 F3 N3 => ?_)
    refine wpAny_execs_cons (law_chk4 (s := { s with heap := h3, toks := k3 }) F3 N3 rfl q5 q3 hlv hr2 fun h4 k4 F4 N4 => wpAny_execs_nil ?_)
    exact h _ _ _ (fun z z1 z2 => by simp [z1, z2]) F4 N4
  | false =>
    rw [if_pos (by simp)]
    refine wpAny_execs_cons (law_told_lev (lv := lv) (s := { s with heap := h2, toks := k2 }) LG.G LG.gl LG.FL hh hroom hx hy ha hb F2 (fun p hp => N2 p (List.mem_cons_of_mem _ hp)) q1 q2 ?_)
    intro h5 k5 w1 w2 w3 d5 n5 hi5 F5 N5
    refine wpAny_execs_cons (law_near_lev (s := { s with heap := h5, toks := k5 }) LG.G LG.gl LG.FL hh hroom hx hy ha hb F5 N5 q1 q2 q3 hlv ?_)
    intro h6 k6 r6 u6 hr6 F6 N6
    refine wpAny_execs_nil ?_
    try dsimp only
    refine wpAny_execs_cons (law_chk3 (s := { s with heap := h6, toks := k6 }) hu F6 N6 rfl q5 (hi5) fun h3 k3 F3 N3 => ?_)
    refine wpAny_execs_cons (law_chk4 (s := { s with heap := h3, toks := k3 }) F3 N3 rfl q5 q3 hlv hr6 fun h4 k4 F4 N4 => wpAny_execs_nil ?_)
    exact h _ _ _ (fun z z1 z2 => by simp [z1, z2]) F4 N4
end Ky
end

section -- KyLoop
open PySem PySem.W PyProof.Rows
set_option Elab.async false
set_option maxRecDepth 100000
namespace Ky
section
variable {prog : Program} {w : World} {A : Around} {s : Shared} {env : Env} {h₀ : Heap} {x y : Str} {body : List Stmt} {Q : Flow → Shared → Prop}

theorem frBack {L : Addr} {h' h1 : Heap} {m' : Str → Option Value} {I : Addr} (F' : Fr h₀ L h' m') (he1 : Heap.ExtBut I h' h1) (hLI : L ≠ I) (hI0 : h₀.get? I = none) : Fr h₀ L h1 m' := by
  obtain ⟨oL, z1, z2, hoL, z3⟩ := F'.ns
  exact ⟨⟨oL, z1, z2, he1 _ _ hLI hoL, z3⟩, fun b o e => he1 b o (fun q => by rw [q, hI0] at e; cases e) (F'.keep b o e), F'.above⟩
theorem newsBack {L : Addr} {h' h1 : Heap} {news : List (Addr × Obj)} {I : Addr} (N' : News h₀ L h' news) (he1 : Heap.ExtBut I h' h1) (hoff : ∀ p ∈ news, p.1 ≠ I) : News h₀ L h1 news :=
  fun p hp => ⟨he1 _ _ (hoff p hp) (N' p hp).1, (N' p hp).2⟩

/-- a loop over a tuple, one name -/
theorem for_tup1 {px : Pos} {R : Result → Shared → Prop} {pa : Addr} {vs : Array Value} {np : Nat} {m₀ : Str → Option Value} {news : List (Addr × Obj)}
    (J : Nat → (Str → Option Value) → List (Addr × Obj) → Prop) (hh : A.handled = none)
    (hx : env.kindOf x = some .local)
    (hp : (env.scope.kind == .class || (env.scope.kind == .module && env.locals != env.globals)) = false)
    (F : Fr h₀ env.locals s.heap m₀) (N : News h₀ env.locals s.heap news) (hJ0 : J 0 m₀ news)
    (hJ : ∀ i m n, J i m n → (pa, ({ cls := .type "tuple", data := .seq vs np } : Obj)) ∈ n)
    (turn : ∀ (i : Nat) v m₁ news₁ h tk I (it : Obj), vs[i]? = some v → (∀ p ∈ news₁, p.1 ≠ I) → J i m₁ news₁ → Fr h₀ env.locals h (fun z => if z = x then some v else m₁ z) →
      News h₀ env.locals h ((I, it) :: news₁) →
      wpAny (model prog w) A (execs body env) (TPost h₀ env.locals I it (J (i + 1)) { s with heap := h, toks := tk } (fun f s' => R (.ok f) s')) (fun _ _ => False) { s with heap := h, toks := tk })
    (done : ∀ m₁ news₁ h tk, J vs.size m₁ news₁ → Fr h₀ env.locals h m₁ → News h₀ env.locals h news₁ → R (.ok .next) { s with heap := h, toks := tk }) :
    wpAny (model prog w) A (pyIter (.ref pa)) (fun it s₂ => codeAny (model prog w) A (.forLoop (.Name x px) it body [] env) R s₂) (fun _ _ => False) s := by
  have hmem := hJ 0 m₀ news hJ0
  have hl : s.heap.IsTuple pa vs := ⟨_, (N _ hmem).1, rfl, np, rfl⟩
  refine wpAny_pyIter_tuple hl ?_
  have hI0 := next_is_new F
  have hoff0 : ∀ p ∈ news, p.1 ≠ s.heap.objs.size := fun p hp => Nat.ne_of_lt (Heap.lt_size (N p hp).1)
  have hLI : env.locals ≠ s.heap.objs.size := Nat.ne_of_lt F.ns.lt
  have F0 := F.push { cls := .type "tuple_iterator", data := .fields #[.ref pa, .int 0 0] }
  have N0 : News h₀ env.locals (s.heap.push { cls := .type "tuple_iterator", data := .fields #[.ref pa, .int 0 0] }) news := fun p hp => ⟨Heap.get?_push_of_some _ (N p hp).1, (N p hp).2⟩
  have st0 : (s.heap.push { cls := .type "tuple_iterator", data := .fields #[.ref pa, .int 0 0] }).IsTupleIter s.heap.objs.size pa 0 := ⟨_, Heap.get?_push_size _ rfl, rfl, rfl⟩
  generalize s.heap.objs.size = I at *
  generalize s.heap.push { cls := .type "tuple_iterator", data := .fields #[.ref pa, .int 0 0] } = H0 at *
  refine codeAny_forLoop_any (fun kk s' => ∃ h' tk m' news' i, s' = { s with heap := h', toks := tk } ∧ h'.IsTupleIter I pa i ∧ Fr h₀ env.locals h' m' ∧ News h₀ env.locals h' news' ∧ (∀ p ∈ news', p.1 ≠ I) ∧ J i m' news' ∧ i ≤ vs.size ∧ kk = vs.size + 1 - i) ?_ (vs.size + 1)
    ⟨H0, s.toks, m₀, news, 0, rfl, st0, F0, N0, hoff0, hJ0, Nat.zero_le _, rfl⟩
  rintro kk s' ⟨h', tk, m', news', i, rfl, st, F', N', hoff, hJi, hi, rfl⟩
  have hpm := hJ i m' news' hJi
  have hl' : h'.IsTuple pa vs := ⟨_, (N' _ hpm).1, rfl, np, rfl⟩
  by_cases hlt : i < vs.size
  · have hv : vs[i]? = some vs[i] := by simp [hlt]
    refine wpAny_pyNext_tuple_item st hl' hv fun h1 st1 hs1 => ?_
    have F1 : Fr h₀ env.locals h1 m' := F'.change hs1 (Ne.symm hLI) hI0
    have N1 : News h₀ env.locals h1 news' := fun p hp => ⟨(hs1.2 p.1 (hoff p hp)).trans (N' p hp).1, (N' p hp).2⟩
    refine letGo_tupleiter st1 ?_
    have hI1 := st1
    obtain ⟨it, hit, _⟩ := id st1
    have N1' : News h₀ env.locals h1 ((I, it) :: news') := fun p hp => by
      rcases List.mem_cons.mp hp with rfl | hp
      · exact ⟨hit, Ne.symm hLI, hI0⟩
      · exact N1 p hp
    refine wpAny_mono (E := fun _ _ => False) ?_ (fun _ _ z => z) (fun _ _ z => z.elim)
    refine assign_Name (wpAny_storeName_local hx F1.ns (fun h3 hn3 hs3 => ?_) hp)
    have F3 := F1.set hn3 hs3
    have N3 := N1'.set hs3
    refine wpAny_mono (turn i vs[i] m' news' h3 _ I it hv hoff hJi F3 N3) (fun f s₃ p => ?_) (fun _ _ z => z.elim)
    have itI : it.cls = .type "tuple_iterator" ∧ it.data = .fields #[.ref pa, .int ((i + 1 : Nat) : Int) 0] := by
      obtain ⟨o', ho', a1, a2⟩ := hI1
      rw [hit] at ho'
      cases ho'
      exact ⟨a1, a2⟩
    have fin : TEnd h₀ env.locals I it (J (i + 1)) { s with heap := h3, toks := tk + 1 } s₃ → ∃ m, m < vs.size + 1 - i ∧ ∃ h' tk m' news' i, s₃ = { s with heap := h', toks := tk } ∧ h'.IsTupleIter I pa i ∧ Fr h₀ env.locals h' m' ∧ News h₀ env.locals h' news' ∧ (∀ p ∈ news', p.1 ≠ I) ∧ J i m' news' ∧ i ≤ vs.size ∧ m = vs.size + 1 - i := by
      rintro ⟨h5, tk5, m5, news5, rfl, F5, N5, hc5, hJ5⟩
      exact ⟨vs.size + 1 - (i + 1), by omega, h5, tk5, m5, news5, i + 1, rfl, ⟨it, (N5 (I, it) (List.mem_cons_self ..)).1, itI.1, itI.2⟩, F5, fun p hp => N5 p (List.mem_cons_of_mem _ hp), hc5, hJ5, hlt, rfl⟩
    cases f with
    | ret v => exact p
    | brk => exact p
    | next => exact fin p
    | cont => exact fin p
  · have hin : i = vs.size := by omega
    subst hin
    refine wpAny_pyNext_tuple_end hh st hl' (by simp) fun h1 he1 => ?_
    refine wpAny_execs_nil ?_
    exact done m' news' h1 _ hJi (frBack F' he1 hLI hI0) (newsBack N' he1 hoff)

/-- a loop over a tuple of pairs, two names -/
theorem for_tup2 {px py tp : Pos} {k : Nat} {R : Result → Shared → Prop} {pa : Addr} {vs : Array Value} {np : Nat} {m₀ : Str → Option Value} {news : List (Addr × Obj)}
    (J : Nat → (Str → Option Value) → List (Addr × Obj) → Prop) (U : Value → Value → Value → Prop) (hh : A.handled = none)
    (hx : env.kindOf x = some .local) (hy : env.kindOf y = some .local)
    (hp : (env.scope.kind == .class || (env.scope.kind == .module && env.locals != env.globals)) = false)
    (F : Fr h₀ env.locals s.heap m₀) (N : News h₀ env.locals s.heap news) (hJ0 : J 0 m₀ news)
    (hJ : ∀ i m n, J i m n → (pa, ({ cls := .type "tuple", data := .seq vs np } : Obj)) ∈ n ∧ ∀ (i : Nat) v, vs[i]? = some v → ∃ a u1 u2 n', v = .ref a ∧ U v u1 u2 ∧ (a, ({ cls := .type "tuple", data := .seq #[u1, u2] n' } : Obj)) ∈ n)
    (turn : ∀ (i : Nat) v u1 u2 m₁ news₁ h tk I (it : Obj), vs[i]? = some v → U v u1 u2 → (∀ p ∈ news₁, p.1 ≠ I) → J i m₁ news₁ → Fr h₀ env.locals h (fun z => if z = y then some u2 else if z = x then some u1 else m₁ z) →
      News h₀ env.locals h ((I, it) :: news₁) →
      wpAny (model prog w) A (execs body env) (TPost h₀ env.locals I it (J (i + 1)) { s with heap := h, toks := tk } (fun f s' => R (.ok f) s')) (fun _ _ => False) { s with heap := h, toks := tk })
    (done : ∀ m₁ news₁ h tk, J vs.size m₁ news₁ → Fr h₀ env.locals h m₁ → News h₀ env.locals h news₁ → R (.ok .next) { s with heap := h, toks := tk }) :
    wpAny (model prog w) A (pyIter (.ref pa)) (fun it s₂ => codeAny (model prog w) A (.forLoop (.Tuple [.Name x px, .Name y py] k tp) it body [] env) R s₂) (fun _ _ => False) s := by
  have hmem := (hJ 0 m₀ news hJ0).1
  have hl : s.heap.IsTuple pa vs := ⟨_, (N _ hmem).1, rfl, np, rfl⟩
  refine wpAny_pyIter_tuple hl ?_
  have hI0 := next_is_new F
  have hoff0 : ∀ p ∈ news, p.1 ≠ s.heap.objs.size := fun p hp => Nat.ne_of_lt (Heap.lt_size (N p hp).1)
  have hLI : env.locals ≠ s.heap.objs.size := Nat.ne_of_lt F.ns.lt
  have F0 := F.push { cls := .type "tuple_iterator", data := .fields #[.ref pa, .int 0 0] }
  have N0 : News h₀ env.locals (s.heap.push { cls := .type "tuple_iterator", data := .fields #[.ref pa, .int 0 0] }) news := fun p hp => ⟨Heap.get?_push_of_some _ (N p hp).1, (N p hp).2⟩
  have st0 : (s.heap.push { cls := .type "tuple_iterator", data := .fields #[.ref pa, .int 0 0] }).IsTupleIter s.heap.objs.size pa 0 := ⟨_, Heap.get?_push_size _ rfl, rfl, rfl⟩
  generalize s.heap.objs.size = I at *
  generalize s.heap.push { cls := .type "tuple_iterator", data := .fields #[.ref pa, .int 0 0] } = H0 at *
  refine codeAny_forLoop_any (fun kk s' => ∃ h' tk m' news' i, s' = { s with heap := h', toks := tk } ∧ h'.IsTupleIter I pa i ∧ Fr h₀ env.locals h' m' ∧ News h₀ env.locals h' news' ∧ (∀ p ∈ news', p.1 ≠ I) ∧ J i m' news' ∧ i ≤ vs.size ∧ kk = vs.size + 1 - i) ?_ (vs.size + 1)
    ⟨H0, s.toks, m₀, news, 0, rfl, st0, F0, N0, hoff0, hJ0, Nat.zero_le _, rfl⟩
  rintro kk s' ⟨h', tk, m', news', i, rfl, st, F', N', hoff, hJi, hi, rfl⟩
  obtain ⟨hpm, hpairs⟩ := hJ i m' news' hJi
  have hl' : h'.IsTuple pa vs := ⟨_, (N' _ hpm).1, rfl, np, rfl⟩
  by_cases hlt : i < vs.size
  · have hv : vs[i]? = some vs[i] := by simp [hlt]
    obtain ⟨a, u1, u2, n', ev, hU, hoT⟩ := hpairs i _ hv
    rw [ev] at hv hU
    refine wpAny_pyNext_tuple_item st hl' hv fun h1 st1 hs1 => ?_
    have F1 : Fr h₀ env.locals h1 m' := F'.change hs1 (Ne.symm hLI) hI0
    have N1 : News h₀ env.locals h1 news' := fun p hp => ⟨(hs1.2 p.1 (hoff p hp)).trans (N' p hp).1, (N' p hp).2⟩
    refine letGo_tupleiter st1 ?_
    have hT1 : IsTup h1 a #[u1, u2] := ⟨_, (N1 _ hoT).1, rfl, n', rfl⟩
    have hI1 := st1
    obtain ⟨it, hit, _⟩ := id st1
    have N1' : News h₀ env.locals h1 ((I, it) :: news') := fun p hp => by
      rcases List.mem_cons.mp hp with rfl | hp
      · exact ⟨hit, Ne.symm hLI, hI0⟩
      · exact N1 p hp
    refine wpAny_mono (E := fun _ _ => False) ?_ (fun _ _ z => z) (fun _ _ z => z.elim)
    refine unpackN_ F1 N1' hT1 hh (by rfl) (by rfl) fun h2 F2 N2 => ?_
    show wpAny _ _ (assignInOrder [assign (.Name x px) env, assign (.Name y py) env] [u1, u2]) _ _ _
    refine assignInOrder_cons (assign_Name (wpAny_storeName_local hx F2.ns (fun h3 hn3 hs3 => ?_) hp))
    have F3 := F2.set hn3 hs3
    have N3 := N2.set hs3
    refine assignInOrder_cons (assign_Name (wpAny_storeName_local hy F3.ns (fun h4 hn4 hs4 => ?_) hp))
    have F4 := F3.set hn4 hs4
    have N4 := N3.set hs4
    refine assignInOrder_nil ?_
    refine wpAny_mono (turn i _ u1 u2 m' news' h4 _ I it hv hU hoff hJi F4 N4) (fun f s₃ p => ?_) (fun _ _ z => z.elim)
    have itI : it.cls = .type "tuple_iterator" ∧ it.data = .fields #[.ref pa, .int ((i + 1 : Nat) : Int) 0] := by
      obtain ⟨o', ho', a1, a2⟩ := hI1
      rw [hit] at ho'
      cases ho'
      exact ⟨a1, a2⟩
    have fin : TEnd h₀ env.locals I it (J (i + 1)) { s with heap := h4, toks := tk + 1 + 1 } s₃ → ∃ m, m < vs.size + 1 - i ∧ ∃ h' tk m' news' i, s₃ = { s with heap := h', toks := tk } ∧ h'.IsTupleIter I pa i ∧ Fr h₀ env.locals h' m' ∧ News h₀ env.locals h' news' ∧ (∀ p ∈ news', p.1 ≠ I) ∧ J i m' news' ∧ i ≤ vs.size ∧ m = vs.size + 1 - i := by
      rintro ⟨h5, tk5, m5, news5, rfl, F5, N5, hc5, hJ5⟩
      exact ⟨vs.size + 1 - (i + 1), by omega, h5, tk5, m5, news5, i + 1, rfl, ⟨it, (N5 (I, it) (List.mem_cons_self ..)).1, itI.1, itI.2⟩, F5, fun p hp => N5 p (List.mem_cons_of_mem _ hp), hc5, hJ5, hlt, rfl⟩
    cases f with
    | ret v => exact p
    | brk => exact p
    | next => exact fin p
    | cont => exact fin p
  · have hin : i = vs.size := by omega
    subst hin
    refine wpAny_pyNext_tuple_end hh st hl' (by simp) fun h1 he1 => ?_
    refine wpAny_execs_nil ?_
    exact done m' news' h1 _ hJi (frBack F' he1 hLI hI0) (newsBack N' he1 hoff)
end
end Ky
end

section -- KyLaw6
open PySem PySem.W PyProof.Rows
set_option Elab.async false
set_option maxRecDepth 100000
namespace Ky
local macro_rules | `(tactic| walk_at "eval Name") => `(tactic| refine ldLoc (by assumption) (by first | rfl | assumption) ?_)
local macro_rules | `(tactic| walk_at "storeName") => `(tactic| (refine stLocN (by assumption) (by assumption) ?_; intro _ _ _))

structure StL (m : Str → Option Value) (xs ys : List Nat) (lv : Value) (t1 t2 : Tok) : Prop where
  one : m "one" = some (.str ⟨xs.toArray⟩ t1)
  other : m "other" = some (.str ⟨ys.toArray⟩ t2)
  limit : m "limit" = some lv

theorem law_turn {prog : Program} {w : World} {A : Around} {s : Shared} {h₀ : Heap} {mg mb : Str → Option Value} {L f fl fd fs : Addr} {cd : Value} {m : Str → Option Value} {news : List (Addr × Obj)} {Q : Flow → Shared → Prop}
    {xs ys : List Nat} {a b : Nat → Nat} {lv : Value} {t1 t2 : Tok} {sw : Bool}
    (LG : LawG h₀ mg mb fl fd fs) (hh : A.handled = none) (hroom : A.depth < recursionLimit) (hu : A.units + 64 < cLine) (hx : xs.length ≤ 6) (hy : ys.length ≤ 6) (ha : ∀ k, xs.getD k 0 = a k) (hb : ∀ k, ys.getD k 0 = b k)
    (F : Fr h₀ L s.heap m) (N : News h₀ L s.heap news) (S : StL m xs ys lv t1 t2) (hlv : lv = .none ∨ ∃ (l : Nat) (t : Tok), lv = .int l t)
    (q4 : m "swaps" = some (.bool sw))
    (h : ∀ h' tk m', StL m' xs ys lv t1 t2 → Fr h₀ L h' m' → News h₀ L h' news → Q .next { s with heap := h', toks := tk }) :
    wpAny (model prog w) A (execs lawFor (lawEnv L f cd)) Q (fun _ _ => False) s := by
  obtain ⟨q1, q2, q3⟩ := S
  walk1; walk1; walk1
  refine gl_at F LG.G.g LG.gs ?_
  refine callWith_F (LG.FS.fn F.keep) ?_
  walk1; walk1; walk1; walk1; walk1; walk1; walk1
  refine ⟨LG.FS.fn F.keep, ?_⟩
  refine call_stp (a := a) (b := b) LG.G LG.FS (by omega) hh hroom F N hx hy ha hb fun h1 k1 u1 F1 N1 => ?_
  try dsimp only
  refine stLocN F1 N1 fun h2 F2 N2 => ?_
  clear F N F1 N1
  try dsimp only
  refine wpAny_execs_cons (wpAny_For ?_)
  refine Tuple_ ?_
  walk1
  refine Tuple_ ?_
  walk1; walk1; walk1; walk1; walk1
  refine newTuple_N F2 N2 (hsz := sz2) fun h3 F3 N3 => ?_
  try dsimp only
  walk1
  refine Tuple_ ?_
  walk1; walk1; walk1; walk1; walk1
  refine newTuple_N F3 N3 (hsz := sz2) fun h4 F4 N4 => ?_
  try dsimp only
  walk1
  refine newTuple_N F4 N4 (hsz := sz2) fun h5 F5 N5 => ?_
  clear F2 N2 F3 N3 F4 N4
  generalize h2.objs.size = p1 at *
  generalize h3.objs.size = p2 at *
  generalize h4.objs.size = pa at *
  try dsimp only
  have hsd : D sw b a ys.length xs.length = D sw a b xs.length ys.length := (D_symm _ _).symm
  refine for_tup2 (env := lawEnv L f cd) (vs := #[Value.ref p1, Value.ref p2]) (np := 0)
    (fun _ m₁ n => n = ((pa, { cls := Value.type "tuple", data := Data.seq #[Value.ref p1, Value.ref p2] }) :: (p2, { cls := Value.type "tuple", data := Data.seq #[Value.str { cps := ys.toArray } t2, Value.str { cps := xs.toArray } t1] }) :: (p1, { cls := Value.type "tuple", data := Data.seq #[Value.str { cps := xs.toArray } t1, Value.str { cps := ys.toArray } t2] }) :: news)
      ∧ StL m₁ xs ys lv t1 t2 ∧ m₁ "swaps" = some (.bool sw) ∧ m₁ "due" = some (.int ((D sw a b xs.length ys.length : Nat) : Int) u1))
    (fun _ v1 v2 => (v1 = .str ⟨xs.toArray⟩ t1 ∧ v2 = .str ⟨ys.toArray⟩ t2) ∨ (v1 = .str ⟨ys.toArray⟩ t2 ∧ v2 = .str ⟨xs.toArray⟩ t1)) hh rfl rfl rfl F5 N5 ⟨rfl, ⟨q1, q2, q3⟩, q4, rfl⟩ ?_ ?_ ?_
  · rintro i m₁ n ⟨rfl, _, _⟩
    refine ⟨List.mem_cons_self .., fun j v hv => ?_⟩
    match j, hv with
    | 0, hv =>
      have e : v = .ref p1 := by simpa using hv.symm
      exact ⟨p1, _, _, 0, e, .inl ⟨rfl, rfl⟩, by simp⟩
    | 1, hv =>
      have e : v = .ref p2 := by simpa using hv.symm
      exact ⟨p2, _, _, 0, e, .inr ⟨rfl, rfl⟩, by simp⟩
    | j + 2, hv => simp at hv
  · rintro i v u w' m₁ news₁ h6 k6 I it hv hU hoff ⟨rfl, ⟨r1, r2, r3⟩, r4, r5⟩ F6 N6
    rcases hU with ⟨rfl, rfl⟩ | ⟨rfl, rfl⟩
    · refine law_in (s := { s with heap := h6, toks := k6 }) LG hh hroom hu hx hy ha hb F6 N6 rfl rfl r3 hlv r4 r5 ?_
      intro h7 k7 m7 hm7 F7 N7
      exact TEnd.intro F7 N7 hoff ⟨rfl, ⟨(hm7 _ (by decide) (by decide)).trans r1, (hm7 _ (by decide) (by decide)).trans r2, (hm7 _ (by decide) (by decide)).trans r3⟩, (hm7 _ (by decide) (by decide)).trans r4, (hm7 _ (by decide) (by decide)).trans r5⟩
    · refine law_in (s := { s with heap := h6, toks := k6 }) LG hh hroom hu hy hx hb ha F6 N6 rfl rfl r3 hlv r4 (by rw [hsd]; exact r5) ?_
      intro h7 k7 m7 hm7 F7 N7
      exact TEnd.intro F7 N7 hoff ⟨rfl, ⟨(hm7 _ (by decide) (by decide)).trans r1, (hm7 _ (by decide) (by decide)).trans r2, (hm7 _ (by decide) (by decide)).trans r3⟩, (hm7 _ (by decide) (by decide)).trans r4, (hm7 _ (by decide) (by decide)).trans r5⟩
  · rintro m₁ news₁ h6 k6 ⟨rfl, S1, r4, r5⟩ F6 N6
    refine wpAny_execs_nil ?_
    exact h h6 k6 m₁ S1 F6 fun p hp => N6 p (by simp [hp])

/-- the law's two rounds -/
theorem law_tail {prog : Program} {w : World} {A : Around} {s : Shared} {h₀ : Heap} {mg mb : Str → Option Value} {L f fl fd fs : Addr} {cd : Value} {m : Str → Option Value} {news : List (Addr × Obj)} {Q : Flow → Shared → Prop}
    {xs ys : List Nat} {lv : Value} {t1 t2 : Tok}
    (LG : LawG h₀ mg mb fl fd fs) (hh : A.handled = none) (hroom : A.depth < recursionLimit) (hu : A.units + 64 < cLine) (hx : xs.length ≤ 6) (hy : ys.length ≤ 6)
    (F : Fr h₀ L s.heap m) (N : News h₀ L s.heap news) (S : StL m xs ys lv t1 t2) (hlv : lv = .none ∨ ∃ (l : Nat) (t : Tok), lv = .int l t)
    (h : ∀ h' tk m', Fr h₀ L h' m' → News h₀ L h' news → Q (.ret (.bool true)) { s with heap := h', toks := tk }) :
    wpAny (model prog w) A (execs (nth lawBody 5 :: nth lawBody 6 :: []) (lawEnv L f cd)) Q (fun _ _ => False) s := by
  show wpAny _ _ (execs (Stmt.For _ _ _ _ _ :: _) _) _ _ _
  refine wpAny_execs_cons (wpAny_For ?_)
  refine Tuple_ ?_
  walk1; walk1; walk1; walk1; walk1
  refine newTuple_N F N (hsz := sz2) fun h5 F5 N5 => ?_
  generalize s.heap.objs.size = pa at *
  try dsimp only
  refine for_tup1 (env := lawEnv L f cd) (vs := #[Value.bool false, Value.bool true]) (np := 0)
    (fun _ m₁ n => n = ((pa, { cls := Value.type "tuple", data := Data.seq #[Value.bool false, Value.bool true] }) :: news) ∧ StL m₁ xs ys lv t1 t2) hh rfl rfl F5 N5 ⟨rfl, S⟩ ?_ ?_ ?_
  · rintro i m₁ n ⟨rfl, _⟩
    exact List.mem_cons_self ..
  · rintro i v m₁ news₁ h6 k6 I it hv hoff ⟨rfl, S1⟩ F6 N6
    have hb : ∃ bb, v = .bool bb := by
      match i, hv with
      | 0, hv => exact ⟨false, by simpa using hv.symm⟩
      | 1, hv => exact ⟨true, by simpa using hv.symm⟩
      | j + 2, hv => simp at hv
    obtain ⟨bb, rfl⟩ := hb
    refine law_turn (s := { s with heap := h6, toks := k6 }) LG hh hroom hu hx hy (fun _ => rfl) (fun _ => rfl) F6 N6 ⟨S1.one, S1.other, S1.limit⟩ hlv rfl ?_
    intro h7 k7 m7 S7 F7 N7
    exact TEnd.intro F7 N7 hoff ⟨rfl, S7⟩
  · rintro m₁ news₁ h6 k6 ⟨rfl, S1⟩ F6 N6
    show wpAny _ _ (execs (Stmt.Return _ _ :: _) _) _ _ _
    walk1; walk1; walk1
    exact h h6 _ m₁ F6 fun p hp => N6 p (List.mem_cons_of_mem _ hp)
end Ky
end

section -- KyFacts
open PySem PySem.W PyProof.Rows
set_option Elab.async false
set_option maxRecDepth 100000
namespace Ky
set_option maxHeartbeats 4000000
theorem glo_of {P : Params} {p : Program} {loose : List Str} {mg mb : Str → Option Value} {h : Heap} (X : (hd.heap_39 P).In h) (T : TopRead p loose mg mb h) : Glo h mg mb where
  g := T.g
  b := T.b
  nolimit := T.nolimit
  xrange := mg_of X T.g (by kernel_rfl)
  gmin := mg_none_of X T.g (by kernel_rfl)
  glen := mg_none_of X T.g (by kernel_rfl)
  glist := mg_none_of X T.g (by kernel_rfl)
  grange := mg_none_of X T.g (by kernel_rfl)
  gset := mg_none_of X T.g (by kernel_rfl)
  bmin := (T.builtins _ (by decide)).trans (by kernel_rfl)
  blen := (T.builtins _ (by decide)).trans (by kernel_rfl)
  blist := (T.builtins _ (by decide)).trans (by kernel_rfl)
  brange := (T.builtins _ (by decide)).trans (by kernel_rfl)
  bset := (T.builtins _ (by decide)).trans (by kernel_rfl)
theorem levFn_of {P : Params} {h : Heap} (X : (hd.heap_39 P).In h) : LevFn h 22 := by
  refine ⟨?fo, ?oT, ?nT, ?kV, ?doc, ?pm, ?an, ?cdv, ?ct, 15, X 22 ?fo (by rfl), ?h1, X 15 ?oT (by rfl), ?h2, ?h3⟩
  case h1 => rfl
  case h2 => rfl
  case h3 => exact codeRec_of X (by rfl)
theorem damFn_of {P : Params} {h : Heap} (X : (hd.heap_39 P).In h) : DamFn h 30 := by
  refine ⟨?fo, ?oT, ?nT, ?kV, ?doc, ?pm, ?an, ?cdv, ?ct, 23, X 30 ?fo (by rfl), ?h1, X 23 ?oT (by rfl), ?h2, ?h3⟩
  case h1 => rfl
  case h2 => rfl
  case h3 => exact codeRec_of X (by rfl)
theorem trnFn_of {P : Params} {h : Heap} (X : (hd.heap_39 P).In h) : TrnFn h 44 := by
  refine ⟨?fo, ?kV, ?doc, ?pm, ?an, ?cdv, ?ct, X 44 ?fo (by rfl), ?h1, ?h3⟩
  case h1 => rfl
  case h3 => exact codeRec_of X (by rfl)
theorem stpFn_of {P : Params} {h : Heap} (X : (hd.heap_39 P).In h) : StpFn h 51 := by
  refine ⟨?fo, ?kV, ?doc, ?pm, ?an, ?cdv, ?ct, X 51 ?fo (by rfl), ?h1, ?h3⟩
  case h1 => rfl
  case h3 => exact codeRec_of X (by rfl)
theorem lawG_of {P : Params} {p : Program} {loose : List Str} {mg mb : Str → Option Value} {h : Heap} (X : (hd.heap_39 P).In h) (T : TopRead p loose mg mb h) : LawG h mg mb 22 30 51 where
  G := glo_of X T
  gl := mg_of X T.g (by kernel_rfl)
  gd := mg_of X T.g (by kernel_rfl)
  gs := mg_of X T.g (by kernel_rfl)
  FL := levFn_of X
  FD := damFn_of X
  FS := stpFn_of X
end Ky
end

section -- KyEnd
open PySem PySem.W PyProof.Rows
set_option Elab.async false
set_option maxRecDepth 100000
namespace Ky

theorem item_one (x : Str) (i : Int) : (PySem.Txt.item x i).length = 1 := rfl
theorem join_six (f : Int → Str) (n : Nat) (hf : ∀ a, (f a).length ≤ 1) : (PySem.Txt.join (Str.ofString "") (List.map f (rangeKs 0 n))).length ≤ n := by
  show (Builtin.Str.glued (Str.ofString "") _).length ≤ n
  rw [StrLaws.glued_eq_join]
  refine Nat.le_trans (StrLaws.join_length_le _ _) ?_
  have e0 : (Str.ofString "").length = 0 := rfl
  rw [e0, Nat.mul_zero, Nat.add_zero]
  have key : ∀ l : List Int, ((l.map f).map (·.length)).sum ≤ l.length := by
    intro l
    induction l with
    | nil => simp
    | cons a l ih => simp only [List.map_cons, List.sum_cons, List.length_cons]; have := hf a; omega
  have := key (rangeKs 0 n)
  rw [rangeKs_length] at this
  exact this
theorem store_join {M : Model} {A : Around} {E : Value → Shared → Prop} {s : Shared} {env : Env} {nm : Str} {t : Tok} {Q : Unit → Shared → Prop} {f : Int → Str} {n : Nat} (hn : n ≤ 6) (hf : ∀ a, (f a).length ≤ 1)
    (h : ∀ y : Str, y.length ≤ 6 → wpAny M A (storeName env nm (.str y t)) Q E s) : wpAny M A (storeName env nm (.str (PySem.Txt.join (Str.ofString "") (List.map f (rangeKs 0 n))) t)) Q E s :=
  h _ (Nat.le_trans (join_six f n hf) hn)
theorem item_le (x : Str) (i : Int) : (PySem.Txt.item x i).length ≤ 1 := Nat.le_refl 1
theorem ite_one {c : Prop} [Decidable c] {x y : Str} (hx : x.length ≤ 1) (hy : y.length ≤ 1) : (if c then x else y).length ≤ 1 := by
  split
  · exact hx
  · exact hy
theorem empty_le : (Str.empty).length ≤ 1 := Nat.zero_le 1
theorem pow3_ne (n : Nat) : (3 : Int) ^ n ≠ 0 := Int.ne_of_gt (Int.pow_pos (by decide))
theorem num_nonneg (x : Int) : 0 ≤ x.fmod (10 ^ Int.toNat 12) := Int.fmod_nonneg_of_pos _ (by decide)
theorem le_six (x : Int) : (x.fmod 7 - 0).toNat ≤ 6 := by
  have h1 := Int.fmod_lt_of_pos x (b := 7) (by decide)
  omega
theorem store_num {M : Model} {A : Around} {E : Value → Shared → Prop} {s : Shared} {env : Env} {nm : Str} {t : Tok} {Q : Unit → Shared → Prop} {N : Int} (hn : 0 ≤ N)
    (h : ∀ n : Int, 0 ≤ n → wpAny M A (storeName env nm (.int n t)) Q E s) : wpAny M A (storeName env nm (.int N t)) Q E s := h N hn
theorem len_any {prog : Program} {w : World} {A : Around} {E : Value → Shared → Prop} {s : Shared} {x : Str} {t : Tok} {Q : Value → Shared → Prop} (hx : x.length ≤ 6) (h : Q (.int x.length (s.toks + 1)) { s with toks := s.toks + 1 + 1 }) : wpAny (model prog w) A (call (.builtin "len") [.str x t]) Q E s :=
  len_str (by omega) h

theorem call_trn_any {prog : Program} {w : World} {A : Around} {E : Value → Shared → Prop} {s : Shared} {h₀ : Heap} {L : Addr} {m mg mb : Str → Option Value} {news : List (Addr × Obj)} {Q : Value → Shared → Prop} {x : Str} {n : Int} {t1 t2 : Tok} {p : Program} {loose : List Str} {P : Params}
    (F : Fr h₀ L s.heap m) (N : News h₀ L s.heap news) (X : (hd.heap_39 P).In h₀) (T : TopRead p loose mg mb h₀) (hh : A.handled = none) (hroom : A.depth < recursionLimit)
    (hx : x.length ≤ 6) (hn : 0 ≤ n)
    (hR : ∀ h' tk' t (y : Str), y.length ≤ 6 → Fr h₀ L h' m → News h₀ L h' news → Q (.str y t) { s with heap := h', toks := tk' }) :
    wpAny (model prog w) A (call (.ref 44) [.str x t1, .int n t2]) Q E s :=
  call_trn (glo_of X T) (trnFn_of X) hh hroom F N hx hn hR

theorem str_list (x : Str) : x = ⟨x.cps.toList.toArray⟩ := by simp
theorem law_tail_any {prog : Program} {w : World} {A : Around} {E : Value → Shared → Prop} {s : Shared} {h₀ : Heap} {mg mb : Str → Option Value} {L f : Addr} {cd : Value} {m : Str → Option Value} {news : List (Addr × Obj)} {Q : Flow → Shared → Prop}
    {x y : Str} {lv : Value} {t1 t2 : Tok} {p : Program} {loose : List Str} {P : Params}
    (F : Fr h₀ L s.heap m) (N : News h₀ L s.heap news) (X : (hd.heap_39 P).In h₀) (T : TopRead p loose mg mb h₀) (hh : A.handled = none) (hroom : A.depth < recursionLimit) (hu : A.units + 64 < cLine)
    (q1 : m "one" = some (.str x t1)) (q2 : m "other" = some (.str y t2)) (q3 : m "limit" = some lv) (hx : x.length ≤ 6) (hy : y.length ≤ 6)
    (hlv : lv = .none ∨ ∃ (l : Int) (t : Tok), 0 ≤ l ∧ lv = .int l t)
    (h : ∀ h' tk m', Fr h₀ L h' m' → News h₀ L h' news → Q (.ret (.bool true)) { s with heap := h', toks := tk }) :
    wpAny (model prog w) A (execs (nth lawBody 5 :: nth lawBody 6 :: []) (lawEnv L f cd)) Q E s := by
  rw [str_list x] at q1
  rw [str_list y] at q2
  refine wpAny_mono (law_tail (lawG_of X T) hh hroom hu (by simpa [Str.length] using hx) (by simpa [Str.length] using hy) F N ⟨q1, q2, q3⟩ ?_ h) (fun _ _ z => z) (fun _ _ z => z.elim)
  rcases hlv with e | ⟨l, t, h0, e⟩
  · exact .inl e
  · exact .inr ⟨l.toNat, t, by rw [e, Int.toNat_of_nonneg h0]⟩
end Ky
end

section -- KyFin
open PySem PySem.W PyProof.Rows
set_option Elab.async false
open Ky
local macro_rules | `(tactic| walk_at "storeName") => `(tactic| (refine' store_join ?k1 ?k2 ?_; (case k1 => first | exact le_six _ | decide | omega); (case k2 => (intro a; (try dsimp only); (repeat' (first | refine ite_one ?_ ?_ | exact item_le _ _ | exact empty_le)))); intro _ _; walk_say "JOINED"))
local macro_rules | `(tactic| walk_at "storeName") => `(tactic| ((with_reducible show wpAny _ _ (storeName _ (Str.ofString "number") (Value.int (_ + _ : Int) _)) _ _ _); k_dflt (refine store_num (by omega) ?_); intro _ _; walk_say "NUMBER"))
local macro_rules | `(tactic| walk_at "call builtin:len") => `(tactic| ((with_reducible show wpAny _ _ (call (Value.builtin "len") [Value.str _ _]) _ _ _); refine len_any (by assumption) ?_))
local macro_rules | `(tactic| walk_at "binaryOp FloorDiv int int") => `(tactic| ((with_reducible show wpAny _ _ (binaryOp _ (Value.int _ _) (Value.int (_ ^ _) _)) _ _ _); refine floordiv_int (pow3_ne _) ?_; walk_say "POW"))
local macro_rules | `(tactic| walk_at "CompSrc") => `(tactic| (k_here; (fail_if_success kct_src); (try k_fmods); (try kcf_lens); (k_dflt (refine LCg.CompSrc.range (by rfl) (by k_asm) (by k_asm) (by assumption) (by first | decide | exact small_one (by l_bnd) (by l_bnd) (by l_bnd) (by l_bnd) | exact small_one (by kcf_bnd) (by kcf_bnd) (by kcf_bnd) (by kcf_bnd)) (by first | exact rangeSize_nat _ _ | rfl) (by first | exact Nat.le_of_ble_eq_true rfl | (rw [PySem.sizeLine_eq]; omega) | size_fits) ?_; intro g'; (refine' kct_range _ (fun k' t' I' oI' C' oC' D' m' ys' h' tk' E' hlo' hhi' hC' hx' F' N' off' ne' => ?_) ?_); (all_goals (try (simp only [LCg.Off3, and_true] at off'))); (all_goals (try ((show KPfMark → _); intro hMark'))); kcf_last; walk_say "TEXTS"))))
local macro_rules | `(tactic| walk_at "call ref") => `(tactic| ((with_reducible show wpAny _ _ (call (Value.ref 44) _) _ _ _); (k_dflt (refine call_trn_any (by assumption) (by assumption) (by assumption) (topRead_of (by assumption)) (by rfl) (by show (302 : Nat) < recursionLimit; decide) (by first | assumption | decide) (by first | assumption | exact num_nonneg _ | omega) ?_); intro _ _ _ _ _ _ _; walk_say "TURNED GOOD")))
local macro_rules | `(tactic| walk_at "execs cons") => `(tactic| ((with_reducible show wpAny _ _ (execs (Stmt.For (Expr.Name _ _) (Expr.Tuple _ _ _) _ _ _ :: _) _) _ _ _); (k_dflt (refine law_tail_any (by assumption) (by assumption) (by assumption) (topRead_of (by assumption)) (by rfl) (by show (302 : Nat) < recursionLimit; decide) (by show (7 : Nat) + 64 < cLine; decide) (by rfl) (by rfl) (by rfl) (by first | assumption | decide) (by first | assumption | decide) (by first | assumption | exact .inl rfl | exact .inr ⟨_, _, by decide, rfl⟩) ?_); intro _ _ _ _ _; walk_say "TAIL GOOD"; try dsimp only)))
set_option maxRecDepth 100000
set_option maxHeartbeats 8000000
theorem PySem.Challenge.cw_ky0009_01_holds : PySem.Challenge.rw_ky0009_01.Holds := by
  exact hd (by k_go0; (all_goals try k_fold); k_steps)
end

