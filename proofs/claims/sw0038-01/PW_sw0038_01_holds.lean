import PyProof.Rows.All
import Wide.All
import OpenK.AllK
import Wide.FinOn
import Lean
import PySem.Challenge.RW_sw0038_01
open PySem PySem.W PySem.Calls PyProof.Rows
set_option Elab.async false
namespace Mine
set_option maxRecDepth 100000 in
set_option maxHeartbeats 8000000 in
open_top hd for PySem.Challenge.rw_sw0038_01
abbrev TopH (mean : ExcName → Option Value) (mg mb : Str → Option Value) (h₀ : Heap) : Prop := Top hd.view_39 (looseW hd.view_39 [Str.ofString "COMPILER_FLAG_NAMES"]) mean mg mb h₀
theorem neAll_of_lt {d b : Nat} {l : List (Addr × Obj)} (h : ∀ p ∈ l, p.1 < b) (hb : b ≤ d) : ∀ p ∈ l, p.1 ≠ d := fun p hp => Nat.ne_of_lt (Nat.lt_of_lt_of_le (h p hp) hb)
theorem ar0 {N i m : Nat} (h : N - i = m + 1) : N = m + 1 + i := (Nat.sub_eq_iff_eq_add (Nat.le_of_lt (Nat.lt_of_sub_eq_succ h))).mp h
theorem ar1 {N i m : Nat} (h : N - i = m + 1) : N - 1 - (m + 1 - 1) = i := by
  rw [ar0 h, Nat.add_right_comm m 1 i, Nat.add_sub_cancel, Nat.add_sub_cancel, Nat.add_sub_cancel_left]
theorem ar2 {N i m : Nat} (h : N - i = m + 1) : N - (m + 1 - 1) = i + 1 := by
  rw [ar0 h, Nat.add_sub_cancel, Nat.add_assoc, Nat.add_sub_cancel_left, Nat.add_comm]
theorem ar3 {N i m : Nat} (h : N - i = m + 1) : N - (i + 1) = m := by omega
theorem ar4 {N j : Nat} (h : j < N) : N - j = (N - (j + 1)) + 1 := by omega
theorem ar5 {N j : Nat} (h : j < N) : N - (N - (j + 1)) = j + 1 := by omega
theorem ar6 {N j : Nat} (h : j < N) : N - 1 - (N - (j + 1)) = j := by omega
theorem ar7 {N i m : Nat} (h : N - i = m + 1) (h1 : i + 1 < N) : 0 < m + 1 - 1 := by omega
theorem ar8 {a : Nat} {b : Int} (h0 : 0 ≤ b) (h1 : b ≤ (a : Int)) : ((a : Int) - b).toNat = a - b.toNat := by
  obtain ⟨k, rfl⟩ := Int.eq_ofNat_of_zero_le h0; rw [Int.toNat_sub, Int.toNat_natCast]
theorem neNat {a b : Nat} (h : a ≠ b) : @Ne Nat a b := h
theorem off1_all {D : Addr} : ∀ {l : List (Addr × Obj)}, LCg.Off1 D l → ∀ p ∈ l, p.1 ≠ D
  | [], _, _, h => nomatch h
  | _ :: _, x, p, h => by
    rcases List.mem_cons.mp h with rfl | h
    · exact x.1
    · exact off1_all x.2 p h
section
variable {prog : Program} {w : World} {A : Around} {s : Shared} {h₀ : Heap} {L : Addr} {m : Str → Option Value} {env : Env}
theorem toks_step {α : Type} {M : Model} {A : Around} {c : Sem α} {Q : α → Shared → Prop} {E : Value → Shared → Prop} {h : Heap} {g : Array GenState} {d : Drawn} {o : OsState} {n k : Nat} (H : ∀ t : Nat, wpAny M A c Q E ⟨h, g, d, t, o⟩) : wpAny M A c Q E ⟨h, g, d, n + k, o⟩ := H _
/-- a comprehension without a test, by a word of what it has made so far; a turn makes nothing that stays -/
theorem compU_inv {elt : PySem.Expr} {x : Str} {scope : Scope} {cl : List (Str × Addr)} {S : List (Addr × Obj) → Prop} {P : Nat → Value → Prop} {Fin : List Value → List (Addr × Obj) → Prop} {news : List (Addr × Obj)}
    (R : Nat → List Value → Prop) (n : Nat) (hS : S news) (r0 : R 0 []) (fin : ∀ ys, R n ys → Fin ys news)
    (turn : ∀ i ys v I oI C oC D m₂ h tk, i < n → R i ys → P i v → LCg.NsObj oC m₂ → m₂ x = some v → Fr h₀ L h m → News h₀ L h ((I, oI) :: (C, oC) :: (D, LCg.lst ys) :: news) → LCg.Off3 I C D news → ((@Ne Nat I C) ∧ (@Ne Nat I D) ∧ (@Ne Nat C D)) →
      wpAny (model prog w) A (eval elt (compEnvC scope cl C env)) (fun y s' => ∃ h' tk', s' = { s with heap := h', toks := tk' } ∧ Fr h₀ L h' m ∧ News h₀ L h' ((I, oI) :: (C, oC) :: (D, LCg.lst ys) :: news) ∧ R (i + 1) (ys ++ [y])) (fun _ _ => False) { s with heap := h, toks := tk }) :
    LCg.CompRest prog w A h₀ L m env elt x scope cl s S P Fin n 0 [] news := by
  have go : ∀ k i ys, i + k = n → R i ys → LCg.CompRest prog w A h₀ L m env elt x scope cl s S P Fin k i ys news := by
    intro k
    induction k with
    | zero =>
      intro i ys e r
      obtain rfl : i = n := by omega
      exact LCg.CompRest.zero (fin ys r)
    | succ k ih =>
      intro i ys e r
      refine LCg.CompRest.succ fun v I oI C oC D m₂ h tk E' hP hC hx F N off ne => ?_
      refine wpAny_mono (turn i ys v I oI C oC D m₂ h tk (by omega) r hP hC hx F N off ne) (fun y s' hy => ?_) fun _ _ e => e.elim
      obtain ⟨h', tk', rfl, F', N', r'⟩ := hy
      exact ⟨h', tk', news, rfl, F', N', off, hS, ih (i + 1) _ (by omega) r'⟩
  exact go n 0 [] (by omega) r0
/-- the same with one test -/
theorem compT_inv {ct elt : PySem.Expr} {x : Str} {scope : Scope} {cl : List (Str × Addr)} {S : List (Addr × Obj) → Prop} {P : Nat → Value → Prop} {Fin : List Value → List (Addr × Obj) → Prop} {news : List (Addr × Obj)}
    (R : Nat → List Value → Prop) (n : Nat) (hS : S news) (r0 : R 0 []) (fin : ∀ ys, R n ys → Fin ys news)
    (turn : ∀ i ys v I oI C oC D m₂ h tk, i < n → R i ys → P i v → LCg.NsObj oC m₂ → m₂ x = some v → Fr h₀ L h m → News h₀ L h ((I, oI) :: (C, oC) :: (D, LCg.lst ys) :: news) → LCg.Off3 I C D news → ((@Ne Nat I C) ∧ (@Ne Nat I D) ∧ (@Ne Nat C D)) →
      wpAny (model prog w) A (isTrue ct (compEnvC scope cl C env) (eval ct (compEnvC scope cl C env))) (fun ok s₂ => if ok = true then
        wpAny (model prog w) A (eval elt (compEnvC scope cl C env)) (fun y s' => ∃ h' tk', s' = { s with heap := h', toks := tk' } ∧ Fr h₀ L h' m ∧ News h₀ L h' ((I, oI) :: (C, oC) :: (D, LCg.lst ys) :: news) ∧ R (i + 1) (ys ++ [y])) (fun _ _ => False) s₂
        else ∃ h' tk', s₂ = { s with heap := h', toks := tk' } ∧ Fr h₀ L h' m ∧ News h₀ L h' ((I, oI) :: (C, oC) :: (D, LCg.lst ys) :: news) ∧ R (i + 1) ys) (fun _ _ => False) { s with heap := h, toks := tk }) :
    LCt.CompRestT prog w A h₀ L m env ct elt x scope cl s S P Fin n 0 [] news := by
  have go : ∀ k i ys, i + k = n → R i ys → LCt.CompRestT prog w A h₀ L m env ct elt x scope cl s S P Fin k i ys news := by
    intro k
    induction k with
    | zero =>
      intro i ys e r
      obtain rfl : i = n := by omega
      exact LCt.CompRestT.zero (fin ys r)
    | succ k ih =>
      intro i ys e r
      refine LCt.CompRestT.succ fun v I oI C oC D m₂ h tk E' hP hC hx F N off ne => ?_
      refine wpAny_mono (turn i ys v I oI C oC D m₂ h tk (by omega) r hP hC hx F N off ne) (fun ok s₂ hy => ?_) fun _ _ e => e.elim
      cases ok with
      | true =>
        simp only [if_true] at hy ⊢
        refine wpAny_mono hy (fun y s' hy => ?_) fun _ _ e => e.elim
        obtain ⟨h', tk', rfl, F', N', r'⟩ := hy
        exact ⟨h', tk', news, rfl, F', N', off, hS, ih (i + 1) _ (by omega) r'⟩
      | false =>
        simp only [Bool.false_eq_true, if_false] at hy ⊢
        obtain ⟨h', tk', rfl, F', N', r'⟩ := hy
        exact ⟨h', tk', news, rfl, F', N', off, hS, ih (i + 1) _ (by omega) r'⟩
  exact go n 0 [] (by omega) r0
end

/-- what the end of a turn owes -/
noncomputable def StepEnd (h₀ : Heap) (L : Addr) (s : Shared) (I : Addr) (oI : Obj) (J : (Str → Option Value) → List (Addr × Obj) → Array GenState → Prop) (Q : Flow → Shared → Prop) (f : Flow) (s' : Shared) : Prop :=
  match f with
  | .next => ∃ h' tk' g' m' news', s' = { s with heap := h', toks := tk', gens := g' } ∧ Fr h₀ L h' m' ∧ News h₀ L h' ((I, oI) :: news') ∧ LCg.Off1 I news' ∧ J m' news' g'
  | .cont => ∃ h' tk' g' m' news', s' = { s with heap := h', toks := tk', gens := g' } ∧ Fr h₀ L h' m' ∧ News h₀ L h' ((I, oI) :: news') ∧ LCg.Off1 I news' ∧ J m' news' g'
  | .brk => Q .next s'
  | .ret v => Q (.ret v) s'
theorem StepEnd.next {h₀ : Heap} {L : Addr} {s : Shared} {I : Addr} {oI : Obj} {J : (Str → Option Value) → List (Addr × Obj) → Array GenState → Prop} {Q : Flow → Shared → Prop} {h' : Heap} {tk' : Nat} {g' : Array GenState} {m' : Str → Option Value} (news' : List (Addr × Obj))
    (F : Fr h₀ L h' m') (N : News h₀ L h' ((I, oI) :: news')) (o : LCg.Off1 I news') (j : J m' news' g') : StepEnd h₀ L s I oI J Q .next { s with heap := h', toks := tk', gens := g' } := ⟨_, _, _, _, _, rfl, F, N, o, j⟩
theorem off1_of {D : Addr} : ∀ {l : List (Addr × Obj)}, (∀ p ∈ l, p.1 ≠ D) → LCg.Off1 D l
  | [], _ => trivial
  | _ :: _, h => ⟨h _ (.head _), off1_of fun p hp => h p (.tail _ hp)⟩
section
variable {prog : Program} {w : World} {A : Around} {E : Value → Shared → Prop} {s : Shared} {h₀ : Heap} {L : Addr} {m : Str → Option Value} {env : Env}
inductive RLoop (prog : Program) (w : World) (A : Around) (h₀ : Heap) (L : Addr) (env : Env) (x : Str) (body : List Stmt) (Q : Flow → Shared → Prop) : Value → Shared → Prop
  | intro {r : Addr} {a b : Int} {t u v : Tok} {n : Nat} {m : Str → Option Value} {news : List (Addr × Obj)} {s : Shared} (J : Nat → (Str → Option Value) → List (Addr × Obj) → Array GenState → Prop)
    (hh : A.handled = none) (F : Fr h₀ L s.heap m) (N : News h₀ L s.heap news) (hr : IsRange s.heap r a b 1 t u v) (hsm : Builtin.Range.small a b 1 = true) (hn : Builtin.Range.rangeSize a b 1 = ((n : Nat) : Int))
    (j0 : J 0 m news s.gens)
    (turn : ∀ i m₁ news₁ g₁ I oI h tk t', i < n → J i m₁ news₁ g₁ → LCg.Off1 I news₁ → Fr h₀ L h m₁ → News h₀ L h ((I, oI) :: news₁) →
      wpAny (model prog w) A (storeName env x (.int (a + (i : Int)) t')) (fun _ s₂ => wpAny (model prog w) A (execs body env) (StepEnd h₀ L s I oI (J (i + 1)) Q) (fun _ _ => False) s₂) (fun _ _ => False) { s with heap := h, toks := tk, gens := g₁ })
    (done : ∀ m' news' g' h tk, J n m' news' g' → Fr h₀ L h m' → News h₀ L h news' → Q .next { s with heap := h, toks := tk, gens := g' }) : RLoop prog w A h₀ L env x body Q (.ref r) s
noncomputable def RInv (h₀ : Heap) (L : Addr) (s₁ : Shared) (a : Int) (n : Nat) (J : Nat → (Str → Option Value) → List (Addr × Obj) → Array GenState → Prop) (k : Nat) (s' : Shared) : Prop :=
  ∃ i m' news' g' h' tk', s' = { s₁ with heap := h', toks := tk', gens := g' } ∧ i ≤ n ∧ k = n + 1 - i ∧ IsRangeIter h' s₁.heap.objs.size (a + (i : Nat) * 1) ((n : Int) - (i : Nat)) 1 ∧ Fr h₀ L h' m' ∧ News h₀ L h' news' ∧ LCg.Off1 s₁.heap.objs.size news' ∧ J i m' news' g'
theorem RInv.next {s₁ s₄ : Shared} {a : Int} {n i : Nat} {J : Nat → (Str → Option Value) → List (Addr × Obj) → Array GenState → Prop} {oI : Obj} {h₂ : Heap} (hlt : i < n) (hit₂ : IsRangeIter h₂ s₁.heap.objs.size (a + ((i + 1 : Nat) : Int) * 1) ((n : Int) - ((i + 1 : Nat) : Int)) 1) (hoI : h₂.get? s₁.heap.objs.size = some oI)
    (h : ∃ h' tk' g' m' news', s₄ = { s₁ with heap := h', toks := tk', gens := g' } ∧ Fr h₀ L h' m' ∧ News h₀ L h' ((s₁.heap.objs.size, oI) :: news') ∧ LCg.Off1 s₁.heap.objs.size news' ∧ J (i + 1) m' news' g') : ∃ m₂, m₂ < n + 1 - i ∧ RInv h₀ L s₁ a n J m₂ s₄ := by
  obtain ⟨h₅, tk₅, g₅, m₅, news₅, rfl, F₅, N₅, o₅, j₅⟩ := h
  refine ⟨n + 1 - (i + 1), by omega, i + 1, m₅, news₅, g₅, h₅, tk₅, rfl, hlt, rfl, ?_, F₅, fun p hp => N₅ p (.tail _ hp), o₅, j₅⟩
  have q := (N₅ _ (.head _)).1
  show h₅.get? s₁.heap.objs.size = some _
  have q2 : h₂.get? s₁.heap.objs.size = some _ := hit₂
  rw [hoI] at q2
  exact q.trans q2
theorem For_R {x : Str} {px pos : Pos} {iter : PySem.Expr} {body : List Stmt} {Q : Flow → Shared → Prop} (_F₀ : Fr h₀ L s.heap m)
    (h : wpAny (model prog w) A (eval iter env) (RLoop prog w A h₀ L env x body Q) E s)
    (hs : ∀ x, foldedSetIterable iter env x = pure x := by intro _; rfl) :
    wpAny (model prog w) A (exec (.For (.Name x px) iter body [] pos) env) Q E s := by
  refine wpAny_For (wpAny_mono h (fun xv s₁ h₁ => ?_) fun _ _ e => e) hs
  obtain @⟨r, a, b, t, u, v, n, m, news, _, J, hh, F, N, hr, hsm, hn, j0, turn, done⟩ := h₁
  refine wpAny_pyIter_range hr hsm ?_
  have W := LCg.range_walks (prog := prog) (w := w) (I := s₁.heap.objs.size) hh a n
  refine codeAny_forLoop (RInv h₀ L s₁ a n J) ?_ (n + 1)
    ⟨0, m, news, s₁.gens, _, s₁.toks, rfl, Nat.zero_le _, rfl, by show IsRangeIter _ _ _ _ _; rw [hn]; simpa using Heap.get?_push_size _ rfl, F.push _, N.grown fun _ _ e => Heap.get?_push_of_some _ e, off1_of fun p hp => Nat.ne_of_lt (Heap.lt_size (N p hp).1), j0⟩
  have hI₀ : h₀.get? s₁.heap.objs.size = none := next_is_new F
  have hIL : L ≠ s₁.heap.objs.size := Nat.ne_of_lt F.ns.lt
  rintro k s' ⟨i, m', news', g', h', tk', rfl, hi, rfl, hit, F', N', o', j'⟩
  by_cases hlt : i < n
  · refine W.item i _ _ _ hlt hit fun v' h₂ tk₂ hP hit₂ hk₂ => ?_
    obtain ⟨t', rfl⟩ := hP
    have F₂ : Fr h₀ L h₂ m' := LCg.fr_but F' hk₂ hIL hI₀
    have N₂ : News h₀ L h₂ news' := LCg.news_but N' hk₂ (off1_all o')
    obtain ⟨oI, hoI⟩ : ∃ oI, h₂.get? s₁.heap.objs.size = some oI := ⟨_, hit₂⟩
    have N₃ : News h₀ L h₂ ((s₁.heap.objs.size, oI) :: news') := fun p hp => by
      rcases List.mem_cons.mp hp with rfl | hp
      · exact ⟨hoI, Ne.symm hIL, hI₀⟩
      · exact N₂ p hp
    refine wpAny_assign_Name (wpAny_mono (turn i m' news' g' _ oI h₂ tk₂ t' hlt j' o' F₂ N₃) (fun _ s₃ h₃ => ?_) fun _ _ e => e.elim)
    refine wpAny_mono h₃ (fun f s₄ h₄ => ?_) fun _ _ e => e.elim
    cases f with
    | next => exact RInv.next hlt hit₂ hoI h₄
    | cont => exact RInv.next hlt hit₂ hoI h₄
    | brk => exact h₄
    | ret v => exact h₄
  · obtain rfl : i = n := Nat.le_antisymm hi (Nat.not_lt.mp hlt)
    refine W.done _ _ _ hit fun h₂ tk₂ hk₂ => ?_
    refine wpAny_execs_nil ?_
    exact done m' news' g' h₂ tk₂ j' (LCg.fr_but F' hk₂ hIL hI₀) (LCg.news_but N' hk₂ (off1_all o'))
end
local macro_rules | `(tactic| walk_at $s:str) => `(tactic| k_extra $s)
local macro_rules | `(tactic| k_all) => `(tactic| first | exact neAll_of_lt (by assumption) (by omega) | exact off1_all (by assumption))
local macro_rules | `(tactic| k_ne) => `(tactic| (refine neN ?_; (try dsimp only); first | with_reducible assumption | omega))
local macro_rules | `(tactic| ktn_open) => `(tactic| first | assumption | exact List.Mem.head _ | (refine List.Mem.tail _ ?_; ktn_open))
local macro_rules | `(tactic| ktr_unf) => `(tactic| first | exact List.forall_mem_nil _ | (refine List.forall_mem_cons.mpr ⟨by ktn_open, ?_⟩; ktr_unf) | (intro p9 hp9; ktn_open))
theorem told_step {told pre : List Int} {j : Nat} {x k : Int} (h1 : told.length = 3) (h2 : ∀ x ∈ told, 0 ≤ x ∧ x ≤ 61 + 1000000 * (pre.length : Int)) :
   (told.set j (told.getD j 0 + x.fmod 1000000)).length = 3 ∧ ∀ y, y ∈ told.set j (told.getD j 0 + x.fmod 1000000) → 0 ≤ y ∧ y ≤ 61 + 1000000 * ((pre ++ [k]).length : Int) := by
  refine ⟨by rw [List.length_set, h1], fun y hy => ?_⟩
  have hx : 0 ≤ x.fmod 1000000 ∧ x.fmod 1000000 < 1000000 := ⟨Int.fmod_nonneg_of_pos _ (by decide), Int.fmod_lt_of_pos _ (by decide)⟩
  have hl : ((pre ++ [k]).length : Int) = pre.length + 1 := by simp
  rw [hl]
  rcases List.mem_or_eq_of_mem_set hy with h | h
  · have := h2 y h; omega
  · by_cases hj : j < told.length
    · have hm : told.getD j 0 ∈ told := by rw [List.getD_eq_getElem?_getD, List.getElem?_eq_getElem hj]; exact List.getElem_mem hj
      have := h2 _ hm; omega
    · have : told.getD j 0 = 0 := by rw [List.getD_eq_getElem?_getD, List.getElem?_eq_none (by omega)]; rfl
      omega
theorem told_start : [4, 2, 61].length = 3 ∧ ∀ (x : Int), x ∈ [4, 2, 61] → 0 ≤ x ∧ x ≤ 61 + 1000000 * (([]:List Int).length : Int) := by
  decide
theorem told_end {ts : List Int} {n : Int} (h : ∀ x, x ∈ ts → 0 ≤ x ∧ x ≤ 61 + 1000000 * ((rangeKs 0 ((if n < 60 then n else 60) - 0).toNat).length : Int)) :
    ∀ x ∈ ts, 0 ≤ x ∧ x ≤ 61 + 1000000 * 63 := by
  intro x hx
  have h9 := h x hx
  rw [rangeKs_length] at h9
  split at h9 <;> omega
set_option maxRecDepth 100000 in
set_option maxHeartbeats 8000000 in
theorem told_ctr {w : World} {mean : ExcName → Option Value} {mg mb : Str → Option Value} {dp un : Nat} {gd : Option (List Code)} {cn : Str} {cs : Scope} {a : Addr} {ccd : Value} {cl : List (Str × Addr)} {outer : List Env} {A₀ : Around} {base h₀ : Heap} {L : Addr} {m : Str → Option Value} {news : List (Addr × Obj)} {s : Shared} {Q E : Value → Shared → Prop}
   (B : Below A₀ base outer h₀) (F : Fr h₀ L s.heap m) (X : (hd.heap_39 w.params).In h₀) (N : News h₀ L s.heap news) (T : TopH mean mg mb h₀) (hk : cs.kind = .function)
   {l : Addr} {vs : List Value} {ns : List Int} (hl : base.IsList l vs.toArray) (hi : IntsAre vs ns) (hn : ns.length ≤ 63) (hdp : dp + 2 < recursionLimit) (_hun : un + 200 < cLine)
   (hret : ∀ ts vs' n l' h' tk', IntsAre vs' ts → ts.length = 3 → (∀ x ∈ ts, 0 ≤ x ∧ x ≤ 61 + 1000000 * 63) → Fr h₀ L h' m → News h₀ L h' ((l', listOf vs'.toArray n) :: news) → AllLt l' news → Q (.ref l') { s with heap := h', toks := tk' }) :
   wpAny (model PySem.Challenge.rw_sw0038_01.row.prog w) (ktrTop dp un gd cn cs L a ccd cl outer) (call (.ref 71) [.ref l]) Q E s := by
  k_with_none
  k_with "execs cons" => (with_reducible refine toks_step (fun tk0 => ?_))
  w_top off
  revert X; k_fill; intro X
  k_with "state" => (first | exact told_step (by assumption) (by assumption) | exact told_start)
  k_with "pyIter ref" => k_state (fun pre (told : List Int) => told.length = 3 ∧ ∀ x ∈ told, 0 ≤ x ∧ x ≤ 61 + 1000000 * (pre.length : Int)) "told"
  refine wpAny_call ?_
  k_dflt cell_enter
  k_steps
  all_goals exact hret _ _ _ _ _ _ (by assumption) (by assumption) (told_end (by assumption)) (by k_asm) (by k_asm) (allLt_of (by assumption))
noncomputable def coinF (f t0 t1 t2 : Int) (k : Nat) : Int := f * (1 + (([t0, t1, t2].getD ((0 + (k : Int)).fmod 2).toNat 0).fdiv (3 ^ ((0 + (k : Int)).fdiv 2).toNat)).fmod 3) + (0 + k) + 1
noncomputable def coinsOf (t0 t1 t2 : Int) : List Int := [3 + t2.fmod 2] ++ (List.range (3 + t2.fmod 2 - 1 - 0).toNat).map (coinF (3 + t2.fmod 2) t0 t1 t2)
theorem pow3_ne (n : Nat) : (3 : Int) ^ n ≠ 0 := Int.pow_ne_zero (by decide)
theorem pow3_small {i : Nat} {x : Int} (hi : i < (3 + x.fmod 2 - 1 - 0).toNat) : ((3 : Int) ^ ((0 + (i : Int)).fdiv 2).toNat).natAbs < 1073741824 ∧ 0 ≤ (0 + (i : Int)).fdiv 2 ∧ (0 + (i : Int)).fdiv 2 ≤ 1000000 := by
  have h := Int.fmod_lt_of_pos x (b := 2) (by decide)
  have h3 : i < 3 := by omega
  match i, h3 with
  | 0, _ => decide
  | 1, _ => decide
  | 2, _ => decide
theorem map_range_succ {α : Type} (f : Nat → α) (i : Nat) : (List.range (i + 1)).map f = (List.range i).map f ++ [f i] := by rw [List.range_succ, List.map_append]; rfl
theorem ints_snoc {ys : List Value} {f : Nat → Int} {i : Nat} {t : Tok} (h : IntsAre ys ((List.range i).map f)) : IntsAre (ys ++ [.int (f i) t]) ((List.range (i + 1)).map f) := by
  rw [map_range_succ]; exact h.append (.cons _ _ .nil)
set_option maxRecDepth 100000 in
set_option maxHeartbeats 8000000 in
theorem coins_ctr {lt : Addr} {t0 t1 t2 : Int} {k0 k1 k2 : Tok} {n0 : Nat} {w : World} {mean : ExcName → Option Value} {mg mb : Str → Option Value} {dp un : Nat} {gd : Option (List Code)} {cn : Str} {cs : Scope} {a : Addr} {ccd : Value} {cl : List (Str × Addr)} {outer : List Env} {A₀ : Around} {base h₀ : Heap} {L : Addr} {m : Str → Option Value} {news : List (Addr × Obj)} {s : Shared} {Q E : Value → Shared → Prop}
   (B : Below A₀ base outer h₀) (F : Fr h₀ L s.heap m) (X : (hd.heap_39 w.params).In h₀) (N : News h₀ L s.heap ((lt, listOf #[.int t0 k0, .int t1 k1, .int t2 k2] n0) :: news)) (T : TopH mean mg mb h₀) (hk : cs.kind = .function)
   (hb0 : 0 ≤ t0 ∧ t0 ≤ 63000061) (hb1 : 0 ≤ t1 ∧ t1 ≤ 63000061) (hb2 : 0 ≤ t2 ∧ t2 ≤ 63000061) (hdp : dp + 2 < recursionLimit) (_hun : un + 200 < cLine)
   (hret : ∀ vs' n l' h' tk', IntsAre vs' (coinsOf t0 t1 t2) → Fr h₀ L h' m → News h₀ L h' ((l', listOf vs'.toArray n) :: (lt, listOf #[.int t0 k0, .int t1 k1, .int t2 k2] n0) :: news) → AllLt l' ((lt, listOf #[.int t0 k0, .int t1 k1, .int t2 k2] n0) :: news) → Q (.ref l') { s with heap := h', toks := tk' }) :
   wpAny (model PySem.Challenge.rw_sw0038_01.row.prog w) (ktrTop dp un gd cn cs L a ccd cl outer) (call (.ref 76) [.ref lt]) Q E s := by
  k_with_none
  k_with "execs cons" => (with_reducible refine toks_step (fun tk0 => ?_))
  w_top off
  revert X; k_fill; intro X
  k_with "eval ListComp" => (k_here; k_dflt (refine LCg.ListComp_U (F₀ := by k_asm) (by with_unfolding_all rfl) (by decide) (by rfl) (by decide) (by rfl) ?_))
  k_with "CompSrc" => (k_here; k_dflt (refine' LCg.CompSrc.range ?qh ?qf ?qn ?qr ?qs (rangeSize_nat _ _) ?qz ?_; (case qh => rfl); (case qf => k_asm); (case qn => k_asm); (case qr => assumption); (case qs => exact small_one (by decide) (by decide) (by k_fmods; omega) (by k_fmods; omega)); (case qz => (simp only [sizeLine_eq]; k_fmods; omega)); (intro g'); refine' compU_inv (fun i ys => IntsAre ys ((List.range i).map (coinF (3 + t2.fmod 2) t0 t1 t2))) _ trivial .nil ?qfin ?qturn; (case' qfin => (intro ys hys)); (case' qturn => (intro i ys v I oI C oC D m₂ h tk hi hR hP hC hx F N off ne; obtain ⟨t9, rfl⟩ := hP; obtain ⟨hp9, hp8, hp7⟩ := pow3_small hi))))
  k_with "binaryOp FloorDiv int int" => (k_dflt (refine floordiv_int (pow3_ne _) ?_ (Or.inl (PyProof.noPylong_small (by assumption)))))
  k_with "binaryOp Pow int int" => (k_dflt (refine pow_int_small (by assumption) (by assumption) (by decide) ?_))
  k_with "binaryOp Add ref ref" => (k_dflt (refine' kmk_add_ints ?qF ?qN ?qa ?qb ?qi ?qj ?_ ?qz; (case qF => k_asm); (case qN => k_asm); (case qa => kmk_list); (case qb => kmk_list); (case qi => exact .cons _ _ .nil); (case qj => exact hys); (case qz => (rw [List.length_map, List.length_range]; simp only [sizeLine_eq, List.length_cons, List.length_nil]; k_fmods; omega)); (intro D' ws' h' F' N' l1 hI')))
  k_with "Exists" => (refine ⟨_, _, rfl, by k_asm, by k_asm, ?_⟩; exact ints_snoc (f := coinF (3 + t2.fmod 2) t0 t1 t2) hR)
  refine wpAny_call ?_
  k_dflt (refine' code_defC ?k1 ?k2 ?k3 ?k4 ?k5 ?kA ?kF ?kK ?k6 ?k7 ?k8 ?k9 ?kB ?kD ?_ ?c2 ?c3 ?c4; (case kA => exact rfl); (case kF => exact rfl); (case kK => assumption); (case k1 => k_asm); (case k2 => k_asm); (case k3 => k_asm); (case k4 => k_asm); (case k5 => k_asm); (case k6 => k_is); (case k7 => k_is); (case k8 => ktr_room); (case k9 => exact BindsTo.of_eq rfl); (case kB => exact rfl); (case kD => decide +kernel); (case c2 => exact rfl); (case c3 => exact rfl); (case c4 => exact rfl); k_whole; intro g' L' h' tk' cells' FG' F' N' Y' B' X' T' l1; (have l1z : ∀ p ∈ news, p.1 < L' := fun p hp => l1 p (by first | exact hp | exact .tail _ hp | exact .tail _ (.tail _ hp) | exact .tail _ (.tail _ (.tail _ hp)))); (try k_lt l1); k_cells Y'; (try simp only [List.cons_append, List.nil_append] at N'); (try dsimp only); (try k_lift B'); (try k_fold))
  k_steps
  exact hret _ _ _ _ _ hI' (by k_asm) (cb_drop (by k_asm) (by ktr_unf)) (allLt_of fun p hp => l1 p (by ktn_open))
noncomputable def paidTo (co : List Int) : Nat → List Bool
  | 0 => [true]
  | k + 1 => paidTo co k ++ [!decide ((co.filter fun c => decide (c ≤ 1 + (k : Int)) && (paidTo co k).getD (1 + (k : Int) - c).toNat false) = [])]
theorem paidTo_length (co : List Int) : ∀ k, (paidTo co k).length = k + 1
  | 0 => rfl
  | k + 1 => by rw [paidTo, List.length_append, paidTo_length co k]; rfl
theorem paid_push (co : List Int) (i : Nat) : ((paidTo co i).map Value.bool).toArray.push (.bool (!decide ((co.filter fun c => decide (c ≤ 1 + (i : Int)) && (paidTo co i).getD (1 + (i : Int) - c).toNat false) = []))) = ((paidTo co (i + 1)).map Value.bool).toArray := by
  rw [paidTo, List.map_append, List.push_toArray]; rfl
theorem bools_at {l : List Bool} {k : Nat} (h : k < l.length) : (l.map Value.bool).toArray[k]? = some (.bool (l.getD k false)) := by
  simp [h, List.getD_eq_getElem?_getD]
theorem take_snoc {co : List Int} {i : Nat} {c : Int} (h : co[i]? = some c) : co.take (i + 1) = co.take i ++ [c] := by rw [List.take_add_one, h]; rfl
theorem ints_keep {ys : List Value} {co : List Int} {i : Nat} {c : Int} {t : Tok} {p : Int → Bool} (h : IntsAre ys ((co.take i).filter p)) (hc : co[i]? = some c) (hp : p c = true) : IntsAre (ys ++ [.int c t]) ((co.take (i + 1)).filter p) := by
  rw [take_snoc hc, List.filter_append, List.filter_cons, if_pos hp]; exact h.append (.cons _ _ .nil)
theorem ints_skip {ys : List Value} {co : List Int} {i : Nat} {c : Int} {p : Int → Bool} (h : IntsAre ys ((co.take i).filter p)) (hc : co[i]? = some c) (hp : p c = false) : IntsAre ys ((co.take (i + 1)).filter p) := by
  rw [take_snoc hc, List.filter_append, List.filter_cons, if_neg (by rw [hp]; exact Bool.false_ne_true), List.filter_nil, List.append_nil]; exact h
section
variable {prog : Program} {w : World} {A : Around} {E : Value → Shared → Prop} {s : Shared} {h₀ : Heap} {L : Addr} {m : Str → Option Value} {env : Env} {news : List (Addr × Obj)}
theorem item_led {value slice : PySem.Expr} {l : Addr} {vs : Array Value} {n : Nat} {k : Int} {u : Tok} {v : Value} {Q : Value → Shared → Prop} (N : News h₀ L s.heap news) (hm : (l, listOf vs n) ∈ news) (h0 : 0 ≤ k) (hhi : k < 2 ^ 63) (hx : vs[k.toNat]? = some v) (h : Q v s)
    (hs : subscripted slice false (.ref l) (.int k u) = operate [.ref l, .int k u] (getItem (.ref l) (.int k u)) := by with_unfolding_all rfl) :
    wpAny (model prog w) A (subscriptTail value slice (.ref l) (.int k u)) Q E s :=
  have hl : s.heap.IsList l vs := ⟨_, (N _ hm).1, rfl, _, rfl⟩
  tail_any hl.typeIs slot_list_getitem.lookup (wpAny_getItem_list hl h0 hhi hx h) hs
theorem paid_loop {x : Str} {body : List Stmt} {Q : Flow → Shared → Prop} {r : Addr} {t u v : Tok} {rest : List (Addr × Obj)} {lp c1 c2 : Addr} {on op : Obj} {k0 : Nat} (co : List Int)
    (hh : A.handled = none) (F : Fr h₀ L s.heap m) (N : News h₀ L s.heap ((lp, listOf #[.bool true] k0) :: (c1, on) :: (c2, op) :: rest)) (hon : ∃ v, on.data = .cell v) (hr : IsRange s.heap r 1 25 1 t u v)
    (turn : ∀ (i : Nat) on k I oI h tk t', i < 24 → (∃ v, on.data = .cell v) → LCg.Off1 I ((lp, listOf ((paidTo co i).map Value.bool).toArray k) :: (c1, on) :: (c2, op) :: rest) → Fr h₀ L h m → News h₀ L h ((I, oI) :: (lp, listOf ((paidTo co i).map Value.bool).toArray k) :: (c1, on) :: (c2, op) :: rest) →
      wpAny (model prog w) A (storeName env x (.int (1 + (i : Int)) t')) (fun _ s₂ => wpAny (model prog w) A (execs body env) (StepEnd h₀ L s I oI (fun m' news' g' => m' = m ∧ g' = s.gens ∧ ∃ on k, (∃ v, on.data = .cell v) ∧ news' = (lp, listOf ((paidTo co (i + 1)).map Value.bool).toArray k) :: (c1, on) :: (c2, op) :: rest) Q) (fun _ _ => False) s₂) (fun _ _ => False) { s with heap := h, toks := tk })
    (done : ∀ on k h tk, Fr h₀ L h m → News h₀ L h ((lp, listOf ((paidTo co 24).map Value.bool).toArray k) :: (c1, on) :: (c2, op) :: rest) → Q .next { s with heap := h, toks := tk }) :
    RLoop prog w A h₀ L env x body Q (.ref r) s := by
  refine RLoop.intro (n := 24) (fun i m' news' g' => m' = m ∧ g' = s.gens ∧ ∃ on k, (∃ v, on.data = .cell v) ∧ news' = (lp, listOf ((paidTo co i).map Value.bool).toArray k) :: (c1, on) :: (c2, op) :: rest) hh F N hr (by decide) (by decide) ⟨rfl, rfl, on, k0, hon, rfl⟩ ?_ ?_
  · rintro i m₁ news₁ g₁ I oI h tk t' hi ⟨rfl, rfl, on, k, hon, rfl⟩ o F₁ N₁
    exact turn i on k I oI h tk t' hi hon o F₁ N₁
  · rintro m' news' g' h tk ⟨rfl, rfl, on, k, hon, rfl⟩ F₁ N₁
    exact done on k h tk F₁ N₁
end
set_option maxRecDepth 100000 in
set_option maxHeartbeats 8000000 in
theorem paid_ctr {lc : Addr} {co : List Int} {vc : List Value} {nc : Nat} {w : World} {mean : ExcName → Option Value} {mg mb : Str → Option Value} {dp un : Nat} {gd : Option (List Code)} {cn : Str} {cs : Scope} {a : Addr} {ccd : Value} {cl : List (Str × Addr)} {outer : List Env} {A₀ : Around} {base h₀ : Heap} {L : Addr} {m : Str → Option Value} {news : List (Addr × Obj)} {s : Shared} {Q E : Value → Shared → Prop}
   (B : Below A₀ base outer h₀) (F : Fr h₀ L s.heap m) (X : (hd.heap_39 w.params).In h₀) (N : News h₀ L s.heap ((lc, listOf vc.toArray nc) :: news)) (T : TopH mean mg mb h₀) (hk : cs.kind = .function)
   (hi : IntsAre vc co) (hlen : co.length ≤ 4) (hpos : ∀ c ∈ co, 1 ≤ c) (hdp : dp + 2 < recursionLimit) (_hun : un + 200 < cLine)
   (hret : ∀ n l' h' tk', Fr h₀ L h' m → News h₀ L h' ((l', listOf ((paidTo co 24).map Value.bool).toArray n) :: (lc, listOf vc.toArray nc) :: news) → AllLt l' ((lc, listOf vc.toArray nc) :: news) → Q (.ref l') { s with heap := h', toks := tk' }) :
   wpAny (model PySem.Challenge.rw_sw0038_01.row.prog w) (ktrTop dp un gd cn cs L a ccd cl outer) (call (.ref 81) [.ref lc]) Q E s := by
  k_with_none
  k_with "execs cons" => (with_reducible refine toks_step (fun tk0 => ?_))
  w_top off
  revert X; k_fill; intro X
  k_with "exec For Name Call cons nil" => (k_here; k_dflt (refine For_R (by k_asm) ?_))
  k_with "RLoop" => (k_dflt (refine' paid_loop co ?qh ?qF ?qN ?qo ?qr ?_ ?_; (case qh => rfl); (case qF => k_asm); (case qN => k_asm); (case qo => exact ⟨_, by assumption⟩); (case qr => assumption); all_goals (first | (intro i on k I oI h tk t' hi9 hon off F N; simp only [LCg.Off1, and_true] at off; have gI := neNat off.1.symm; have gJ := neNat off.2.1.symm; obtain ⟨v9, hon⟩ := hon) | (intro on k h tk F N))))
  k_with "eval ListComp" => (k_here; k_dflt (refine LCt.ListComp_T (F₀ := by k_asm) (by with_unfolding_all rfl) (by decide) (by rfl) (by decide) (by rfl) ?_))
  k_with "CompSrcT" => (k_dflt ((refine' LCt.CompSrcT.ledger ?qh ?qF ?qN ?qm ?qz ?_); (case qh => rfl); (case qF => k_asm); (case qN => k_asm); (case qm => ktn_open); (case qz => (rw [List.size_toArray, IntsAre.length hi, sizeLine_eq]; omega)); (intro g'); (refine' compT_inv (fun (j : Nat) (ys : List Value) => IntsAre ys ((co.take j).filter fun c => decide (c ≤ 1 + (i : Int)) && (paidTo co i).getD (1 + (i : Int) - c).toNat false)) _ ?qS ?q0 ?_ ?_); (case q0 => exact IntsAre.nil); (case qS => exact Or.inr ⟨_, by ktn_open, rfl, _, rfl⟩); (all_goals (first | (intro j ys v I2 oI2 C oC D m₂ h tk hj hR hP hC hx F N off2 ne; obtain ⟨c, t8, rfl, hc⟩ := hi.at j v (by simpa using hP); have hc1 := hpos c (List.mem_of_getElem? hc)) | (intro ys hys; rw [List.size_toArray, IntsAre.length hi, List.take_length] at hys)))))
  k_with "subscriptTail Name BinOp ref int" => (k_dflt ((refine' item_led ?qa ?qb ?qc ?qd ?qe ?_); (case qa => k_asm); (case qb => ktn_open); (case qc => omega); (case qd => omega); (case qe => exact bools_at (by rw [paidTo_length]; omega))))
  k_with "Exists" => (k_dflt ((refine ⟨_, _, rfl, by k_asm, by k_asm, ?_⟩); (first | exact ints_skip hR hc (by first | (simp; omega) | simp_all) | exact ints_keep hR hc (by first | (simp; omega) | simp_all))))
  k_with "compareOp NotEq ref ref" => (k_dflt ((refine' ne_intsK (vs := ys) (us := []) ?qa hys ?qc .nil ?qe ?_); (case qa => is_list); (case qc => is_list); (case qe => units_room)))
  k_with "call builtin:list.append" => (k_dflt ((try ((with_reducible rename _ ≠ _ ∧ _ => hq9); have gq := neNat hq9.2.1.symm)); (refine' append_K ?qa ?qb ?qc ?_ ?qz); (case qa => k_asm); (case qb => k_asm); (case qc => k_upd); (case qz => (simp only [List.size_toArray, List.length_map, paidTo_length, sizeLine_eq]; omega)); (intro h' F' N'); (rw [paid_push] at N')))
  k_with "StepEnd" => (k_dflt ((refine' StepEnd.next _ (by k_asm) ?qN ?qo ⟨rfl, rfl, _, _, ⟨_, ?qv⟩, rfl⟩); (case qN => exact cb_drop N' (by ktr_unf)); (case qv => assumption); (case qo => (simp only [LCg.Off1, and_true]; exact off))))
  k_with "newList" => (k_dflt ((k_here); (refine' newList_K ?k1 ?k2 ?_); (case k1 => k_asm); (case k2 => k_asm); (k_whole); (intro l' h' F' N' l1); (have l1w := l1); (try k_lt l1); (try k_sweep)))
  refine wpAny_call ?_
  k_dflt (refine' code_defC ?k1 ?k2 ?k3 ?k4 ?k5 ?kA ?kF ?kK ?k6 ?k7 ?k8 ?k9 ?kB ?kD ?_ ?c2 ?c3 ?c4; (case kA => exact rfl); (case kF => exact rfl); (case kK => assumption); (case k1 => k_asm); (case k2 => k_asm); (case k3 => k_asm); (case k4 => k_asm); (case k5 => k_asm); (case k6 => k_is); (case k7 => k_is); (case k8 => ktr_room); (case k9 => exact BindsTo.of_eq rfl); (case kB => exact rfl); (case kD => decide +kernel); (case c2 => exact rfl); (case c3 => exact rfl); (case c4 => exact rfl); k_whole; intro g' L' h' tk' cells' FG' F' N' Y' B' X' T' l1; (have l1z : ∀ p ∈ news, p.1 < L' := fun p hp => l1 p (by first | exact hp | exact .tail _ hp | exact .tail _ (.tail _ hp) | exact .tail _ (.tail _ (.tail _ hp)))); (try k_lt l1); k_cells Y'; (try simp only [List.cons_append, List.nil_append] at N'); (try dsimp only); (try k_lift B'); (try k_fold))
  k_steps
  exact hret _ _ _ _ (by k_asm) (cb_drop (by k_asm) (by ktr_unf)) (allLt_of fun p hp => l1w p (by ktn_open))
section
variable {prog : Program} {w : World} {A : Around} {R : GenEnd} {Y : Protocol} {n : Nat} {s₀ : Shared} {c : Code} {fs : List Frame} {s : Shared} {env : Env}
  {K : Flow → Sem Fin} {H : Value → Sem Fin} {gd : Bool → Bool} {lv : List Value → List Value}
/-- a statement that does not yield -/
theorem seg_stmt {st : Stmt} (h : wpAny (model prog w) (A.over c fs) (exec st env) (fun f s' => Seg (model prog w) A R Y n s₀ c (K f) fs s') (fun _ _ => False) s) :
    Seg (model prog w) A R Y n s₀ c ((exec st env).wrap K H gd lv) fs s := seg_wrap (wpAny_mono h (fun _ _ x => x) fun _ _ x => x.elim)
theorem seg_If {test : PySem.Expr} {body orelse : List Stmt} {pos : Pos}
    (h : wpAny (model prog w) (A.over c fs) (isTrue test env (eval test env)) (fun b s' => if b = true then Seg (model prog w) A R Y n s₀ c ((execs body env).wrap K H gd lv) fs s' else Seg (model prog w) A R Y n s₀ c ((execs orelse env).wrap K H gd lv) fs s') (fun _ _ => False) s) :
    Seg (model prog w) A R Y n s₀ c ((exec (.If test body orelse pos) env).wrap K H gd lv) fs s := by
  have e : exec (.If test body orelse pos) env = (do standAt pos; if ← isTrue test env (eval test env) then execs body env else execs orelse env) := by
    first | rfl | (simp only [exec]) | (unfold exec; rfl)
  rw [e]
  show Seg _ A R Y n s₀ c (.at pos fun _ => (isTrue test env (eval test env) >>= fun b => if b = true then execs body env else execs orelse env).wrap K H gd lv) fs s
  refine seg_at ?_
  rw [Sem.bind_eq_wrap', Sem.wrap_wrap]
  refine seg_wrap (wpAny_mono h (fun b s' hb => ?_) fun _ _ x => x.elim)
  cases b with
  | true => exact hb
  | false => exact hb
theorem seg_For {target iter : PySem.Expr} {body orelse : List Stmt} {pos : Pos}
    (h : wpAny (model prog w) (A.over c fs) (eval iter env) (fun x s₁ => wpAny (model prog w) (A.over c fs) (pyIter x) (fun it s₂ =>
      ∀ p, Seg (model prog w) A R Y n s₀ (.forLoop target it body orelse env) ((model prog w).den (.forLoop target it body orelse env))
      (.ret (fun r => ((match r with | .ok f => (.pure f : Sem Flow) | .error e => .raise e).onRaise fun (x : Value) => do
        if (← field x 1) == Value.none then unsupported "frame.own-activation:exception-without-traceback"
        setFlight x env.frame).wrap K H gd lv) none (gd false) (lv []) c p [] :: fs) s₂) (fun _ _ => False) s₁) (fun _ _ => False) s)
    (hs : ∀ x, foldedSetIterable iter env x = pure x := by intro _; rfl) :
    Seg (model prog w) A R Y n s₀ c ((exec (.For target iter body orelse pos) env).wrap K H gd lv) fs s := by
  rw [exec_For]
  show Seg _ A R Y n s₀ c (.at pos fun _ => (eval iter env >>= fun x => foldedSetIterable iter env x >>= fun x => standAt iter.pos >>= fun _ => holding [x] (pyIter x) >>= fun it => runOwn (.forLoop target it body orelse env) env).wrap K H gd lv) fs s
  refine seg_at ?_
  rw [Sem.bind_eq_wrap', Sem.wrap_wrap]
  refine seg_wrap (wpAny_mono h (fun x s₁ h₁ => ?_) fun _ _ x => x.elim)
  rw [hs x]
  show Seg _ A R Y n s₀ c (.at iter.pos fun _ => (holding [x] (pyIter x) >>= fun it => runOwn (.forLoop target it body orelse env) env).wrap K H gd lv) fs s₁
  refine seg_at ?_
  rw [Sem.bind_eq_wrap', Sem.wrap_wrap]
  refine seg_wrap (wpAny_holding (wpAny_mono h₁ (fun it s₂ h₂ => ?_) fun _ _ x => x.elim))
  exact seg_call h₂
theorem seg_forLoop {target : PySem.Expr} {it : Value} {body orelse : List Stmt}
    (h : wpAny (model prog w) (A.over (.forLoop target it body orelse env) fs) (pyNext it) (fun r s' => match r with
      | none => Seg (model prog w) A R Y n s₀ (.block orelse env) ((model prog w).den (.block orelse env)) fs s'
      | some v => wpAny (model prog w) (A.over (.forLoop target it body orelse env) fs) (letOwnedTupleGo target it v) (fun _ s₁ => wpAny (model prog w) (A.over (.forLoop target it body orelse env) fs) (assign target env v) (fun _ s₂ =>
          Seg (model prog w) A R Y n s₀ (.forLoop target it body orelse env) ((execs body env).wrap (fun f => match f with
            | .next | .cont => .pure (.again (.forLoop target it body orelse env))
            | .brk => .pure (.done .next)
            | .ret v => .pure (.done (.ret v))) (fun e => (do noteFrame e env; theTreesLotGoes e : Sem Unit).wrap (fun _ => .raise e) .raise id id) id id) fs s₂) (fun _ _ => False) s₁) (fun _ _ => False) s') (fun _ _ => False) s) :
    Seg (model prog w) A R Y n s₀ (.forLoop target it body orelse env) ((model prog w).den (.forLoop target it body orelse env)) fs s := by
  show Seg _ A R Y n s₀ _ ((forTurn target it body orelse env).onRaise (fun x => do noteFrame x env; theTreesLotGoes x)) fs s
  unfold forTurn
  rw [Sem.onRaise_eq_wrap]
  show Seg _ A R Y n s₀ _ (.at target.pos fun _ => ((pyNext it).onRaise (fun _ => standAt { target.pos with line := 0 }) >>= fun r => _).wrap _ _ _ _) fs s
  refine seg_at ?_
  rw [Sem.bind_eq_wrap', Sem.wrap_wrap]
  refine seg_wrap (wpAny_onRaise (wpAny_mono h (fun r s' hr => ?_) fun _ _ x => x.elim))
  cases r with
  | none => exact seg_again rfl hr
  | some v =>
    show Seg _ A R Y n s₀ _ ((letOwnedTupleGo target it v >>= fun _ => assign target env v >>= fun _ => _).wrap _ _ _ _) fs s'
    rw [Sem.bind_eq_wrap', Sem.wrap_wrap]
    refine seg_wrap (wpAny_mono hr (fun _ s₁ h₁ => ?_) fun _ _ x => x.elim)
    rw [Sem.bind_eq_wrap', Sem.wrap_wrap]
    refine seg_wrap (wpAny_mono h₁ (fun _ s₂ h₂ => ?_) fun _ _ x => x.elim)
    rw [Sem.bind_eq_wrap', Sem.wrap_wrap]
    rw [Sem.wrap_congr (execs body env) _ _ (K' := fun f => match f with
            | .next | .cont => .pure (.again (.forLoop target it body orelse env))
            | .brk => .pure (.done .next)
            | .ret v => .pure (.done (.ret v))) (H' := (fun e => (do noteFrame e env; theTreesLotGoes e : Sem Unit).wrap (fun _ => .raise e) .raise id id))
        (fun f => by cases f <;> rfl)
        (fun e => by first | exact Sem.bind_eq_wrap _ _ | (show (do noteFrame e env; theTreesLotGoes e : Sem Unit).bind (fun _ => .raise e) = _; rw [Sem.bind_eq_wrap]))]
    exact h₂
theorem seg_block_nil (h : ∀ p : Unit, Seg (model prog w) A R Y n s₀ (.block [] env) (.pure (.done .next)) fs s) :
    Seg (model prog w) A R Y n s₀ (.block [] env) ((model prog w).den (.block [] env)) fs s := h ()
end
noncomputable def GMv (own : List Addr) (s₀ s' : Shared) : Prop := (∀ b o, b ∉ own → s₀.heap.get? b = some o → s'.heap.get? b = some o) ∧ s'.gens = s₀.gens ∧ s'.drawn = s₀.drawn ∧ s'.os = s₀.os
noncomputable def GY (own : List Addr) (N : Nat) (fin : Prop) (P : Nat → Value → Heap → Prop) (H : Nat → Heap → Prop) : Protocol := fun j s₀ v s' next =>
  P (N - 1 - j) v s'.heap ∧ GMv own s₀ s' ∧ H (N - j) s'.heap ∧ ((0 < j ∨ fin) → ∀ s'', H (N - j) s''.heap → next (.send .none) s'')
noncomputable def GR (own : List Addr) : GenEnd := fun n s₀ r s₁ => r = .ok (.ret .none) ∧ (n = 0 ∧ GMv own s₀ s₁)
noncomputable def GSt (prog : Program) (w : World) (A : Around) (own : List Addr) (N : Nat) (fin : Prop) (P : Nat → Value → Heap → Prop) (H : Nat → Heap → Prop) (a : Addr) (g i : Nat) (s : Shared) : Prop :=
  s.heap.IsGen a g ∧ H i s.heap ∧ s.heap.NoLimit ∧ ∃ gs, s.gens[g]? = some gs ∧ ((i < N ∨ fin) → ∀ s'', H i s''.heap → gs.Goes (model prog w) A.in1 (GR own) (GY own N fin P H) (N - i) (.send .none) s'')
section
variable {prog : Program} {w : World} {A : Around} {E : Value → Shared → Prop} {s : Shared}
theorem pyNext_genQ {a : Addr} {g n : Nat} {gs : GenState} {P : Nat → Shared → Shared → Prop} {Y : Protocol} {Q : Option Value → Shared → Prop} (hh : A.handled = none)
    (hl : s.heap.NoLimit) (hroom : A.depth < recursionLimit)
    (hg : s.heap.IsGen a g) (hgs : s.gens[g]? = some gs)
    (hgo : gs.Goes (model prog w) A.in1 (fun n s₀ r s₁ => r = .ok (.ret .none) ∧ P n s₀ s₁) Y n (.send .none) (s.setGen g .running))
    (hY : ∀ v s₁ gs', gs'.bare = true → Y (n - 1) (s.setGen g .running) v s₁ (fun r' s'' => match n with
        | 0 => False
        | m + 1 => gs'.Goes (model prog w) A.in1 (fun n s₀ r s₁ => r = .ok (.ret .none) ∧ P n s₀ s₁) Y m r' s'') → Q (some v) (s₁.setGen g gs'))
    (hP : ∀ s₁, P n (s.setGen g .running) s₁ → ∀ h', (∀ b o, s₁.heap.get? b = some o → h'.get? b = some o) → Q none { s₁.setGen g .finished with heap := h' }) :
    wpAny (model prog w) A (pyNext (.ref a)) Q E s := by
  unfold pyNext
  refine wpAny_bind (wpAny_attempt (wpAny_callSpecial?_slot (name := Str.ofString "__next__") hg.typeIs slot_gen_next
    (wpAny_call_entry slot_gen_next hg.typeIs entry_gen_next ?_ (args_gen_next _))))
  show wpAny _ A.in1 (Builtin.Generator.genWake (.ref a) (.send .none)) _ _ s
  unfold Builtin.Generator.genWake
  refine wpAny_bind (wpAny_holding (wpAny_genNumber hg (wpAny_bind (wpAny_genState hgs ?_))))
  cases gs with
  | running => exact hgo.elim
  | finished => exact hgo.elim
  | _ =>
    refine wpAny_bind (wpAny_roomToWake hl hroom ?_)
    show wpAny _ A.in1 (.resume g (.send .none) [] _) _ _ s
    refine wpAny_resumeQ hgs hgo (fun x s₁ hx => ?_) (fun v s₁ gs' hb hv => ?_)
    · obtain ⟨rfl, hp⟩ := hx
      show wpAny _ A.in1 (newExc (.type "StopIteration") [] >>= _) _ _ _
      refine wpAny_bind ?_
      simp only [newExc, newTuple]
      refine wpAny_bind (wpAny_newObj_type ?_ (by size_fits))
      refine wpAny_bind (m := firstArgMember _ _) (wpAny_of_eq (a := Value.none) (by first | rfl | (simp only [firstArgMember]; rfl)) ?_)
      refine wpAny_newObj_type ?_ (by size_fits)
      simp only [raiseNew]
      refine wpAny_bind (wpAny_bind (wpAny_handled ?_))
      first | rw [show A.in1.handled = none from hh] | rw [hh]
      refine wpAny_throw ?_
      refine wpAny_bind (wpAny_isInstance (T := "StopIteration") (b := true) ⟨_, Heap.get?_push_size _ rfl, rfl⟩ isSubtype_stop ?_)
      exact wpAny_pure (hP s₁ hp _ fun b o hb => Heap.get?_push_of_some _ (Heap.get?_push_of_some _ hb))
    · exact wpAny_pure ⟨v, rfl, wpAny_pure (hY v s₁ gs' hb hv)⟩
theorem allBare_set {gens : Array GenState} {g : Nat} {x : GenState} (h : AllBare gens) (hx : x.bare = true) : AllBare (gens.setIfInBounds g x) := by
  intro y hy
  rcases Array.mem_or_eq_of_mem_setIfInBounds hy with h1 | rfl
  · exact h _ h1
  · exact hx
variable {own : List Addr} {N : Nat} {fin : Prop} {P : Nat → Value → Heap → Prop} {H : Nat → Heap → Prop} {a : Addr} {g i : Nat}
theorem isGen_keep {h h' : Heap} (x : h.IsGen a g) (hk : ∀ b o, b ∉ own → h.get? b = some o → h'.get? b = some o) (ha : a ∉ own) : h'.IsGen a g :=
  let ⟨o, nm, qn, ho, r⟩ := x; ⟨o, nm, qn, hk a o ha ho, r⟩
theorem noLimit_keep {h h' : Heap} (x : h.NoLimit) (hk : ∀ b o, b ∉ own → h.get? b = some o → h'.get? b = some o) (hc : cStatics ∉ own) : h'.NoLimit :=
  let ⟨mc, hns, hnn⟩ := x; ⟨mc, hns.at' fun o e => hk cStatics o hc e, hnn⟩
theorem gen_item {Q : Option Value → Shared → Prop} (hh : A.handled = none) (hroom : A.depth < recursionLimit) (ha : a ∉ own) (hc : cStatics ∉ own) (hi : i < N) (st : GSt prog w A own N fin P H a g i s)
    (hQ : ∀ v h' g' tk', P i v h' → GSt prog w A own N fin P H a g (i + 1) { s with heap := h', gens := g', toks := tk' } → (∀ b o, b ∉ own → s.heap.get? b = some o → h'.get? b = some o) → (AllBare s.gens → AllBare g') → Q (some v) { s with heap := h', gens := g', toks := tk' }) :
    wpAny (model prog w) A (pyNext (.ref a)) Q E s := by
  obtain ⟨hg, hH, hl, gs, hgs, hgo⟩ := st
  obtain ⟨m, hm⟩ : ∃ m, N - i = m + 1 := ⟨N - (i + 1), ar4 hi⟩
  have hgo' := hgo (.inl hi) (s.setGen g .running) hH
  rw [hm] at hgo'
  refine pyNext_genQ (P := fun n s₀ s₁ => n = 0 ∧ GMv own s₀ s₁) hh hl hroom hg hgs hgo' (fun v s₁ gs' hb hv => ?_) (fun s₁ hp h' hk => ?_)
  · obtain ⟨hP, ⟨hk, hgn, hdr, hos⟩, hH', hnext⟩ := hv
    have e1 : N - 1 - (m + 1 - 1) = i := ar1 hm
    have e2 : N - (m + 1 - 1) = i + 1 := ar2 hm
    rw [e1] at hP
    rw [e2] at hH' hnext
    obtain ⟨h₁, g₁, d₁, t₁, os₁⟩ := s₁
    simp only at hk hgn hdr hos hH'
    subst hgn hdr hos
    refine hQ v h₁ _ t₁ hP ⟨isGen_keep hg hk ha, hH', noLimit_keep hl hk hc, gs', setGen_self (gs := .running) (setGen_self hgs), fun hor s'' hs'' => ?_⟩ hk fun hb0 => allBare_set (allBare_set hb0 rfl) hb
    have e3 : N - (i + 1) = m := ar3 hm
    rw [e3]
    refine hnext ?_ s'' hs''
    rcases hor with h1 | h1
    · exact .inl (ar7 hm h1)
    · exact .inr h1
  · exact absurd hp.1 (Nat.succ_ne_zero m)
theorem gen_done {Q : Option Value → Shared → Prop} (hh : A.handled = none) (hroom : A.depth < recursionLimit) (hf : fin) (st : GSt prog w A own N fin P H a g N s)
    (hQ : ∀ h' g' tk', (∀ b o, b ∉ own → s.heap.get? b = some o → h'.get? b = some o) → (AllBare s.gens → AllBare g') → Q none { s with heap := h', gens := g', toks := tk' }) :
    wpAny (model prog w) A (pyNext (.ref a)) Q E s := by
  obtain ⟨hg, hH, hl, gs, hgs, hgo⟩ := st
  have hgo' := hgo (.inr hf) (s.setGen g .running) hH
  rw [Nat.sub_self] at hgo'
  refine pyNext_genQ (P := fun n s₀ s₁ => n = 0 ∧ GMv own s₀ s₁) hh hl hroom hg hgs hgo' (fun v s₁ gs' hb hv => ?_) (fun s₁ hp h' hk' => ?_)
  · obtain ⟨_, _, hH', hnext⟩ := hv
    exact False.elim (hnext (.inr hf) s₁ hH')
  · obtain ⟨_, hk, hgn, hdr, hos⟩ := hp
    obtain ⟨h₁, g₁, d₁, t₁, os₁⟩ := s₁
    simp only at hk hgn hdr hos hk'
    subst hgn hdr hos
    exact hQ h' _ t₁ (fun b o hb e => hk' b o (hk b o hb e)) fun hb0 => allBare_set (allBare_set hb0 rfl) rfl
end
noncomputable def GEnd (h₀ : Heap) (L : Addr) (s : Shared) (own : List (Addr × Obj)) (J : (Str → Option Value) → List (Addr × Obj) → Prop) (Q : Flow → Shared → Prop) (f : Flow) (s' : Shared) : Prop :=
  match f with
  | .next => ∃ h' tk' m' news', s' = { s with heap := h', toks := tk' } ∧ Fr h₀ L h' m' ∧ News h₀ L h' (own ++ news') ∧ (∀ q ∈ own, LCg.Off1 q.1 news') ∧ J m' news'
  | .cont => ∃ h' tk' m' news', s' = { s with heap := h', toks := tk' } ∧ Fr h₀ L h' m' ∧ News h₀ L h' (own ++ news') ∧ (∀ q ∈ own, LCg.Off1 q.1 news') ∧ J m' news'
  | .brk => Q .next s'
  | .ret v => Q (.ret v) s'
theorem GEnd.next {h₀ : Heap} {L : Addr} {s : Shared} {own : List (Addr × Obj)} {J : (Str → Option Value) → List (Addr × Obj) → Prop} {Q : Flow → Shared → Prop} {h' : Heap} {tk' : Nat} {m' : Str → Option Value} (news' : List (Addr × Obj))
    (F : Fr h₀ L h' m') (N : News h₀ L h' (own ++ news')) (o : ∀ q ∈ own, LCg.Off1 q.1 news') (j : J m' news') : GEnd h₀ L s own J Q .next { s with heap := h', toks := tk' } := ⟨_, _, _, _, rfl, F, N, o, j⟩
section
variable {prog : Program} {w : World} {A : Around} {E : Value → Shared → Prop} {s : Shared} {h₀ : Heap} {L : Addr} {m : Str → Option Value} {env : Env}
/-- a generator that a loop takes: own, its private objects -/
structure GenFor (prog : Program) (w : World) (A : Around) (h₀ : Heap) (L : Addr) (a g : Nat) (own : List Addr) (N : Nat) (fin : Prop) (P : Nat → Value → Heap → Prop) (H : Nat → Heap → Prop) : Prop where
  handled : A.handled = none
  room : A.depth < recursionLimit
  notA : a ∉ own
  notC : cStatics ∉ own
  notL : L ∉ own
  aL : a ≠ L
  a0 : h₀.get? a = none
  fresh : ∀ x ∈ own, h₀.get? x = none
  stay : ∀ i h h', 0 < i → H i h → (∀ b ∈ own, ∀ o, h.get? b = some o → h'.get? b = some o) → (∀ b o, h₀.get? b = some o → h'.get? b = some o) → H i h'
  has : ∀ i h, 0 < i → H i h → ∃ os : List Obj, os.length = own.length ∧ ∀ p ∈ own.zip os, h.get? p.1 = some p.2
inductive GLoop (prog : Program) (w : World) (A : Around) (h₀ : Heap) (L : Addr) (env : Env) (target : PySem.Expr) (body : List Stmt) (Q : Flow → Shared → Prop) (xv : Value) (s : Shared) : Prop
  | intro (a g : Nat) (own : List Addr) (N : Nat) (fin : Prop) (P : Nat → Value → Heap → Prop) (H : Nat → Heap → Prop) (m : Str → Option Value) (news : List (Addr × Obj)) (J : Nat → (Str → Option Value) → List (Addr × Obj) → Prop)
    (e0 : xv = .ref a)
    (e1 : GenFor prog w A h₀ L a g own N fin P H)
    (e2 : h₀.NoLimit)
    (e3 : Fr h₀ L s.heap m)
    (e4 : News h₀ L s.heap news)
    (e5 : ∀ x ∈ a :: own, LCg.Off1 x news)
    (e6 : GSt prog w A own N fin P H a g 0 s)
    (e7 : J 0 m news)
    (e8 : ∀ i m' news', J i m' news' → i ≤ N ∧ (i = N → fin))
    (e9 : ∀ i v m₁ news₁ g₁ h tk oa os, i < N → P i v h → J i m₁ news₁ → (AllBare s.gens → AllBare g₁) → os.length = own.length → (∀ q ∈ (a, oa) :: own.zip os, LCg.Off1 q.1 news₁) → Fr h₀ L h m₁ → News h₀ L h (((a, oa) :: own.zip os) ++ news₁) →
      wpAny (model prog w) A (assign target env v) (fun _ s₂ => wpAny (model prog w) A (execs body env) (GEnd h₀ L { s with gens := g₁ } ((a, oa) :: own.zip os) (J (i + 1)) Q) (fun _ _ => False) s₂) (fun _ _ => False) { s with heap := h, toks := tk, gens := g₁ })
    (e10 : ∀ m' news' g' h tk, J N m' news' → fin → (AllBare s.gens → AllBare g') → Fr h₀ L h m' → News h₀ L h news' → Q .next { s with heap := h, toks := tk, gens := g' }) : GLoop prog w A h₀ L env target body Q xv s
noncomputable def GInv (prog : Program) (w : World) (A : Around) (h₀ : Heap) (L : Addr) (a g : Nat) (own : List Addr) (N : Nat) (fin : Prop) (P : Nat → Value → Heap → Prop) (H : Nat → Heap → Prop) (s₁ : Shared) (J : Nat → (Str → Option Value) → List (Addr × Obj) → Prop) (k : Nat) (s' : Shared) : Prop :=
  ∃ i m' news' g' h' tk', s' = { s₁ with heap := h', toks := tk', gens := g' } ∧ k = N + 1 - i ∧ GSt prog w A own N fin P H a g i s' ∧ Fr h₀ L h' m' ∧ News h₀ L h' news' ∧ (∀ x ∈ a :: own, LCg.Off1 x news') ∧ (AllBare s₁.gens → AllBare g') ∧ J i m' news'
theorem letOwned_gen {a g : Nat} {target : PySem.Expr} {v : Value} {Q : Unit → Shared → Prop} (hg : s.heap.IsGen a g) (h : Q () s) : wpAny (model prog w) A (letOwnedTupleGo target (.ref a) v) Q E s := by
  obtain ⟨o, nm, qn, ho, hc, hd, hsl⟩ := hg
  obtain ⟨c, d, dt, sl⟩ := o
  simp only at hc hd hsl
  subst hc hd hsl
  unfold letOwnedTupleGo
  split
  · cases v <;> first | exact wpAny_pure h | skip
    refine wpAny_bind (wpAny_load ho ?_)
    exact wpAny_pure h
  · cases v <;> first | exact wpAny_pure h | skip
    refine wpAny_bind (wpAny_load ho ?_)
    exact wpAny_pure h
  · exact wpAny_pure h
theorem fr_own {h h' : Heap} {own : List Addr} (F : Fr h₀ L h m) (hk : ∀ b o, b ∉ own → h.get? b = some o → h'.get? b = some o) (hL : L ∉ own) (h0 : ∀ x ∈ own, h₀.get? x = none) : Fr h₀ L h' m :=
  ⟨F.ns.at' fun o e => hk L o hL e, fun b o e => hk b o (fun hm => by rw [h0 b hm] at e; cases e) (F.keep b o e), F.above⟩
theorem For_G {target iter : PySem.Expr} {pos : Pos} {body : List Stmt} {Q : Flow → Shared → Prop} (_F₀ : Fr h₀ L s.heap m)
    (h : wpAny (model prog w) A (eval iter env) (GLoop prog w A h₀ L env target body Q) E s)
    (hs : ∀ x, foldedSetIterable iter env x = pure x := by intro _; rfl) :
    wpAny (model prog w) A (exec (.For target iter body [] pos) env) Q E s := by
  refine wpAny_For (wpAny_mono h (fun xv s₁ h₁ => ?_) fun _ _ e => e) hs
  obtain ⟨a, g, own, N, fin, P, H, m, news, J, rfl, G, hlim, F, Nn, off, st, j0, side, turn, done⟩ := h₁
  refine wpAny_pyIter_gen st.1 ?_
  have offAll : ∀ {news' : List (Addr × Obj)}, (∀ x ∈ a :: own, LCg.Off1 x news') → ∀ p ∈ news', p.1 ∉ own := fun ho p hp hm => off1_all (ho p.1 (.tail _ hm)) p hp rfl
  refine codeAny_forLoop_any (GInv prog w A h₀ L a g own N fin P H s₁ J) ?_ (N + 1) ⟨0, m, news, s₁.gens, _, s₁.toks, rfl, rfl, st, F, Nn, off, id, j0⟩
  rintro k s' ⟨i, m', news', g', h', tk', rfl, rfl, st', F', N', off', hb', j'⟩
  obtain ⟨hiN, hfin⟩ := side i m' news' j'
  by_cases hlt : i < N
  · refine gen_item G.handled G.room G.notA G.notC hlt st' fun v h₂ g₂ tk₂ hP st₂ hk₂ hb₂ => ?_
    refine letOwned_gen st₂.1 ?_
    obtain ⟨os, hos, hos2⟩ := G.has _ _ (Nat.succ_pos i) st₂.2.1
    obtain ⟨oa, nm, qn, hoa, hoar⟩ := st₂.1
    have F₂ : Fr h₀ L h₂ m' := fr_own F' hk₂ G.notL G.fresh
    have N₃ : News h₀ L h₂ (((a, oa) :: own.zip os) ++ news') := fun p hp => by
      rcases List.mem_append.mp hp with hp | hp
      · rcases List.mem_cons.mp hp with rfl | hp
        · exact ⟨hoa, G.aL, G.a0⟩
        · have hx := (List.of_mem_zip hp).1
          exact ⟨hos2 p hp, fun e => G.notL (e ▸ hx), G.fresh _ hx⟩
      · exact ⟨hk₂ _ _ (offAll off' p hp) (N' p hp).1, (N' p hp).2⟩
    have off₂ : ∀ q ∈ (a, oa) :: own.zip os, LCg.Off1 q.1 news' := fun q hq => by
      rcases List.mem_cons.mp hq with rfl | hq
      · exact off' a (.head _)
      · exact off' _ (.tail _ (List.of_mem_zip hq).1)
    refine wpAny_mono (turn i v m' news' g₂ h₂ tk₂ oa os hlt hP j' (fun x => hb₂ (hb' x)) hos off₂ F₂ N₃) (fun _ s₃ h₃ => ?_) fun _ _ e => e.elim
    refine wpAny_mono h₃ (fun f s₄ h₄ => ?_) fun _ _ e => e.elim
    have again : (∃ h' tk' m' news', s₄ = { s₁ with heap := h', toks := tk', gens := g₂ } ∧ Fr h₀ L h' m' ∧ News h₀ L h' (((a, oa) :: own.zip os) ++ news') ∧ (∀ q ∈ (a, oa) :: own.zip os, LCg.Off1 q.1 news') ∧ J (i + 1) m' news') →
        ∃ m₂, m₂ < N + 1 - i ∧ GInv prog w A h₀ L a g own N fin P H s₁ J m₂ s₄ := by
      rintro ⟨h₅, tk₅, m₅, news₅, rfl, F₅, N₅, o₅, j₅⟩
      have hz : ∀ x ∈ own, ∃ o, (x, o) ∈ own.zip os := fun x hx => by
        obtain ⟨k, hk, rfl⟩ := List.mem_iff_getElem.mp hx
        exact ⟨os[k]'(by omega), List.mem_iff_getElem.mpr ⟨k, by simp [hk, hos], by simp⟩⟩
      refine ⟨N + 1 - (i + 1), by omega, i + 1, m₅, news₅, g₂, h₅, tk₅, rfl, rfl, ?_, F₅, fun p hp => N₅ p (List.mem_append.mpr (.inr hp)), fun x hx => ?_, fun x => hb₂ (hb' x), j₅⟩
      · obtain ⟨_, hH₂, _, gs, hgs, hgo⟩ := st₂
        refine ⟨⟨oa, nm, qn, (N₅ (a, oa) (.head _)).1, hoar⟩, G.stay _ _ _ (Nat.succ_pos i) hH₂ (fun b hb o e => ?_) F₅.keep, hlim.keeps F₅.keep, gs, hgs, hgo⟩
        obtain ⟨o', hm⟩ := hz b hb
        have q1 := hos2 _ hm
        have q2 := (N₅ (b, o') (.tail _ (List.mem_append.mpr (.inl hm)))).1
        rw [q1] at e; cases e
        exact q2
      · rcases List.mem_cons.mp hx with rfl | hx
        · exact o₅ _ (.head _)
        · obtain ⟨o', hm⟩ := hz x hx
          exact o₅ _ (.tail _ hm)
    cases f with
    | next => exact again h₄
    | cont => exact again h₄
    | brk => exact h₄
    | ret v => exact h₄
  · obtain rfl : i = N := Nat.le_antisymm hiN (Nat.not_lt.mp hlt)
    refine gen_done G.handled G.room (hfin rfl) st' fun h₂ g₂ tk₂ hk₂ hb₂ => ?_
    refine wpAny_execs_nil ?_
    exact done m' news' g₂ h₂ tk₂ j' (hfin rfl) (fun x => hb₂ (hb' x)) (fr_own F' hk₂ G.notL G.fresh) fun p hp => ⟨hk₂ _ _ (offAll off' p hp) (N' p hp).1, (N' p hp).2⟩
end
section
variable {prog : Program} {w : World} {A : Around} {E : Value → Shared → Prop} {s : Shared} {h₀ : Heap} {L : Addr} {m : Str → Option Value} {K : Frag} {news : List (Addr × Obj)}
theorem gen_def {name qual : Str} {params : Arguments} {body : List Stmt} {scope : Scope} {dV kV doc pm cdv ct oc : Value} {an od : Option Addr} {osl : Array (Option Value)} {f : Addr} {args : List Value} {binds : List (Str × Value)} {Q : Value → Shared → Prop}
    (F : Fr h₀ L s.heap m) (X₀ : K.In h₀) (N : News h₀ L s.heap news) (hlim : h₀.NoLimit)
    (ho : K.lookup f = some ⟨oc, od, .func (fnOf name qual params body scope dV kV doc pm an cdv ct), osl⟩) (hcd : codeIn K cdv qual = true) (hroom : A.depth < recursionLimit)
    (hbind : bindArgs (fnOf name qual params body scope dV kV doc pm an cdv ct) ⟨args, []⟩ = pure binds) (hloc : ∀ y ∈ binds, scope.names.lookup y.1 = some .local)
    (hQ : ∀ Lg h' tk', h'.objs.size = Lg + 2 → L < Lg → Fr h₀ L h' m → News h₀ L h' news → Fr h₀ Lg h' (fun y => binds.reverse.lookup y) → News h₀ Lg h' news → h'.IsGen (Lg + 1) s.gens.size → (∀ p ∈ news, p.1 < Lg) →
      Q (.ref (Lg + 1)) { s with heap := h', toks := tk', gens := s.gens.push (.fresh (.func body (envOf qual scope Lg f cdv))) })
    (hco : scope.isCoroutine = false) (hgen : scope.isGenerator = true) (hk : scope.kind = .function) (hcell : ∀ x ∈ scope.names, x.2 ≠ .cell) :
    wpAny (model prog w) A (call (.ref f) args) Q E s := by
  refine wpAny_call ?_
  refine codeAny_call_generator (fd := fnOf name qual params body scope dV kV doc pm an cdv ct) hroom ((X₀.keeps F.keep) _ _ ho) rfl hco hgen rfl (codeRec_of (X₀.keeps F.keep) hcd) ?_
  rw [hbind]
  refine wpAny_pure (wpAny_newFunctionEnv hcell hloc (fun h₁ hns hsb => ?_) hk)
  have up : ∀ b o, s.heap.get? b = some o → h₁.get? b = some o := fun b o e => hsb.extBut b o (Nat.ne_of_lt (Heap.lt_size e)) (Heap.get?_push_of_some _ e)
  have hsz : h₁.objs.size = s.heap.objs.size + 1 := by rw [hsb.1, Heap.size_push]
  refine ⟨(hlim.keeps F.keep).keeps up, ?_⟩
  have nw : ∀ p ∈ news, p.1 < s.heap.objs.size := fun p hp => Heap.lt_size (N p hp).1
  have F₁ : Fr h₀ L h₁ m := ⟨F.ns.at' fun o e => up _ o e, fun b o e => up b o (F.keep b o e), F.above⟩
  have N₁ : News h₀ L h₁ news := fun p hp => ⟨up _ _ (N p hp).1, (N p hp).2⟩
  have FL : h₀.objs.size ≤ s.heap.objs.size := Nat.le_trans F.above (Nat.le_of_lt F.ns.lt)
  have Fg : Fr h₀ s.heap.objs.size h₁ (fun y => binds.reverse.lookup y) := ⟨hns, F₁.keep, FL⟩
  have Ng : News h₀ s.heap.objs.size h₁ news := fun p hp => ⟨(N₁ p hp).1, Nat.ne_of_lt (nw p hp), (N p hp).2.2⟩
  have gp := hQ s.heap.objs.size (h₁.push { cls := .type "generator", data := .fields #[.int s.gens.size 0, .str name (s.toks + binds.length), .str qual (s.toks + binds.length + 1)] }) (s.toks + binds.length + 1 + 1) (by rw [Heap.size_push, hsz]) F.ns.lt (F₁.push _)
    (fun p hp => ⟨Heap.get?_push_of_some _ (N₁ p hp).1, (N₁ p hp).2⟩) (Fg.push _) (fun p hp => ⟨Heap.get?_push_of_some _ (Ng p hp).1, (Ng p hp).2⟩)
    ⟨_, _, _, by rw [← hsz]; exact Heap.get?_push_size _ rfl, rfl, rfl, rfl⟩ nw
  rw [← hsz] at gp
  exact gp
end
abbrev giM (m : Str → Option Value) (a b : Value) : Str → Option Value := fun y => if y = Str.ofString "interval" then some b else if y = Str.ofString "last_interval" then some a else m y
abbrev giL (m : Str → Option Value) (a : Value) : Str → Option Value := fun y => if y = Str.ofString "last_interval" then some a else m y
theorem fr_eq {h₀ h : Heap} {L : Addr} {m m' : Str → Option Value} (F : Fr h₀ L h m) (e : ∀ y, m y = m' y) : Fr h₀ L h m' := (funext e : m = m') ▸ F
noncomputable def giH (h₀ : Heap) (Lg lr : Addr) (m0 : Str → Option Value) (vr : List Value) (k c : Nat) (out : Nat → Int) : Nat → Heap → Prop
  | 0, h => h.objs.size = Lg + 2 ∧ Fr h₀ Lg h m0 ∧ News h₀ Lg h [(lr, listOf vr.toArray k)]
  | i + 1, h => ∃ a b mm t, Fr h₀ Lg h (giM mm a b) ∧ (if i < c then b = .int (out i) t else a = .int (out i) t) ∧ News h₀ Lg h [(lr, listOf vr.toArray k)] ∧ (∃ oI, h.get? (Lg + 2) = some oI) ∧ (i < c → h.IsListIter (Lg + 2) lr (i + 1))
theorem seg_ind {M : Model} {A : Around} {R : GenEnd} {Y : Protocol} {code : Code} {tree : Sem PySem.Fin} {fs : List Frame} {Nn : Nat} (c : Nat) (Inv : Nat → Shared → Shared → Prop)
    (step : ∀ i, i ≤ c → (i < c → ∀ s₀ s₂, Inv (i + 1) s₀ s₂ → Seg M A R Y (Nn - (i + 1)) s₀ code tree fs s₂) → ∀ s₀ s₂, Inv i s₀ s₂ → Seg M A R Y (Nn - i) s₀ code tree fs s₂) :
    ∀ i, i ≤ c → ∀ s₀ s₂, Inv i s₀ s₂ → Seg M A R Y (Nn - i) s₀ code tree fs s₂ := by
  have go : ∀ k i, c - i = k → i ≤ c → ∀ s₀ s₂, Inv i s₀ s₂ → Seg M A R Y (Nn - i) s₀ code tree fs s₂ := by
    intro k
    induction k with
    | zero => intro i e hi s₀ s₂ h; exact step i hi (fun hlt => by omega) s₀ s₂ h
    | succ k ih => intro i e hi s₀ s₂ h; exact step i hi (fun hlt s₀ s₂ h => ih (i + 1) (by omega) (by omega) s₀ s₂ h) s₀ s₂ h
  exact fun i => go _ i rfl
theorem pyIter_list_at {prog : Program} {w : World} {A : Around} {E : Value → Shared → Prop} {s : Shared} {l I : Addr} {items : Array Value} {Q : Value → Shared → Prop} (hl : s.heap.IsList l items) (e : s.heap.objs.size = I)
    (h : Q (.ref I) { s with heap := s.heap.push { cls := .type "list_iterator", data := .fields #[.ref l, .int 0 0] } }) : wpAny (model prog w) A (pyIter (.ref l)) Q E s := by
  subst e; exact wpAny_pyIter_list hl h
theorem add2_ne (Lg : Addr) : Lg + 2 ≠ Lg := Nat.ne_of_gt (Nat.lt_add_of_pos_right (by decide))
theorem lt_ne2 {lr Lg : Addr} (h : lr < Lg) : lr ≠ Lg + 2 := Nat.ne_of_lt (Nat.lt_trans h (Nat.lt_add_of_pos_right (by decide)))
theorem gmv_refl {own : List Addr} {s : Shared} : GMv own s s := ⟨fun _ _ _ e => e, rfl, rfl, rfl⟩
theorem gmv_heap {own : List Addr} {s₀ s : Shared} {h' : Heap} {tk : Nat} (x : GMv own s₀ s) (hk : ∀ b o, b ∉ own → s.heap.get? b = some o → h'.get? b = some o) : GMv own s₀ { s with heap := h', toks := tk } :=
  ⟨fun b o hb e => hk b o hb (x.1 b o hb e), x.2.1, x.2.2.1, x.2.2.2⟩
theorem gmv_toks {own : List Addr} {s₀ s : Shared} {tk : Nat} (x : GMv own s₀ s) : GMv own s₀ { s with toks := tk } := x
theorem same_own {own : List Addr} {a : Addr} {h h' : Heap} (hs : Heap.SameBut a h h') (ha : a ∈ own) : ∀ b o, b ∉ own → h.get? b = some o → h'.get? b = some o := fun b o hb e => hs.extBut b o (fun q => hb (q ▸ ha)) e
set_option maxRecDepth 100000 in
set_option maxHeartbeats 8000000 in
theorem gi_ctr {lr : Addr} {its : List Int} {vr : List Value} {nr : Nat} {Nn c : Nat} {fin : Prop} {out : Nat → Int} {w : World} {mean : ExcName → Option Value} {mg mb : Str → Option Value} {dp un : Nat} {gd : Option (List Code)} {cn : Str} {cs : Scope} {a : Addr} {ccd : Value} {cl : List (Str × Addr)} {outer : List Env} {A₀ : Around} {base h₀ : Heap} {L : Addr} {m : Str → Option Value} {news : List (Addr × Obj)} {s : Shared} {Q E : Value → Shared → Prop}
   (B : Below A₀ base outer h₀) (F : Fr h₀ L s.heap m) (X : (hd.heap_39 w.params).In h₀) (N : News h₀ L s.heap ((lr, listOf vr.toArray nr) :: news)) (T : TopH mean mg mb h₀) (hk : cs.kind = .function)
   (hi : IntsAre vr its) (hplain : ∀ i, i < c → its[i]? = some (out i) ∧ out i ≠ 127 ∧ out i ≠ 0) (hend : (fin ∧ Nn = c ∧ its[c]? = some 127) ∨ (¬ fin ∧ 0 < c ∧ c < Nn ∧ its[c]? = some 0 ∧ ∀ j, c ≤ j → out j = out (c - 1)))
   (hdp : dp + 3 < recursionLimit) (_hun : un + 100 < cLine)
   (hret : ∀ Lg h' tk' g' (m0 : Str → Option Value), Fr h₀ L h' m → News h₀ L h' ((lr, listOf vr.toArray nr) :: news) → (∀ p ∈ (lr, listOf vr.toArray nr) :: news, p.1 < Lg) → L < Lg → 
      GSt (model PySem.Challenge.rw_sw0038_01.row.prog w).prog w (ktrTop dp un gd cn cs L a ccd cl outer) [Lg, lr, Lg + 2] Nn fin (fun i v _ => ∃ t, v = .int (out i) t) (giH h₀ Lg lr m0 vr nr c out) (Lg + 1) s.gens.size 0 { s with heap := h', toks := tk', gens := g' } → (AllBare s.gens → AllBare g') →
      Q (.ref (Lg + 1)) { s with heap := h', toks := tk', gens := g' }) :
   wpAny (model PySem.Challenge.rw_sw0038_01.row.prog w) (ktrTop dp un gd cn cs L a ccd cl outer) (call (.ref 50) [.ref lr]) Q E s := by
  k_with_none
  k_with "execs cons" => (with_reducible refine toks_step (fun tk0 => ?_))
  w_top off
  revert X; k_fill; intro X
  k_dflt (refine' gen_def (F) (X) (N) (TopRead.nolimit (topRead_of T)) ?q1 ?q2 ?q3 ?q4 ?q5 ?q6 ?q7 ?q8 ?q9 ?q10)
  case q1 => k_is
  case q2 => k_is
  case q3 => ktr_room
  case q4 => rfl
  case q5 => exact locs rfl
  case q7 => rfl
  case q8 => rfl
  case q9 => rfl
  case q10 => decide
  intro Lg h' tk' hLg hLL F' N' Fg Ng hgen hlt
  refine hret Lg h' tk' _ _ F' N' hlt hLL ⟨hgen, ⟨hLg, Fg, fun p hp => Ng p (by rw [List.mem_singleton.mp hp]; exact .head _)⟩, (TopRead.nolimit (topRead_of T)).keeps F'.keep, _, Array.getElem?_push_size .., fun hor s'' hH => ⟨rfl, ?_⟩⟩ (fun hb => AllBare.push hb rfl)
  have hlr : lr < Lg := hlt _ (.head _)
  clear F F' N' Fg Ng hgen hlt hret N B
  obtain ⟨hsz, F1, N1⟩ := hH
  clear hLg
  have hI0 : h₀.get? (Lg + 2) = none := Heap.get?_none_of_le (Nat.le_trans F1.above (Nat.le_add_right _ _))
  refine seg_func ?_
  refine seg_execs_cons ?_
  refine seg_stmt ?_
  walk1
  walk1
  refine wpAny_storeName_local (by rfl) F1.ns (fun h₁ hn₁ hs₁ => ?_) (by rfl)
  have F2 := F1.set hn₁ hs₁
  have N2 := N1.set hs₁
  dsimp only
  refine seg_execs_cons ?_
  refine seg_For ?_
  walk1
  have hl2 : h₁.IsList lr vr.toArray := ⟨_, (N2 _ (.head _)).1, rfl, _, rfl⟩
  have hsz1 : h₁.objs.size = Lg + 2 := hs₁.1.trans hsz
  refine pyIter_list_at hl2 hsz1 ?_
  intro p9
  refine seg_ind c (fun i s₀ s₂ => ∃ a mm t, Fr h₀ Lg s₂.heap (giL mm a) ∧ (0 < i → a = .int (out (i - 1)) t) ∧ News h₀ Lg s₂.heap [(lr, listOf vr.toArray nr)] ∧ s₂.heap.IsListIter (Lg + 2) lr i ∧ GMv [Lg, lr, Lg + 2] s₀ s₂ ∧ (i < Nn ∨ fin)) ?_ 0 (Nat.zero_le _) _ _ ?_
  rotate_left
  · have eIt : (h₁.push { cls := .type "list_iterator", data := .fields #[.ref lr, .int 0 0] }).get? (Lg + 2) = some { cls := .type "list_iterator", data := .fields #[.ref lr, .int 0 0] } := by rw [← hsz1]; exact Heap.get?_push_size _ rfl
    refine ⟨.none, _, 0, F2.push _, fun h0 => absurd h0 (Nat.lt_irrefl _), N2.grown fun _ _ e => Heap.get?_push_of_some _ e, ⟨_, eIt, rfl, rfl⟩, ⟨fun b o hb e => Heap.get?_push_of_some _ (same_own hs₁ (.head _) b o hb e), rfl, rfl, rfl⟩, hor⟩
  intro i hic IH s₀ s₂ hinv
  obtain ⟨a9, mm, t9, F3, ha, N3, hit, hgm, hor2⟩ := hinv
  have hl3 : s₂.heap.IsList lr vr.toArray := ⟨_, (N3 _ (.head _)).1, rfl, _, rfl⟩
  obtain ⟨x9, hx9, hxc⟩ : ∃ x, its[i]? = some x ∧ ((i < c ∧ x = out i ∧ x ≠ 127 ∧ x ≠ 0) ∨ (i = c ∧ fin ∧ Nn = c ∧ x = 127) ∨ (i = c ∧ ¬ fin ∧ 0 < c ∧ c < Nn ∧ x = 0 ∧ ∀ j, c ≤ j → out j = out (c - 1))) := by
    rcases Nat.lt_or_ge i c with hlt | hge
    · exact ⟨_, (hplain i hlt).1, .inl ⟨hlt, rfl, (hplain i hlt).2⟩⟩
    · obtain rfl : i = c := Nat.le_antisymm hic hge
      rcases hend with ⟨e1, e2, e3⟩ | ⟨e0, e1, e2, e3, e4⟩
      · exact ⟨_, e3, .inr (.inl ⟨rfl, e1, e2, rfl⟩)⟩
      · exact ⟨_, e3, .inr (.inr ⟨rfl, e0, e1, e2, rfl, e4⟩)⟩
  obtain ⟨tx, hvx⟩ := hi.get i x9 hx9
  refine seg_forLoop ?_
  refine wpAny_pyNext_list_item hit hl3 (x := .int x9 tx) (by simpa using hvx) fun h₂ hit₂ hs₂ => ?_
  refine wpAny_of_eq (a := ()) rfl ?_
  have F4 : Fr h₀ Lg h₂ (giL mm a9) := F3.change hs₂ (add2_ne Lg) hI0
  have N4 : News h₀ Lg h₂ [(lr, listOf vr.toArray nr)] := fun p hp => ⟨hs₂.extBut _ _ (by rw [List.mem_singleton.mp hp]; exact lt_ne2 hlr) (N3 p hp).1, (N3 p hp).2⟩
  refine wpAny_assign_Name (wpAny_storeName_local (by rfl) F4.ns (fun h₃ hn₃ hs₃ => ?_) (by rfl))
  have F5 : Fr h₀ Lg h₃ (giM mm a9 (.int x9 tx)) := F4.set hn₃ hs₃
  have N5 := N4.set hs₃
  have hit₃ : h₃.IsListIter (Lg + 2) lr (i + 1) := hit₂.extBut hs₃.extBut (add2_ne Lg)
  have hgm3 : GMv [Lg, lr, Lg + 2] s₀ { s₂ with heap := h₃, toks := s₂.toks + 1 } := gmv_heap hgm fun b o hb e => same_own hs₃ (.head _) b o hb (same_own hs₂ (by simp) b o hb e)
  clear F1 N1 F2 N2 hl2 hsz hsz1 F3 N3 F4 N4
  refine seg_execs_cons ?_
  refine seg_If ?_
  k_steps
  · -- the item is 127
    obtain ⟨e1, e2, e3⟩ : i = c ∧ fin ∧ Nn = c := by
      rcases hxc with ⟨_, _, h, _⟩ | ⟨h1, h2, h3, _⟩ | ⟨_, _, _, _, h, _⟩
      · exact absurd (by assumption) h
      · exact ⟨h1, h2, h3⟩
      · omega
    refine seg_execs_cons ?_
    refine seg_stmt ?_
    walk1
    refine seg_leaf (.ok (.ret .none)) ?_
    exact seg_end (.ok (.ret .none)) ⟨rfl, by omega, hgm3⟩
  · refine seg_execs_nil ?_
    dsimp only
    refine seg_execs_cons ?_
    refine seg_If ?_
    k_steps
    · -- the item is nought
      obtain ⟨e1, e2, e3, e4, e5⟩ : i = c ∧ ¬ fin ∧ 0 < c ∧ c < Nn ∧ ∀ j, c ≤ j → out j = out (c - 1) := by
        rcases hxc with ⟨_, _, _, h⟩ | ⟨_, _, _, h⟩ | ⟨h1, h2, h3, h4, _, h5⟩
        · exact absurd (by assumption) h
        · omega
        · exact ⟨h1, h2, h3, h4, h5⟩
      subst e1
      have ha2 := ha e3
      subst ha2
      refine seg_execs_cons ?_
      refine seg_If ?_
      k_steps
      refine seg_execs_nil ?_
      dsimp only
      refine seg_execs_cons ?_
      refine seg_While ?_
      intro p10
      refine seg_ind Nn (fun j s₀ s₂ => ∃ b mm t, Fr h₀ Lg s₂.heap (giM mm (.int (out (i - 1)) t) b) ∧ News h₀ Lg s₂.heap [(lr, listOf vr.toArray nr)] ∧ (∃ oI, s₂.heap.get? (Lg + 2) = some oI) ∧ GMv [Lg, lr, Lg + 2] s₀ s₂ ∧ i ≤ j ∧ j < Nn) ?_ i (by omega) _ _ ?_
      rotate_left
      · exact ⟨_, _, t9, F5, N5, (by obtain ⟨o, ho, _⟩ := hit₃; exact ⟨o, ho⟩), hgm3, Nat.le_refl _, e4⟩
      clear F5 N5 IH hit hit₂ hit₃ hgm hgm3
      rintro j hj IH2 s₃ s₄ ⟨b8, mm8, t8, F8, N8, ⟨oI8, hoI8⟩, hg8, hij, hjN⟩
      refine seg_whileLoop ?_
      k_steps
      refine seg_execs_cons ?_
      rw [show Nn - j = (Nn - (j + 1)) + 1 from ar4 (by assumption)]
      refine seg_Expr_Yield (by rfl) (by rfl) (by rfl) ?_
      walk1
      intro kap hk
      have e9 : Nn - (Nn - (j + 1)) = j + 1 := ar5 (by assumption)
      have e8 : Nn - 1 - (Nn - (j + 1)) = j := ar6 (by assumption)
      have hnj : ¬ j < i := by omega
      refine ⟨⟨t8, by rw [e8, e5 j hij]⟩, hg8, ?_, ?_⟩
      · rw [e9]
        exact ⟨_, _, _, t8, F8, by rw [if_neg hnj, e5 j hij], N8, ⟨oI8, hoI8⟩, fun h => absurd h hnj⟩
      rw [e9]
      rintro hor4 s₅ ⟨a5, b5, mm5, t5, F6, hb5, N6, ho6, _⟩
      rw [if_neg hnj, e5 j hij] at hb5
      subst hb5
      refine hk .none s₅ ?_
      show Seg _ _ _ _ _ _ _ _ _ _
      dsimp only
      refine seg_execs_nil ?_
      dsimp only
      refine seg_again rfl ?_
      exact IH2 hjN _ _ ⟨_, _, t5, F6, N6, ho6, gmv_refl, by omega, by rcases hor4 with h | h; omega; exact absurd h e2⟩
    · have hlt : i < c ∧ x9 = out i := by
        rcases hxc with ⟨h1, h2, _, _⟩ | ⟨_, _, _, h⟩ | ⟨_, _, _, _, h, _⟩
        · exact ⟨h1, h2⟩
        · omega
        · omega
      obtain ⟨hlt, rfl⟩ := hlt
      refine seg_execs_nil ?_
      dsimp only
      refine seg_execs_cons ?_
      have hiN : i < Nn := by
        rcases hend with ⟨_, h, _⟩ | ⟨_, _, h, _⟩ <;> omega
      rw [show Nn - i = (Nn - (i + 1)) + 1 from ar4 (by assumption)]
      refine seg_Expr_Yield (by rfl) (by rfl) (by rfl) ?_
      walk1
      intro kap hk
      have e9 : Nn - (Nn - (i + 1)) = i + 1 := ar5 (by assumption)
      have e8 : Nn - 1 - (Nn - (i + 1)) = i := ar6 (by assumption)
      refine ⟨⟨tx, by rw [e8]⟩, hgm3, ?_, ?_⟩
      · rw [e9]
        exact ⟨_, _, _, tx, F5, by rw [if_pos hlt], N5, (by obtain ⟨o, ho, _⟩ := hit₃; exact ⟨o, ho⟩), fun _ => hit₃⟩
      rw [e9]
      rintro hor4 s₅ ⟨a5, b5, mm5, t5, F6, hb5, N6, _, hit6⟩
      rw [if_pos hlt] at hb5
      subst hb5
      refine hk .none s₅ ?_
      show Seg _ _ _ _ _ _ _ _ _ _
      dsimp only
      refine seg_execs_cons ?_
      refine seg_stmt ?_
      walk1
      walk1
      refine wpAny_storeName_local (by rfl) F6.ns (fun h₇ hn₇ hs₇ => ?_) (by rfl)
      have F7 := F6.set hn₇ hs₇
      have N7 := N6.set hs₇
      dsimp only
      refine seg_execs_nil ?_
      dsimp only
      refine seg_again rfl ?_
      exact IH hlt _ _ ⟨_, _, t5, F7, fun _ => rfl, N7, (hit6 hlt).extBut hs₇.extBut (add2_ne Lg), ⟨fun b o hb e => same_own hs₇ (.head _) b o hb e, rfl, rfl, rfl⟩, by rcases hor4 with h | h; exact .inl (by omega); exact .inr h⟩
noncomputable def leastOf (bs : List Bool) (f r : Int) : List Int := ((List.range 24).map fun (k : Nat) => 1 + (k : Int)).filter fun n => decide (n.fmod f = r) && bs.getD n.toNat false
noncomputable def cntOf (l f : Int) : Nat := ((24 - l).fdiv f).toNat + 1
noncomputable def placesOf (l f : Int) : List Int := (List.range (cntOf l f)).map fun (k : Nat) => l + f * (k : Int)
noncomputable def marksTo (bs : List Bool) (f : Int) (i : Nat) : List Int := (List.range i).flatMap fun (r : Nat) => placesOf ((leastOf bs f (0 + (r : Int))).headD 0) f
theorem marksTo_succ (bs : List Bool) (f : Int) (i : Nat) : marksTo bs f (i + 1) = marksTo bs f i ++ placesOf ((leastOf bs f (0 + (i : Int))).headD 0) f := by
  unfold marksTo; rw [List.range_succ, List.flatMap_append]; simp
theorem placesOf_length (l f : Int) : (placesOf l f).length = cntOf l f := by unfold placesOf; rw [List.length_map, List.length_range]
theorem placesOf_at {l f : Int} {i : Nat} (h : i < cntOf l f) : (placesOf l f)[i]? = some (l + f * (i : Int)) := by unfold placesOf; simp [h]
theorem place_le {l f : Int} {i : Nat} (hf : f = 3 ∨ f = 4) (h1 : 1 ≤ l) (h24 : l ≤ 24) : l + f * (i : Int) ≤ 24 ↔ i < cntOf l f := by
  unfold cntOf
  rcases hf with rfl | rfl
  · have := Int.fdiv_eq_ediv_of_nonneg (24 - l) (b := 3) (by decide); rw [this]; omega
  · have := Int.fdiv_eq_ediv_of_nonneg (24 - l) (b := 4) (by decide); rw [this]; omega
theorem cnt_small {l f : Int} (hf : f = 3 ∨ f = 4) (h1 : 1 ≤ l) : cntOf l f ≤ 8 := by
  unfold cntOf
  rcases hf with rfl | rfl
  · have := Int.fdiv_eq_ediv_of_nonneg (24 - l) (b := 3) (by decide); rw [this]; omega
  · have := Int.fdiv_eq_ediv_of_nonneg (24 - l) (b := 4) (by decide); rw [this]; omega
abbrev headM (m : Str → Option Value) (lm : Addr) (wr : Bool) : Str → Option Value := fun y => if y = Str.ofString "marks" then some (.ref lm) else if y = Str.ofString "written" then some (.bool wr) else m y
theorem head_eq {m : Str → Option Value} {lm : Addr} {wr : Bool} (h1 : m (Str.ofString "marks") = some (.ref lm)) (h2 : m (Str.ofString "written") = some (.bool wr)) : ∀ y, m y = headM m lm wr y := by
  intro y
  unfold headM
  split
  · rename_i h; rw [h, h1]
  · split
    · rename_i h; rw [h, h2]
    · rfl
abbrev placeM (m : Str → Option Value) (lm : Addr) (wr : Bool) (p : Int) (t : Tok) : Str → Option Value := fun y => if y = Str.ofString "place" then some (.int p t) else headM m lm wr y
theorem place_eq {m : Str → Option Value} {lm : Addr} {wr : Bool} {p : Int} {t : Tok} (h0 : m (Str.ofString "place") = some (.int p t)) (h1 : m (Str.ofString "marks") = some (.ref lm)) (h2 : m (Str.ofString "written") = some (.bool wr)) : ∀ y, m y = placeM m lm wr p t y := by
  intro y
  unfold placeM
  split
  · rename_i h; rw [h, h0]
  · exact head_eq h1 h2 y
theorem len3 {α : Type} {l : List α} (h : l.length = 3) : ∃ a b c, l = [a, b, c] := by
  match l, h with
  | [a, b, c], _ => exact ⟨a, b, c, rfl⟩
theorem placeM_head (m : Str → Option Value) (lm : Addr) (wr : Bool) (p : Int) (t : Tok) : ∀ y, placeM m lm wr p t y = headM (placeM m lm wr p t) lm wr y := head_eq (m := placeM m lm wr p t) rfl rfl
noncomputable def outOf (l f : Int) (i : Nat) : Int := if i = 0 then l else f
noncomputable def MEnd (h₀ : Heap) (L : Addr) (s : Shared) (own rest : List (Addr × Obj)) (lm : Addr) (wr : Bool) (l f : Int) (prev : List Int) (i : Nat) (x : Flow) (s' : Shared) : Prop :=
  match x with
  | .next => ∃ h' tk' mm t vs k, s' = { s with heap := h', toks := tk' } ∧ Fr h₀ L h' (placeM mm lm wr (l + f * (i : Int)) t) ∧ i < cntOf l f ∧ IntsAre vs (prev ++ (placesOf l f).take (i + 1)) ∧ News h₀ L h' (own ++ (lm, listOf vs.toArray k) :: rest)
  | .brk => ∃ h' tk' mm vs k, s' = { s with heap := h', toks := tk' } ∧ Fr h₀ L h' (headM mm lm wr) ∧ i = cntOf l f ∧ IntsAre vs (prev ++ (placesOf l f).take i) ∧ News h₀ L h' (own ++ (lm, listOf vs.toArray k) :: rest)
  | _ => False
section
variable {prog : Program} {w : World} {A : Around} {E : Value → Shared → Prop} {s : Shared} {h₀ : Heap} {L : Addr} {m : Str → Option Value} {env : Env} {news : List (Addr × Obj)}
set_option maxHeartbeats 2000000 in
theorem marks_gloop {target : PySem.Expr} {body : List Stmt} {Q : Flow → Shared → Prop} {a g x1 x2 x3 : Nat} {N : Nat} {fin : Prop} {H : Nat → Heap → Prop} {lm : Addr} {wr : Bool} {l f : Int} {prev : List Int} {vs : List Value} {k : Nat} {t0 : Tok} {rest : List (Addr × Obj)}
    (st : GSt prog w A [x1, x2, x3] N fin (fun i v _ => ∃ t, v = .int (outOf l f i) t) H a g 0 s) (gf : GenFor prog w A h₀ L a g [x1, x2, x3] N fin (fun i v _ => ∃ t, v = .int (outOf l f i) t) H) (hlim : h₀.NoLimit)
    (F : Fr h₀ L s.heap (placeM m lm wr 0 t0)) (Nn : News h₀ L s.heap ((lm, listOf vs.toArray k) :: rest)) (hv : IntsAre vs prev) (off : ∀ x ∈ [a, x1, x2, x3], (@Ne Nat lm x) ∧ LCg.Off1 x rest)
    (hf : f = 3 ∨ f = 4) (h1 : 1 ≤ l) (h24 : l ≤ 24) (hcase : (wr = true ∧ N = cntOf l f ∧ fin) ∨ (wr = false ∧ cntOf l f < N))
    (turn : ∀ i p t tp vs k mm g₁ h tk oa o1 o2 o3, i < N → i ≤ cntOf l f → p + outOf l f i = l + f * (i : Int) → 0 ≤ p → IntsAre vs (prev ++ (placesOf l f).take i) → (∀ x ∈ [a, x1, x2, x3], (@Ne Nat lm x) ∧ LCg.Off1 x rest) →
      Fr h₀ L h (placeM mm lm wr p tp) → News h₀ L h ((a, oa) :: (x1, o1) :: (x2, o2) :: (x3, o3) :: (lm, listOf vs.toArray k) :: rest) →
      wpAny (model prog w) A (assign target env (.int (outOf l f i) t)) (fun _ s₂ => wpAny (model prog w) A (execs body env) (MEnd h₀ L { s with gens := g₁ } [(a, oa), (x1, o1), (x2, o2), (x3, o3)] rest lm wr l f prev i) (fun _ _ => False) s₂) (fun _ _ => False) { s with heap := h, toks := tk, gens := g₁ })
    (done : ∀ mm vs k h tk g', IntsAre vs (prev ++ placesOf l f) → (AllBare s.gens → AllBare g') → Fr h₀ L h (headM mm lm wr) → News h₀ L h ((lm, listOf vs.toArray k) :: rest) → Q .next { s with heap := h, toks := tk, gens := g' }) :
    GLoop prog w A h₀ L env target body Q (.ref a) s := by
  refine ⟨a, g, [x1, x2, x3], N, fin, _, H, _, _, fun i m' news' => ∃ mm p tp vs k, m' = placeM mm lm wr p tp ∧ p + outOf l f i = l + f * (i : Int) ∧ 0 ≤ p ∧ i ≤ cntOf l f ∧ IntsAre vs (prev ++ (placesOf l f).take i) ∧ news' = (lm, listOf vs.toArray k) :: rest, rfl, gf, hlim, F, Nn, fun x hx => off x hx, st,
    ⟨m, 0, t0, vs, k, rfl, by simp [outOf], by omega, Nat.zero_le _, by simpa using hv, rfl⟩, ?_, ?_, ?_⟩
  · rintro i m' news' ⟨mm, p, tp, vs, k, _, _, _, hi, _, _⟩
    rcases hcase with ⟨_, h, hfin⟩ | ⟨_, h⟩
    · exact ⟨by omega, fun _ => hfin⟩
    · exact ⟨by omega, fun e => by omega⟩
  · rintro i v m₁ news₁ g₁ h tk oa os hi ⟨t, rfl⟩ ⟨mm, p, tp, vs, k, rfl, hp, hp0, hic, hvs, rfl⟩ hb hos offq F₁ N₁
    obtain ⟨o1, o2, o3, rfl⟩ := len3 hos
    · refine wpAny_mono (turn i p t tp vs k mm g₁ h tk oa o1 o2 o3 hi hic hp hp0 hvs off F₁ N₁) (fun _ s₃ h₃ => wpAny_mono h₃ (fun x s₄ h₄ => ?_) fun _ _ e => e) fun _ _ e => e
      have offq2 : ∀ {vs : List Value} {k : Nat}, ∀ q ∈ (a, oa) :: [x1, x2, x3].zip [o1, o2, o3], LCg.Off1 q.1 ((lm, listOf vs.toArray k) :: rest) := fun q hq => offq q hq
      cases x with
      | next =>
        obtain ⟨h', tk', mm, t, vs, k, rfl, F', hlt, hv', N'⟩ := h₄
        refine ⟨h', tk', _, _, rfl, F', N', offq2, mm, _, t, vs, k, rfl, ?_, ?_, hlt, hv', rfl⟩
        · unfold outOf; rw [if_neg (Nat.succ_ne_zero i), Int.natCast_succ, Int.mul_add, Int.mul_one]; omega
        · rcases hf with rfl | rfl <;> omega
      | brk =>
        obtain ⟨h', tk', mm, vs, k, rfl, F', rfl, hv', N'⟩ := h₄
        refine done mm vs k h' tk' g₁ ?_ hb F' fun p hp => N' p (.tail _ (.tail _ (.tail _ (.tail _ hp))))
        rw [List.take_of_length_le (Nat.le_of_eq (placesOf_length l f))] at hv'
        exact hv'
      | cont => exact h₄.elim
      | ret v => exact h₄.elim
  · rintro m' news' g' h tk ⟨mm, p, tp, vs, k, rfl, hp, hp0, hic, hvs, rfl⟩ hfin hb F' N'
    have hN : N = cntOf l f := by
      rcases hcase with ⟨_, h, _⟩ | ⟨_, h⟩ <;> omega
    subst hN
    rw [List.take_of_length_le (Nat.le_of_eq (placesOf_length l f))] at hvs
    refine done _ vs k h tk g' hvs hb (fr_eq F' (placeM_head mm lm wr p tp)) N'
theorem marks_loop {x : Str} {body : List Stmt} {Q : Flow → Shared → Prop} {r : Addr} {t u v : Tok} {rest : List (Addr × Obj)} {lm c1 c2 c3 : Addr} {o1 o2 o3 : Obj} {k0 : Nat} {f : Int} {wr : Bool} (bs : List Bool)
    (hh : A.handled = none) (F : Fr h₀ L s.heap m) (N : News h₀ L s.heap ((lm, listOf #[] k0) :: (c1, o1) :: (c2, o2) :: (c3, o3) :: rest)) (ho1 : ∃ v, o1.data = .cell v) (hr : IsRange s.heap r 0 f 1 t u v) (hf : f = 3 ∨ f = 4)
    (hm1 : m (Str.ofString "marks") = some (.ref lm)) (hm2 : m (Str.ofString "written") = some (.bool wr))
    (turn : ∀ (i : Nat) mm g₁ o1 vs k I oI h tk t', (i : Int) < f → (∃ v, o1.data = .cell v) → IntsAre vs (marksTo bs f i) → (AllBare s.gens → AllBare g₁) → LCg.Off1 I ((lm, listOf vs.toArray k) :: (c1, o1) :: (c2, o2) :: (c3, o3) :: rest) → Fr h₀ L h (headM mm lm wr) → News h₀ L h ((I, oI) :: (lm, listOf vs.toArray k) :: (c1, o1) :: (c2, o2) :: (c3, o3) :: rest) →
      wpAny (model prog w) A (storeName env x (.int (0 + (i : Int)) t')) (fun _ s₂ => wpAny (model prog w) A (execs body env) (StepEnd h₀ L s I oI (fun m' news' g' => (∃ mm, m' = headM mm lm wr) ∧ (AllBare s.gens → AllBare g') ∧ ∃ o1 vs k, (∃ v, o1.data = .cell v) ∧ IntsAre vs (marksTo bs f (i + 1)) ∧ news' = (lm, listOf vs.toArray k) :: (c1, o1) :: (c2, o2) :: (c3, o3) :: rest) Q) (fun _ _ => False) s₂) (fun _ _ => False) { s with heap := h, toks := tk, gens := g₁ })
    (done : ∀ mm o1 vs k h tk g', IntsAre vs (marksTo bs f f.toNat) → (AllBare s.gens → AllBare g') → Fr h₀ L h (headM mm lm wr) → News h₀ L h ((lm, listOf vs.toArray k) :: (c1, o1) :: (c2, o2) :: (c3, o3) :: rest) → Q .next { s with heap := h, toks := tk, gens := g' }) :
    RLoop prog w A h₀ L env x body Q (.ref r) s := by
  refine RLoop.intro (n := f.toNat) (fun i m' news' g' => (∃ mm, m' = headM mm lm wr) ∧ (AllBare s.gens → AllBare g') ∧ ∃ o1 vs k, (∃ v, o1.data = .cell v) ∧ IntsAre vs (marksTo bs f i) ∧ news' = (lm, listOf vs.toArray k) :: (c1, o1) :: (c2, o2) :: (c3, o3) :: rest) hh F N hr (by rcases hf with rfl | rfl <;> decide) (by rcases hf with rfl | rfl <;> decide)
    ⟨⟨m, funext (head_eq hm1 hm2)⟩, id, o1, [], k0, ho1, .nil, rfl⟩ ?_ ?_
  · rintro i m₁ news₁ g₁ I oI h tk t' hi ⟨⟨mm, rfl⟩, hb, o1, vs, k, ho1, hvs, rfl⟩ o F₁ N₁
    exact turn i mm g₁ o1 vs k I oI h tk t' (by omega) ho1 hvs hb o F₁ N₁
  · rintro m' news' g' h tk ⟨⟨mm, rfl⟩, hb, o1, vs, k, ho1, hvs, rfl⟩ F₁ N₁
    exact done mm o1 vs k h tk g' hvs hb F₁ N₁
theorem gi_for {P : Nat → Value → Heap → Prop} {Lg lr g N c k : Nat} {fin : Prop} {out : Nat → Int} {m0 : Str → Option Value} {vr : List Value} {h : Heap}
    (hh : A.handled = none) (room : A.depth < recursionLimit) (F : Fr h₀ L h m) (hlim : h₀.NoLimit) (hLL : L < Lg) (hlr : lr < Lg) (hlr0 : h₀.get? lr = none) (hlrL : lr ≠ L) :
    GenFor prog w A h₀ L (Lg + 1) g [Lg, lr, Lg + 2] N fin P (giH h₀ Lg lr m0 vr k c out) := by
  have hab : h₀.objs.size ≤ L := F.above
  have hcs : cStatics < h₀.objs.size := let ⟨_, hn, _⟩ := hlim; hn.lt
  have z : ∀ x : Nat, L < x → h₀.get? x = none := fun x hx => Heap.get?_none_of_le (Nat.le_trans hab (Nat.le_of_lt hx))
  have hcr : cStatics ≠ lr := fun e => by
    obtain ⟨_, ⟨o, _, _, ho, _⟩, _⟩ := hlim
    rw [e, hlr0] at ho; cases ho
  refine ⟨hh, room, ?_, ?_, ?_, ?_, z _ (Nat.lt_succ_of_lt hLL), ?_, ?_, ?_⟩
  · simp only [List.mem_cons, List.not_mem_nil, or_false]; rintro (h | h | h)
    · exact Nat.succ_ne_self _ h
    · exact absurd (h ▸ hlr) (Nat.not_lt.mpr (Nat.le_succ _))
    · exact absurd h (by have : (Lg : Nat) + 1 ≠ Lg + 2 := by omega
                         exact this)
  · simp only [List.mem_cons, List.not_mem_nil, or_false]; rintro (h | h | h)
    · exact absurd (Nat.lt_of_lt_of_le hcs hab) (by rw [h]; exact Nat.not_lt.mpr (Nat.le_of_lt hLL))
    · exact hcr h
    · exact absurd (Nat.lt_of_lt_of_le hcs hab) (by rw [h]; exact Nat.not_lt.mpr (Nat.le_trans (Nat.le_of_lt hLL) (Nat.le_add_right _ _)))
  · simp only [List.mem_cons, List.not_mem_nil, or_false]; rintro (h | h | h)
    · exact Nat.ne_of_lt hLL h
    · exact hlrL h.symm
    · exact Nat.ne_of_lt (Nat.lt_of_lt_of_le hLL (Nat.le_add_right _ 2)) h
  · exact Nat.ne_of_gt (Nat.lt_succ_of_lt hLL)
  · intro x hx
    simp only [List.mem_cons, List.not_mem_nil, or_false] at hx
    rcases hx with rfl | rfl | rfl
    · exact z _ hLL
    · exact hlr0
    · exact z _ (Nat.lt_of_lt_of_le hLL (Nat.le_add_right _ 2))
  · rintro (_ | i) h h' hi
    · exact absurd hi (Nat.lt_irrefl _)
    rintro ⟨a, b, mm, t, Fh, hc, Nh, ⟨oI, ho⟩, hit⟩ hk hb
    refine ⟨a, b, mm, t, ⟨Fh.ns.at' fun o e => hk _ (.head _) o e, hb, Fh.above⟩, hc, fun p hp => ⟨hk _ (by rw [List.mem_singleton.mp hp]; simp) _ (Nh p hp).1, (Nh p hp).2⟩, ⟨oI, hk _ (by simp) _ ho⟩, fun hlt => (hit hlt).at fun o e => hk _ (by simp) o e⟩
  · rintro (_ | i) h hi
    · exact absurd hi (Nat.lt_irrefl _)
    rintro ⟨a, b, mm, t, Fh, hc, Nh, ⟨oI, ho⟩, hit⟩
    obtain ⟨oL, _, _, hoL, _⟩ := Fh.ns
    refine ⟨[oL, listOf vr.toArray k, oI], rfl, ?_⟩
    intro p hp
    simp only [List.zip_cons_cons, List.zip_nil_right, List.mem_cons, List.not_mem_nil, or_false] at hp
    rcases hp with rfl | rfl | rfl
    · exact hoL
    · exact (Nh _ (.head _)).1
    · exact ho
end
theorem f34_small {f : Int} (h : f = 3 ∨ f = 4) : f ≠ 0 ∧ f.natAbs < 1073741824 := by rcases h with rfl | rfl <;> decide
theorem least_take {bs : List Bool} {f r : Int} {ys : List Value} (h : IntsAre ys ((((List.range 24).map fun (k : Nat) => 1 + (k : Int)).take 24).filter fun n => decide (n.fmod f = r) && bs.getD n.toNat false)) : IntsAre ys (leastOf bs f r) := by
  rw [List.take_of_length_le (by simp)] at h; exact h
theorem rng_at {j : Nat} (h : j < 24) : ((List.range 24).map fun (k : Nat) => 1 + (k : Int))[j]? = some (1 + (j : Int)) := by simp [h]
theorem news_pick3 {h₀ h : Heap} {L : Addr} {x1 x2 x3 x4 : Addr × Obj} {rest : List (Addr × Obj)} (N : News h₀ L h (x1 :: x2 :: x3 :: x4 :: rest)) : News h₀ L h (x4 :: x3 :: rest) := fun p hp => by
  rcases List.mem_cons.mp hp with rfl | hp
  · exact N _ (.tail _ (.tail _ (.tail _ (.head _))))
  · rcases List.mem_cons.mp hp with rfl | hp
    · exact N _ (.tail _ (.tail _ (.head _)))
    · exact N _ (.tail _ (.tail _ (.tail _ (.tail _ hp))))
theorem off_own {Lg lr : Nat} {lm : Addr} {o : Obj} {rest : List (Addr × Obj)} (h1 : ∀ p ∈ (lm, o) :: rest, p.1 < Lg) (h2 : ∀ p ∈ (lm, o) :: rest, p.1 < lr) : ∀ x ∈ [Lg + 1, Lg, lr, Lg + 2], (@Ne Nat lm x) ∧ LCg.Off1 x rest := by
  have big : ∀ x : Nat, Lg ≤ x → (@Ne Nat lm x) ∧ LCg.Off1 x rest := fun x hx => ⟨Nat.ne_of_lt (Nat.lt_of_lt_of_le (h1 _ (.head _)) hx), off1_of fun p hp => Nat.ne_of_lt (Nat.lt_of_lt_of_le (h1 p (.tail _ hp)) hx)⟩
  intro x hx
  simp only [List.mem_cons, List.not_mem_nil, or_false] at hx
  rcases hx with rfl | rfl | rfl | rfl
  · exact big _ (Nat.le_succ _)
  · exact big _ (Nat.le_refl _)
  · exact ⟨Nat.ne_of_lt (h2 _ (.head _)), off1_of fun p hp => Nat.ne_of_lt (h2 p (.tail _ hp))⟩
  · exact big _ (Nat.le_add_right _ _)
theorem ruler_plainF {l f : Int} (hf : f = 3 ∨ f = 4) (h1 : 1 ≤ l) (h24 : l ≤ 24) : ∀ i, i < 2 → [l, f, 0, 5][i]? = some (outOf l f i) ∧ outOf l f i ≠ 127 ∧ outOf l f i ≠ 0 := by
  intro i hi
  match i, hi with
  | 0, _ => exact ⟨rfl, by show l ≠ 127; omega, by show l ≠ 0; omega⟩
  | 1, _ => exact ⟨rfl, by show f ≠ 127; omega, by show f ≠ 0; omega⟩
theorem marksTo_len {bs : List Bool} {f : Int} (hf : f = 3 ∨ f = 4) (hleast : ∀ r : Nat, (r : Int) < f → ∃ l tl, leastOf bs f (0 + (r : Int)) = l :: tl ∧ 1 ≤ l ∧ l ≤ 24) : ∀ i : Nat, (i : Int) ≤ f → (marksTo bs f i).length ≤ 8 * i
  | 0, _ => by unfold marksTo; simp
  | i + 1, h => by
    have ih := marksTo_len hf hleast i (by omega)
    obtain ⟨l, tl, e, h1, _⟩ := hleast i (by omega)
    have c := cnt_small (l := l) hf h1
    rw [marksTo_succ, List.length_append, e, List.headD_cons, placesOf_length]
    omega
theorem places_snoc {vs : List Value} {prev : List Int} {l f p : Int} {i : Nat} {t : Tok} (h : IntsAre vs (prev ++ (placesOf l f).take i)) (hi : i < cntOf l f) (hp : p = l + f * (i : Int)) : IntsAre (vs ++ [.int p t]) (prev ++ (placesOf l f).take (i + 1)) := by
  subst hp
  rw [take_snoc (placesOf_at hi), ← List.append_assoc]
  exact h.append (.cons _ _ .nil)
theorem app_room {vs : List Value} {bs : List Bool} {f l : Int} {i i2 : Nat} (hvs : IntsAre vs (marksTo bs f i ++ (placesOf l f).take i2)) (hf : f = 3 ∨ f = 4) (hl1 : 1 ≤ l)
    (hleast : ∀ r : Nat, (r : Int) < f → ∃ l tl, leastOf bs f (0 + (r : Int)) = l :: tl ∧ 1 ≤ l ∧ l ≤ 24) (hi : (i : Int) < f) : vs.toArray.size ≤ sizeLine := by
  rw [List.size_toArray, IntsAre.length hvs, List.length_append, List.length_take, placesOf_length, sizeLine_eq]
  have hz1 := cnt_small (l := l) hf hl1
  have hz2 := marksTo_len hf hleast i (by omega)
  omega
set_option maxRecDepth 100000 in
set_option maxHeartbeats 8000000 in
theorem marks_ctrF {lp : Addr} {bs : List Bool} {np : Nat} {f : Int} {tf : Tok} {w : World} {mean : ExcName → Option Value} {mg mb : Str → Option Value} {dp un : Nat} {gd : Option (List Code)} {cn : Str} {cs : Scope} {a : Addr} {ccd : Value} {cl : List (Str × Addr)} {outer : List Env} {A₀ : Around} {base h₀ : Heap} {L : Addr} {m : Str → Option Value} {news : List (Addr × Obj)} {s : Shared} {Q E : Value → Shared → Prop}
   (B : Below A₀ base outer h₀) (F : Fr h₀ L s.heap m) (X : (hd.heap_39 w.params).In h₀) (N : News h₀ L s.heap ((lp, listOf (bs.map Value.bool).toArray np) :: news)) (T : TopH mean mg mb h₀) (hk : cs.kind = .function)
   (hbs : bs.length = 25) (hf : f = 3 ∨ f = 4) (hleast : ∀ r : Nat, (r : Int) < f → ∃ l tl, leastOf bs f (0 + (r : Int)) = l :: tl ∧ 1 ≤ l ∧ l ≤ 24) (hdp : dp + 4 < recursionLimit) (_hun : un + 200 < cLine)
   (hret : ∀ vs' ns' n l' h' tk' g', IntsAre vs' ns' → ns'.Perm (marksTo bs f f.toNat) → ns'.Pairwise (· ≤ ·) → Fr h₀ L h' m → News h₀ L h' ((l', listOf vs'.toArray n) :: (lp, listOf (bs.map Value.bool).toArray np) :: news) → AllLt l' ((lp, listOf (bs.map Value.bool).toArray np) :: news) → (AllBare s.gens → AllBare g') → Q (.ref l') { s with heap := h', toks := tk', gens := g' }) :
   wpAny (model PySem.Challenge.rw_sw0038_01.row.prog w) (ktrTop dp un gd cn cs L a ccd cl outer) (call (.ref 86) [.ref lp, .int f tf, .bool false]) Q E s := by
  k_with_none
  k_with "execs cons" => (with_reducible refine toks_step (fun tk0 => ?_))
  w_top off
  revert X; k_fill; intro X
  k_with "exec For Name Call cons nil" => (k_here; k_dflt (refine For_R (by k_asm) ?_))
  k_with "exec For Name Call cons nil" => (k_here; (with_reducible show wpAny _ _ (exec (Stmt.For _ (Expr.Call (Expr.Name (Str.ofString "_grouping_intervals") _) _ _ _) _ _ _) _) _ _ _); k_dflt (refine For_G (by k_asm) ?_))
  k_with "RLoop" => (k_dflt ((refine' marks_loop (f := f) (wr := false) bs ?qh ?qF ?qN ?qo ?qr hf ?q1 ?q2 ?_ ?_); (case qh => rfl); (case qF => k_asm); (case qN => k_asm); (case qo => exact ⟨_, d1⟩); (case qr => assumption); (case q1 => rfl); (case q2 => rfl); (all_goals (first | (intro i mm g₁ o1 vs k I oI h tk t' hi9 ho1 hvs hb9 off F N; simp only [LCg.Off1, and_true] at off; have gI := neNat off.1.symm; have gJ := neNat off.2.1.symm; obtain ⟨v9, ho1⟩ := ho1) | (intro mm o1 vs k h tk g' hvs hb9 F N)))))

  k_with "eval ListComp" => (k_here; k_dflt (refine LCt.ListComp_T (F₀ := by k_asm) (by with_unfolding_all rfl) (by decide) (by rfl) (by decide) (by rfl) ?_))
  k_with "CompSrcT" => (k_dflt ((refine' LCt.CompSrcT.range (n := 24) ?qh ?qF ?qN ?qr ?qs ?qt ?qz ?_); (case qh => rfl); (case qF => k_asm); (case qN => k_asm); (case qr => assumption); (case qs => decide); (case qt => decide); (case qz => exact Nat.le_of_ble_eq_true rfl); (intro g'); (refine' compT_inv (fun j ys => IntsAre ys ((((List.range 24).map fun (k : Nat) => 1 + (k : Int)).take j).filter fun n => decide (n.fmod f = (0 + (i : Int))) && bs.getD n.toNat false)) _ trivial ?q0 ?_ ?_); (case q0 => exact IntsAre.nil); (all_goals (first | (intro j ys v I2 oI2 C oC D m₂ h tk hj hR hP hC hx F N off2 ne; obtain ⟨t8, rfl⟩ := hP; have hc := rng_at hj) | (intro ys hys; replace hys := least_take hys; obtain ⟨l, tl, hl9, hl1, hl24⟩ := hleast i hi9; rw [hl9] at hys; obtain ⟨t7, ys', rfl, hys'⟩ := IntsAre.cons_inv hys)))))
  k_with "subscriptTail Name Name ref int" => (k_dflt ((refine' item_led ?qa ?qb ?qc ?qd ?qe ?_); (case qa => k_asm); (case qb => ktn_open); (case qc => omega); (case qd => omega); (case qe => exact bools_at (by rw [hbs]; omega))))
  k_with "Exists" => (k_dflt ((refine ⟨_, _, rfl, by k_asm, by k_asm, ?_⟩); (first | exact ints_skip hR hc (by simp_all) | exact ints_keep hR hc (by simp_all))))
  k_with "call ref" => (k_dflt ((with_reducible show wpAny _ _ (call (Value.ref 50) _) _ _ _); (refine' gi_ctr (its := [l, f, 0, 5]) (Nn := 30) (c := 2) (fin := False) (out := outOf l f) ?qB ?qF ?qX ?qN ?qT ?qK ?qi ?qp ?qe ?qd ?qu ?_); (case qB => k_asm); (case qF => k_asm); (case qX => k_asm); (case qN => k_asm); (case qT => k_asm); (case qK => rfl); (case qi => exact .cons _ _ (.cons _ _ (.cons _ _ (.cons _ _ .nil)))); (case qp => exact ruler_plainF hf hl1 hl24); (case qe => exact .inr ⟨fun h => h, by decide, by decide, rfl, fun j hj => by unfold outOf; rw [if_neg (by omega)]; rfl⟩); (case qd => ktr_room); (case qu => ktr_units); (intro Lg h' tk' g' m0 F' N' hlt hLL st9 hb8)))
  k_with "GLoop" => (k_dflt ((refine' marks_gloop (wr := false) (l := l) (f := f) st9 (gi_for ?qh ?qr F' ?qL hLL (hlt _ (.head _)) (N' _ (.head _)).2.2 (N' _ (.head _)).2.1) ?qL2 ?qF (news_pick3 N') hvs (off_own (fun p hp => hlt p ?qo1) (fun p hp => l1w p ?qo2)) hf hl1 hl24 (.inr ⟨rfl, by have := cnt_small (l := l) hf hl1; omega⟩) ?_ ?_); (case qh => rfl); (case qr => ktr_room); (case qL => exact TopRead.nolimit (topRead_of (by k_asm))); (case qL2 => exact TopRead.nolimit (topRead_of (by k_asm))); (case qF => exact fr_eq F' (place_eq rfl rfl rfl)); (case qo1 => (rcases List.mem_cons.mp hp with rfl | hp; ktn_open; rcases List.mem_cons.mp hp with rfl | hp; ktn_open; ktn_open)); (case qo2 => (rcases List.mem_cons.mp hp with rfl | hp; ktn_open; rcases List.mem_cons.mp hp with rfl | hp; ktn_open; ktn_open)); (all_goals (first | (intro i2 p t tp vs k mm g₁ h tk oa o1 o2 o3 hiN hic hp hp0 hvs offG F N; simp only [List.mem_cons, List.not_mem_nil, or_false, forall_eq_or_imp, forall_eq, LCg.Off1, and_true] at offG; have gA := neNat offG.1.1.symm; have gB := neNat offG.2.1.1.symm; have gC := neNat offG.2.2.1.1.symm; have gD := neNat offG.2.2.2.1.symm; refine wpAny_assign_Name ?_) | (intro mm vs k h tk g' hvs hb7 F N)))))
  k_with "MEnd" => (k_dflt ((try dsimp only); (unfold MEnd; dsimp only); (first | (refine' ⟨_, _, _, _, _, _, rfl, fr_eq (by k_asm) (place_eq (by rw [← hp]; rfl) rfl rfl), ?m1, ?m2, ?m3⟩; (case m3 => exact N'); (case m1 => first | exact hiN | exact (place_le (i := i2) hf hl1 hl24).mp (by rw [← hp]; omega)); (case m2 => exact places_snoc hvs (by first | exact hiN | exact (place_le (i := i2) hf hl1 hl24).mp (by rw [← hp]; omega)) hp)) | (refine' ⟨_, _, _, _, _, rfl, fr_eq (by k_asm) (head_eq rfl rfl), ?m4, hvs, ?m5⟩; (case m4 => exact Nat.le_antisymm hic (Nat.not_lt.mp fun h => absurd ((place_le hf hl1 hl24).mpr h) (by rw [← hp]; omega))); (case m5 => k_asm)))))
  k_with "StepEnd" => (k_dflt ((try dsimp only); (refine' StepEnd.next _ (fr_eq (by k_asm) (head_eq rfl rfl)) ?w1 ?w2 ⟨⟨_, rfl⟩, ?w3, _, _, _, ⟨_, ?w4⟩, ?w5, rfl⟩); (case w5 => (rw [marksTo_succ, hl9]; exact hvs)); (case w4 => assumption); (case w1 => exact cb_drop (by k_asm) (by ktr_unf)); (case w2 => (simp only [LCg.Off1, and_true]; exact off)); (case w3 => exact fun x => hb7 (hb8 (hb9 x)))))
  k_with "call builtin:list.append" => (k_dflt ((refine' append_K ?qa ?qb ?qc ?_ ?qz); (case qa => k_asm); (case qb => k_asm); (case qc => k_upd); (case qz => exact app_room hvs hf hl1 hleast hi9); (intro h' F' N'); (simp only [List.push_toArray] at N')))
  k_with "call builtin:sorted" => (k_dflt ((refine' kso_sorted ?qa ?qb ?qc hvs ?qd ?_); (case qa => k_asm); (case qb => k_asm); (case qc => is_list); (case qd => (have hz2 := marksTo_len hf hleast f.toNat (by omega); omega)); (intro D' v' n' c' h' F' N' l1 i' e' p' o' b')))
  k_with "newList" => (k_dflt ((k_here); (refine' newList_K ?k1 ?k2 ?_); (case k1 => k_asm); (case k2 => k_asm); (k_whole); (intro l' h' F' N' l1); (have l1w := l1); (try k_lt l1); (try k_sweep)))
  refine wpAny_call ?_
  k_dflt (refine' code_defC ?k1 ?k2 ?k3 ?k4 ?k5 ?kA ?kF ?kK ?k6 ?k7 ?k8 ?k9 ?kB ?kD ?_ ?c2 ?c3 ?c4; (case kA => exact rfl); (case kF => exact rfl); (case kK => assumption); (case k1 => k_asm); (case k2 => k_asm); (case k3 => k_asm); (case k4 => k_asm); (case k5 => k_asm); (case k6 => k_is); (case k7 => k_is); (case k8 => ktr_room); (case k9 => exact BindsTo.of_eq rfl); (case kB => exact rfl); (case kD => decide +kernel); (case c2 => exact rfl); (case c3 => exact rfl); (case c4 => exact rfl); k_whole; intro g' L' h' tk' cells' FG' F' N' Y' B' X' T' l1; (have l1z : ∀ p ∈ news, p.1 < L' := fun p hp => l1 p (by first | exact hp | exact .tail _ hp | exact .tail _ (.tail _ hp) | exact .tail _ (.tail _ (.tail _ hp)))); (try k_lt l1); (have hY := CellsAre.three Y'; obtain ⟨o1, o2, o3, hE, d1, d2, d3⟩ := hY; subst hE; clear Y'); (try simp only [List.cons_append, List.nil_append] at N'); (try dsimp only); (try k_lift B'); (try k_fold))
  k_steps
  all_goals first | exact hret _ _ _ _ _ _ _ i' p' o' (by k_asm) (cb_drop (by k_asm) (by ktr_unf)) (allLt_of fun p hp => l1 p (by ktn_open)) hb9
theorem repl_arr (x : Value) : ∀ (n : Nat) (acc : Array Value), List.foldl (fun x1 x2 => x1 ++ x2) acc (List.replicate n #[x]) = acc ++ (List.replicate n x).toArray
  | 0, acc => by simp
  | n + 1, acc => by
    rw [List.replicate_succ, List.foldl_cons, repl_arr x n, List.replicate_succ]
    apply Array.ext'; simp
theorem repl_ints (f : Int) (t : Tok) : ∀ n, IntsAre (List.replicate n (.int f t)) (List.replicate n f)
  | 0 => .nil
  | n + 1 => by rw [List.replicate_succ, List.replicate_succ]; exact .cons _ _ (repl_ints f t n)
theorem news_pick8 {h₀ h : Heap} {L : Addr} {x1 x2 x3 x4 x5 x6 x7 x8 x9 x10 : Addr × Obj} {rest : List (Addr × Obj)} (N : News h₀ L h (x1 :: x2 :: x3 :: x4 :: x5 :: x6 :: x7 :: x8 :: x9 :: x10 :: rest)) : News h₀ L h (x10 :: x9 :: rest) := fun p hp => by
  rcases List.mem_cons.mp hp with rfl | hp
  · exact N _ (.tail _ (.tail _ (.tail _ (.tail _ (.tail _ (.tail _ (.tail _ (.tail _ (.tail _ (.head _))))))))))
  · rcases List.mem_cons.mp hp with rfl | hp
    · exact N _ (.tail _ (.tail _ (.tail _ (.tail _ (.tail _ (.tail _ (.tail _ (.tail _ (.head _)))))))))
    · exact N _ (.tail _ (.tail _ (.tail _ (.tail _ (.tail _ (.tail _ (.tail _ (.tail _ (.tail _ (.tail _ hp))))))))))
section
variable {prog : Program} {w : World} {A : Around} {E : Value → Shared → Prop} {s : Shared} {h₀ : Heap} {L : Addr} {m : Str → Option Value} {news : List (Addr × Obj)}
theorem mul_led {l : Addr} {f x : Int} {t u : Tok} {k : Nat} {Q : Value → Shared → Prop} (F : Fr h₀ L s.heap m) (N : News h₀ L s.heap news) (hm : (l, listOf #[.int f t] k) ∈ news) (hx : 0 ≤ x ∧ x ≤ 1000)
    (h : ∀ D vs h', Fr h₀ L h' m → News h₀ L h' ((D, listOf (List.toArray vs) 0) :: news) → (∀ p ∈ news, p.1 < D) → IntsAre vs (List.replicate x.toNat f) → Q (.ref D) { s with heap := h' }) :
    wpAny (model prog w) A (binaryOp .Mult (.ref l) (.int x u)) Q E s := by
  refine mul_list F N (N _ hm).1 (by omega) (by omega) (by simp; omega) fun h' F' N' => ?_
  have e : List.foldl (fun x1 x2 => x1 ++ x2) #[] (List.replicate (if (#[Value.int f t] : Array Value).isEmpty = true then 0 else x.toNat) #[Value.int f t]) = (List.replicate x.toNat (Value.int f t)).toArray := by
    rw [if_neg (by simp), repl_arr]; simp
  refine h s.heap.objs.size (List.replicate x.toNat (Value.int f t)) h' F' ?_ (fun p hp => Heap.lt_size (N p hp).1) (repl_ints f t _)
  rw [e] at N'
  exact N'
end
theorem cnt_eq {l f : Int} : cntOf l f = ((24 - l).fdiv f).toNat + 1 := rfl
theorem ruler_plain {l f : Int} (hf : f = 3 ∨ f = 4) (h1 : 1 ≤ l) (h24 : l ≤ 24) : ∀ i, i < cntOf l f → ([l] ++ List.replicate ((24 - l).fdiv f).toNat f ++ [127, 1])[i]? = some (outOf l f i) ∧ outOf l f i ≠ 127 ∧ outOf l f i ≠ 0 := by
  intro i hi
  rw [cnt_eq] at hi
  cases i with
  | zero => exact ⟨rfl, by show l ≠ 127; omega, by show l ≠ 0; omega⟩
  | succ i =>
    refine ⟨?_, by show f ≠ 127; omega, by show f ≠ 0; omega⟩
    show (List.replicate ((24 - l).fdiv f).toNat f ++ [127, 1])[i]? = some f
    rw [List.getElem?_append_left (by simp; omega), List.getElem?_replicate, if_pos (by omega)]
theorem ruler_end {l f : Int} : ([l] ++ List.replicate ((24 - l).fdiv f).toNat f ++ [127, 1])[cntOf l f]? = some 127 := by
  rw [cnt_eq]
  show (List.replicate ((24 - l).fdiv f).toNat f ++ [127, 1])[((24 - l).fdiv f).toNat]? = some 127
  rw [List.getElem?_append_right (by simp)]; simp
set_option maxRecDepth 100000 in
set_option maxHeartbeats 8000000 in
theorem marks_ctrT {lp : Addr} {bs : List Bool} {np : Nat} {f : Int} {tf : Tok} {w : World} {mean : ExcName → Option Value} {mg mb : Str → Option Value} {dp un : Nat} {gd : Option (List Code)} {cn : Str} {cs : Scope} {a : Addr} {ccd : Value} {cl : List (Str × Addr)} {outer : List Env} {A₀ : Around} {base h₀ : Heap} {L : Addr} {m : Str → Option Value} {news : List (Addr × Obj)} {s : Shared} {Q E : Value → Shared → Prop}
   (B : Below A₀ base outer h₀) (F : Fr h₀ L s.heap m) (X : (hd.heap_39 w.params).In h₀) (N : News h₀ L s.heap ((lp, listOf (bs.map Value.bool).toArray np) :: news)) (T : TopH mean mg mb h₀) (hk : cs.kind = .function)
   (hbs : bs.length = 25) (hf : f = 3 ∨ f = 4) (hleast : ∀ r : Nat, (r : Int) < f → ∃ l tl, leastOf bs f (0 + (r : Int)) = l :: tl ∧ 1 ≤ l ∧ l ≤ 24) (hdp : dp + 4 < recursionLimit) (_hun : un + 200 < cLine)
   (hret : ∀ vs' ns' n l' h' tk' g', IntsAre vs' ns' → ns'.Perm (marksTo bs f f.toNat) → ns'.Pairwise (· ≤ ·) → Fr h₀ L h' m → News h₀ L h' ((l', listOf vs'.toArray n) :: (lp, listOf (bs.map Value.bool).toArray np) :: news) → AllLt l' ((lp, listOf (bs.map Value.bool).toArray np) :: news) → (AllBare s.gens → AllBare g') → Q (.ref l') { s with heap := h', toks := tk', gens := g' }) :
   wpAny (model PySem.Challenge.rw_sw0038_01.row.prog w) (ktrTop dp un gd cn cs L a ccd cl outer) (call (.ref 86) [.ref lp, .int f tf, .bool true]) Q E s := by
  k_with_none
  k_with "execs cons" => (with_reducible refine toks_step (fun tk0 => ?_))
  w_top off
  revert X; k_fill; intro X
  k_with "exec For Name Call cons nil" => (k_here; k_dflt (refine For_R (by k_asm) ?_))
  k_with "exec For Name Call cons nil" => (k_here; (with_reducible show wpAny _ _ (exec (Stmt.For _ (Expr.Call (Expr.Name (Str.ofString "_grouping_intervals") _) _ _ _) _ _ _) _) _ _ _); k_dflt (refine For_G (by k_asm) ?_))
  k_with "RLoop" => (k_dflt ((refine' marks_loop (f := f) (wr := true) bs ?qh ?qF ?qN ?qo ?qr hf ?q1 ?q2 ?_ ?_); (case qh => rfl); (case qF => k_asm); (case qN => k_asm); (case qo => exact ⟨_, d1⟩); (case qr => assumption); (case q1 => rfl); (case q2 => rfl); (all_goals (first | (intro i mm g₁ o1 vs k I oI h tk t' hi9 ho1 hvs hb9 off F N; simp only [LCg.Off1, and_true] at off; have gI := neNat off.1.symm; have gJ := neNat off.2.1.symm; obtain ⟨v9, ho1⟩ := ho1) | (intro mm o1 vs k h tk g' hvs hb9 F N)))))

  k_with "eval ListComp" => (k_here; k_dflt (refine LCt.ListComp_T (F₀ := by k_asm) (by with_unfolding_all rfl) (by decide) (by rfl) (by decide) (by rfl) ?_))
  k_with "CompSrcT" => (k_dflt ((refine' LCt.CompSrcT.range (n := 24) ?qh ?qF ?qN ?qr ?qs ?qt ?qz ?_); (case qh => rfl); (case qF => k_asm); (case qN => k_asm); (case qr => assumption); (case qs => decide); (case qt => decide); (case qz => exact Nat.le_of_ble_eq_true rfl); (intro g'); (refine' compT_inv (fun j ys => IntsAre ys ((((List.range 24).map fun (k : Nat) => 1 + (k : Int)).take j).filter fun n => decide (n.fmod f = (0 + (i : Int))) && bs.getD n.toNat false)) _ trivial ?q0 ?_ ?_); (case q0 => exact IntsAre.nil); (all_goals (first | (intro j ys v I2 oI2 C oC D m₂ h tk hj hR hP hC hx F N off2 ne; obtain ⟨t8, rfl⟩ := hP; have hc := rng_at hj) | (intro ys hys; replace hys := least_take hys; obtain ⟨l, tl, hl9, hl1, hl24⟩ := hleast i hi9; rw [hl9] at hys; obtain ⟨t7, ys', rfl, hys'⟩ := IntsAre.cons_inv hys)))))
  k_with "subscriptTail Name Name ref int" => (k_dflt ((refine' item_led ?qa ?qb ?qc ?qd ?qe ?_); (case qa => k_asm); (case qb => ktn_open); (case qc => omega); (case qd => omega); (case qe => exact bools_at (by rw [hbs]; omega))))
  k_with "Exists" => (k_dflt ((refine ⟨_, _, rfl, by k_asm, by k_asm, ?_⟩); (first | exact ints_skip hR hc (by simp_all) | exact ints_keep hR hc (by simp_all))))
  k_with "call ref" => (k_dflt ((with_reducible show wpAny _ _ (call (Value.ref 50) _) _ _ _); (refine' gi_ctr (its := [l] ++ List.replicate ((24 - l).fdiv f).toNat f ++ [127, 1]) (Nn := cntOf l f) (c := cntOf l f) (fin := True) (out := outOf l f) ?qB ?qF ?qX ?qN ?qT ?qK ?qi ?qp ?qe ?qd ?qu ?_); (case qB => k_asm); (case qF => k_asm); (case qX => k_asm); (case qN => k_asm); (case qT => k_asm); (case qK => rfl); (case qi => assumption); (case qp => exact ruler_plain hf hl1 hl24); (case qe => exact .inl ⟨trivial, rfl, ruler_end⟩); (case qd => ktr_room); (case qu => ktr_units); (intro Lg h' tk' g' m0 F' N' hlt hLL st9 hb8)))
  k_with "GLoop" => (k_dflt ((refine' marks_gloop (wr := true) (l := l) (f := f) st9 (gi_for ?qh ?qr F' ?qL hLL (hlt _ (.head _)) (N' _ (.head _)).2.2 (N' _ (.head _)).2.1) ?qL2 ?qF (news_pick8 N') hvs (off_own (fun p hp => hlt p ?qo1) (fun p hp => l1w p ?qo2)) hf hl1 hl24 (.inl ⟨rfl, rfl, trivial⟩) ?_ ?_); (case qh => rfl); (case qr => ktr_room); (case qL => exact TopRead.nolimit (topRead_of (by k_asm))); (case qL2 => exact TopRead.nolimit (topRead_of (by k_asm))); (case qF => exact fr_eq F' (place_eq rfl rfl rfl)); (case qo1 => (rcases List.mem_cons.mp hp with rfl | hp; ktn_open; rcases List.mem_cons.mp hp with rfl | hp; ktn_open; ktn_open)); (case qo2 => (rcases List.mem_cons.mp hp with rfl | hp; ktn_open; rcases List.mem_cons.mp hp with rfl | hp; ktn_open; ktn_open)); (all_goals (first | (intro i2 p t tp vs k mm g₁ h tk oa o1 o2 o3 hiN hic hp hp0 hvs offG F N; simp only [List.mem_cons, List.not_mem_nil, or_false, forall_eq_or_imp, forall_eq, LCg.Off1, and_true] at offG; have gA := neNat offG.1.1.symm; have gB := neNat offG.2.1.1.symm; have gC := neNat offG.2.2.1.1.symm; have gD := neNat offG.2.2.2.1.symm; refine wpAny_assign_Name ?_) | (intro mm vs k h tk g' hvs hb7 F N)))))
  k_with "MEnd" => (k_dflt ((try dsimp only); (unfold MEnd; dsimp only); (first | (refine' ⟨_, _, _, _, _, _, rfl, fr_eq (by k_asm) (place_eq (by rw [← hp]; rfl) rfl rfl), ?m1, ?m2, ?m3⟩; (case m3 => exact N'); (case m1 => first | exact hiN | exact (place_le (i := i2) hf hl1 hl24).mp (by rw [← hp]; omega)); (case m2 => exact places_snoc hvs (by first | exact hiN | exact (place_le (i := i2) hf hl1 hl24).mp (by rw [← hp]; omega)) hp)) | (refine' ⟨_, _, _, _, _, rfl, fr_eq (by k_asm) (head_eq rfl rfl), ?m4, hvs, ?m5⟩; (case m4 => exact Nat.le_antisymm hic (Nat.not_lt.mp fun h => absurd ((place_le hf hl1 hl24).mpr h) (by rw [← hp]; omega))); (case m5 => k_asm)))))
  k_with "StepEnd" => (k_dflt ((try dsimp only); (refine' StepEnd.next _ (fr_eq (by k_asm) (head_eq rfl rfl)) ?w1 ?w2 ⟨⟨_, rfl⟩, ?w3, _, _, _, ⟨_, ?w4⟩, ?w5, rfl⟩); (case w5 => (rw [marksTo_succ, hl9]; exact hvs)); (case w4 => assumption); (case w1 => exact cb_drop (by k_asm) (by ktr_unf)); (case w2 => (simp only [LCg.Off1, and_true]; exact off)); (case w3 => exact fun x => hb7 (hb8 (hb9 x)))))
  k_with "binaryOp FloorDiv int int" => (k_dflt ((refine floordiv_int (f34_small hf).1 ?_ (Or.inl (PyProof.noPylong_small (f34_small hf).2)))))
  k_with "binaryOp Mult ref int" => (k_dflt ((refine' mul_led ?qF ?qN ?qm ?qx ?_); (case qF => k_asm); (case qN => k_asm); (case qm => ktn_open); (case qx => (simp only [Int.toNat_zero, List.getD_cons_zero]; have hz := cnt_small (l := l) hf hl1; rw [cnt_eq] at hz; have hz2 : 0 ≤ (24 - l).fdiv f := (by rcases hf with rfl | rfl <;> exact Int.fdiv_nonneg (by omega) (by decide)); omega)); (intro D' ws' h' F' N' l1 hI')))
  k_with "binaryOp Add ref ref" => (k_dflt ((refine' kmk_add_ints ?qF ?qN ?qa ?qb ?qi ?qj ?_ ?qz); (case qF => k_asm); (case qN => k_asm); (case qa => kmk_list); (case qb => kmk_list); (case qi => first | assumption | exact .cons _ _ .nil | exact .cons _ _ (.cons _ _ .nil)); (case qj => first | assumption | exact .cons _ _ .nil | exact .cons _ _ (.cons _ _ .nil)); (case qz => (simp only [Int.toNat_zero, List.getD_cons_zero, List.length_append, List.length_cons, List.length_nil, List.length_replicate, sizeLine_eq]; have hz := cnt_small (l := l) hf hl1; rw [cnt_eq] at hz; omega)); (intro D' ws' h' F' N' l1 hI'); (have l1w := l1)))
  k_with "call builtin:list.append" => (k_dflt ((refine' append_K ?qa ?qb ?qc ?_ ?qz); (case qa => k_asm); (case qb => k_asm); (case qc => k_upd); (case qz => exact app_room hvs hf hl1 hleast hi9); (intro h' F' N'); (simp only [List.push_toArray] at N')))
  k_with "call builtin:sorted" => (k_dflt ((refine' kso_sorted ?qa ?qb ?qc hvs ?qd ?_); (case qa => k_asm); (case qb => k_asm); (case qc => is_list); (case qd => (have hz2 := marksTo_len hf hleast f.toNat (by omega); omega)); (intro D' v' n' c' h' F' N' l1 i' e' p' o' b')))
  k_with "newList" => (k_dflt ((k_here); (refine' newList_K ?k1 ?k2 ?_); (case k1 => k_asm); (case k2 => k_asm); (k_whole); (intro l' h' F' N' l1); (have l1w := l1); (try k_lt l1); (try k_sweep)))
  refine wpAny_call ?_
  k_dflt (refine' code_defC ?k1 ?k2 ?k3 ?k4 ?k5 ?kA ?kF ?kK ?k6 ?k7 ?k8 ?k9 ?kB ?kD ?_ ?c2 ?c3 ?c4; (case kA => exact rfl); (case kF => exact rfl); (case kK => assumption); (case k1 => k_asm); (case k2 => k_asm); (case k3 => k_asm); (case k4 => k_asm); (case k5 => k_asm); (case k6 => k_is); (case k7 => k_is); (case k8 => ktr_room); (case k9 => exact BindsTo.of_eq rfl); (case kB => exact rfl); (case kD => decide +kernel); (case c2 => exact rfl); (case c3 => exact rfl); (case c4 => exact rfl); k_whole; intro g' L' h' tk' cells' FG' F' N' Y' B' X' T' l1; (have l1z : ∀ p ∈ news, p.1 < L' := fun p hp => l1 p (by first | exact hp | exact .tail _ hp | exact .tail _ (.tail _ hp) | exact .tail _ (.tail _ (.tail _ hp)))); (try k_lt l1); (have hY := CellsAre.three Y'; obtain ⟨o1, o2, o3, hE, d1, d2, d3⟩ := hY; subst hE; clear Y'); (try simp only [List.cons_append, List.nil_append] at N'); (try dsimp only); (try k_lift B'); (try k_fold))
  k_steps
  all_goals first | exact hret _ _ _ _ _ _ _ i' p' o' (by k_asm) (cb_drop (by k_asm) (by ktr_unf)) (allLt_of fun p hp => l1 p (by ktn_open)) hb9
/-- what _iter_escaped_chars yields from position i on, e: is the sign ahead a backslash -/
noncomputable def escOf : Nat → Bool → List Nat → List (Nat × List Nat)
  | _, _, [] => []
  | i, true, c :: t => (i, [92, c]) :: escOf (i + 1) false t
  | i, false, c :: t => if c = 92 then escOf (i + 1) true t else (i, [c]) :: escOf (i + 1) false t
noncomputable def escEnd : Bool → List Nat → Bool
  | e, [] => e
  | true, _ :: t => escEnd false t
  | false, c :: t => escEnd (decide (c = 92)) t
abbrev escM (m : Str → Option Value) (e : Bool) : Str → Option Value := fun y => if y = Str.ofString "escape" then some (.bool e) else m y
noncomputable def isPair (st : List Nat) : Bool := match st with | [_, _] => true | _ => false
noncomputable def escP (all : List (Nat × List Nat)) : Nat → Value → Heap → Prop := fun i v h => ∃ p st T t u, all[i]? = some (p, st) ∧ v = .ref T ∧ h.get? T = some { cls := .type "tuple", data := .seq #[.int (p : Int) t, .str ⟨st.toArray⟩ u] }
noncomputable def escH (h₀ : Heap) (Lg : Addr) (m0 : Str → Option Value) (x : Str) (t : Tok) (all : List (Nat × List Nat)) : Nat → Heap → Prop
  | 0, h => h.objs.size = Lg + 2 ∧ Fr h₀ Lg h m0
  | k + 1, h => ∃ p st mm old, all[k]? = some (p, st) ∧ Fr h₀ Lg h (escM mm (isPair st)) ∧ IsEnum h (Lg + 3) (Lg + 2) ((p + 1 : Nat) : Int) old ∧ h.IsStrIter (Lg + 2) "str_ascii_iterator" x t (p + 1)
theorem enum_str_at {prog : Program} {w : World} {A : Around} {E : Value → Shared → Prop} {s : Shared} {x : Str} {t : Tok} {Lg : Addr} {Q : Value → Shared → Prop} (hs : strIterType x = "str_ascii_iterator") (e : s.heap.objs.size = Lg + 2)
    (h : ∀ h', IsEnum h' (Lg + 3) (Lg + 2) 0 .none → h'.IsStrIter (Lg + 2) "str_ascii_iterator" x t 0 → (∀ b o, s.heap.get? b = some o → h'.get? b = some o) → Q (.ref (Lg + 3)) { s with heap := h' }) :
    wpAny (model prog w) A (call (.type "enumerate") [.str x t]) Q E s := by
  refine call_enumerate_str fun h' he hi hz hk => ?_
  rw [e, hs] at hi
  rw [e] at he
  rw [e]
  exact h h' he hi hk
theorem seg_esc {M : Model} {A : Around} {R : GenEnd} {Y : Protocol} {code : Code} {tree : Sem PySem.Fin} {fs : List Frame} (Inv : Nat → Bool → List Nat → Shared → Shared → Prop)
    (step : ∀ i e l, (∀ c t e', l = c :: t → ∀ s₀ s₂, Inv (i + 1) e' t s₀ s₂ → Seg M A R Y (escOf (i + 1) e' t).length s₀ code tree fs s₂) → ∀ s₀ s₂, Inv i e l s₀ s₂ → Seg M A R Y (escOf i e l).length s₀ code tree fs s₂) :
    ∀ l i e s₀ s₂, Inv i e l s₀ s₂ → Seg M A R Y (escOf i e l).length s₀ code tree fs s₂ := by
  intro l
  induction l with
  | nil => intro i e s₀ s₂ h; exact step i e [] (fun c t e' q => by cases q) s₀ s₂ h
  | cons c t ih => intro i e s₀ s₂ h; exact step i e (c :: t) (fun c' t' e' q s₀ s₂ h => by cases q; exact ih _ _ _ _ h) s₀ s₂ h
theorem add32_ne (Lg : Addr) : Lg + 3 ≠ Lg + 2 := Nat.ne_of_gt (Nat.lt_succ_self _)
theorem add3_ne (Lg : Addr) : Lg + 3 ≠ Lg := Nat.ne_of_gt (Nat.lt_add_of_pos_right (by decide))
theorem escM_set {e : Bool} {y : Str → Option Value} (h : y (Str.ofString "escape") = some (.bool e)) : ∀ z, y z = escM y e z := by
  intro z; unfold escM; split
  · next q => rw [q]; exact h
  · rfl
set_option maxRecDepth 100000 in
set_option maxHeartbeats 8000000 in
theorem esc_ctr {x : Str} {t : Tok} {w : World} {mean : ExcName → Option Value} {mg mb : Str → Option Value} {dp un : Nat} {gd : Option (List Code)} {cn : Str} {cs : Scope} {a : Addr} {ccd : Value} {cl : List (Str × Addr)} {outer : List Env} {A₀ : Around} {base h₀ : Heap} {L : Addr} {m : Str → Option Value} {news : List (Addr × Obj)} {s : Shared} {Q E : Value → Shared → Prop}
   (B : Below A₀ base outer h₀) (F : Fr h₀ L s.heap m) (X : (hd.heap_39 w.params).In h₀) (N : News h₀ L s.heap news) (T : TopH mean mg mb h₀) (hk : cs.kind = .function)
   (hasc : strIterType x = "str_ascii_iterator") (hend : escEnd false x.cps.toList = false)
   (hdp : dp + 3 < recursionLimit) (_hun : un + 100 < cLine)
   (hret : ∀ Lg h' tk' g' (m0 : Str → Option Value), Fr h₀ L h' m → News h₀ L h' news → (∀ p ∈ news, p.1 < Lg) → L < Lg → 
      GSt (model PySem.Challenge.rw_sw0038_01.row.prog w).prog w (ktrTop dp un gd cn cs L a ccd cl outer) [Lg, Lg + 2, Lg + 3] (escOf 0 false x.cps.toList).length True (escP (escOf 0 false x.cps.toList)) (escH h₀ Lg m0 x t (escOf 0 false x.cps.toList)) (Lg + 1) s.gens.size 0 { s with heap := h', toks := tk', gens := g' } → (AllBare s.gens → AllBare g') →
      Q (.ref (Lg + 1)) { s with heap := h', toks := tk', gens := g' }) :
   wpAny (model PySem.Challenge.rw_sw0038_01.row.prog w) (ktrTop dp un gd cn cs L a ccd cl outer) (call (.ref 21) [.str x t]) Q E s := by
  k_with_none
  k_with "execs cons" => (with_reducible refine toks_step (fun tk0 => ?_))
  w_top off
  revert X; k_fill; intro X
  k_with "call type:enumerate" => (refine enum_str_at hasc hsz2 fun h₃ he₃ hit₃ hk₃ => ?_)
  k_with "newTuple" => (refine wpAny_newTuple ?_)
  k_with "pyIter ref" => (refine wpAny_pyIter_enum he₃ ?_)
  k_dflt (refine' gen_def (F) (X) (N) (TopRead.nolimit (topRead_of T)) ?q1 ?q2 ?q3 ?q4 ?q5 ?q6 ?q7 ?q8 ?q9 ?q10)
  case q1 => k_is
  case q2 => k_is
  case q3 => ktr_room
  case q4 => rfl
  case q5 => exact locs rfl
  case q7 => rfl
  case q8 => rfl
  case q9 => rfl
  case q10 => decide
  intro Lg h' tk' hLg hLL F' N' Fg Ng hgen hlt
  refine hret Lg h' tk' _ _ F' N' hlt hLL ⟨hgen, ⟨hLg, Fg⟩, (TopRead.nolimit (topRead_of T)).keeps F'.keep, _, Array.getElem?_push_size .., fun hor s'' hH => ⟨rfl, ?_⟩⟩ (fun hb => AllBare.push hb rfl)
  clear F F' N' Fg Ng hgen hlt hret N B hor
  obtain ⟨hsz, F1⟩ := hH
  clear hLg
  have z2 : h₀.get? (Lg + 2) = none := Heap.get?_none_of_le (Nat.le_trans F1.above (Nat.le_add_right _ _))
  have z3 : h₀.get? (Lg + 3) = none := Heap.get?_none_of_le (Nat.le_trans F1.above (Nat.le_add_right _ _))
  generalize hall : escOf 0 false x.cps.toList = all
  refine seg_func ?_
  refine seg_execs_cons ?_
  refine seg_stmt ?_
  walk1
  walk1
  refine wpAny_storeName_local (by rfl) F1.ns (fun h₁ hn₁ hs₁ => ?_) (by rfl)
  have F2 := F1.set hn₁ hs₁
  dsimp only
  refine seg_execs_cons ?_
  refine seg_stmt ?_
  walk1
  walk1
  refine wpAny_storeName_local (by rfl) F2.ns (fun h₂ hn₂ hs₂ => ?_) (by rfl)
  have F3 := F2.set hn₂ hs₂
  have hsz2 : h₂.objs.size = Lg + 2 := hs₂.1.trans (hs₁.1.trans hsz)
  dsimp only
  refine seg_execs_cons ?_
  refine seg_For ?_
  k_steps
  have hN : all.length - 0 = (escOf 0 false x.cps.toList).length := by rw [hall]; rfl
  rw [hN]
  refine seg_esc (fun i e l s₀ s₂ => x.cps.toList.drop i = l ∧ i + l.length = x.cps.size ∧ (∃ k, escOf i e l = all.drop k ∧ k ≤ all.length) ∧ escEnd e l = false ∧ ∃ mm old, Fr h₀ Lg s₂.heap (escM mm e) ∧ IsEnum s₂.heap (Lg + 3) (Lg + 2) (i : Int) old ∧ s₂.heap.IsStrIter (Lg + 2) "str_ascii_iterator" x t i ∧ GMv [Lg, Lg + 2, Lg + 3] s₀ s₂) ?_ x.cps.toList 0 false _ _ ?_
  rotate_left
  · refine ⟨rfl, by simp, ⟨0, hall, Nat.zero_le _⟩, hend, _, _, fr_eq (F3.keeps hk₃) (escM_set rfl), he₃, hit₃, ⟨fun b o hb e => hk₃ b o (same_own hs₂ (.head _) b o hb (same_own hs₁ (.head _) b o hb e)), rfl, rfl, rfl⟩⟩
  clear F1 F2 F3 hsz hsz2 hn₁ hs₁ hn₂ hs₂ he₃ hit₃ hk₃ hN
  rintro i e l IH s₀ s₂ ⟨hdrop, hlen, ⟨k, hk9, hkl⟩, hend9, mm, old, F4, he4, hit4, hgm⟩
  refine seg_forLoop ?_
  cases l with
  | nil =>
    obtain rfl : i = x.cps.size := by simpa using hlen
    refine wpAny_pyNext_enum_endD (Draws.strAscii rfl (Lg + 2) x t) he4 hit4 fun h' hx => ?_
    refine seg_block_nil fun _ => ?_
    refine seg_leaf (.ok .next) ?_
    obtain rfl : e = false := hend9
    have F5 : Fr h₀ Lg h' (escM mm false) := fr_own (own := [Lg + 2]) F4 (fun b o hb q => hx b o (by simpa using hb) q) (by simp [Ne.symm (add2_ne Lg)]) (by simpa using z2)
    have hgm5 : GMv [Lg, Lg + 2, Lg + 3] s₀ { s₂ with heap := h' } := gmv_heap hgm fun b o hb q => hx b o (by simp at hb; exact hb.2.1) q
    show Seg _ _ _ _ _ _ _ _ _ _
    dsimp only
    refine seg_execs_cons ?_
    refine seg_If ?_
    k_steps
    refine seg_execs_nil ?_
    dsimp only
    refine seg_execs_nil ?_
    dsimp only
    exact seg_end (.ok (.ret .none)) ⟨rfl, rfl, hgm5⟩
  | cons c tl =>
    have hlt : i < x.cps.size := by rw [← hlen]; simp
    have hcat : x.cps[i]? = some c := by
      have := congrArg List.head? hdrop
      rw [List.head?_drop] at this; simpa using this
    refine wpAny_pyNext_enum_itemD (Draws.strAscii rfl (Lg + 2) x t) he4 hit4 hlt (add32_ne Lg) (by simp [add32_ne]) ?_
    rintro v h5 tk ⟨c', u, hc, rfl⟩ ho5 hit5 ht5 hz5 hk5
    obtain rfl : c = c' := Option.some.inj (hcat.symm.trans hc)
    refine wpAny_letOwnedTupleGo_enum ho5 fun h6 he6 hs6 => ?_
    have zL : Lg < s₂.heap.objs.size := F4.ns.lt
    have z4 : Lg + 3 < s₂.heap.objs.size := Heap.lt_size he4
    have ht6 : h6.IsTuple s₂.heap.objs.size #[.int i tk, .str ⟨#[c]⟩ u] := ⟨_, (hs6.2 _ (Nat.ne_of_gt z4)).trans ht5, rfl, _, rfl⟩
    have hz6 : h6.objs.size = s₂.heap.objs.size + 1 := hs6.1.trans hz5
    refine wpAny_assign_Tuple rfl ht6 rfl rfl fun h7 hx7 => ?_
    replace hx7 : Heap.ExtBut h6.objs.size h6 h7 := hx7
    have up : ∀ b o, b < s₂.heap.objs.size → h6.get? b = some o → h7.get? b = some o := fun b o hb q => hx7 b o (by rw [hz6]; exact Nat.ne_of_lt (Nat.lt_succ_of_lt hb)) q
    have kp : ∀ b o, b ≠ Lg + 3 → b ≠ Lg + 2 → s₂.heap.get? b = some o → h7.get? b = some o := fun b o h3 h2 q => up b o (Heap.lt_size q) (hs6.extBut b o h3 (hk5 b o h3 h2 q))
    have F7 : Fr h₀ Lg h7 (escM mm e) := fr_own (own := [Lg + 3, Lg + 2]) F4 (fun b o hb q => by simp at hb; exact kp b o hb.1 hb.2 q) (by simp [Ne.symm (add2_ne Lg), Ne.symm (add3_ne Lg)]) (by simpa using ⟨z3, z2⟩)
    have he7 : IsEnum h7 (Lg + 3) (Lg + 2) ((i : Int) + 1) (.str ⟨#[c]⟩ u) := up _ _ z4 he6
    have hit7 : h7.IsStrIter (Lg + 2) "str_ascii_iterator" x t (i + 1) := by
      obtain ⟨o, ho, r⟩ := hit5
      exact ⟨o, up _ _ (Nat.lt_trans (Nat.lt_succ_self _) z4) (hs6.extBut _ _ (Ne.symm (add32_ne Lg)) ho), r⟩
    show wpAny _ _ (do holding [.str ⟨#[c]⟩ u] (assign (.Name _ _) _ (.int i tk)); do holding [] (assign (.Name _ _) _ (.str ⟨#[c]⟩ u)); pure ()) _ _ _
    refine wpAny_bind (wpAny_holding (wpAny_assign_Name (wpAny_storeName_local (by rfl) F7.ns (fun h₈ hn₈ hs₈ => ?_) (by rfl))))
    have F8 := F7.set hn₈ hs₈
    refine wpAny_bind (wpAny_holding (wpAny_assign_Name (wpAny_storeName_local (by rfl) F8.ns (fun h₉ hn₉ hs₉ => wpAny_pure ?_) (by rfl))))
    have F9 := F8.set hn₉ hs₉
    have he9 : IsEnum h₉ (Lg + 3) (Lg + 2) ((i + 1 : Nat) : Int) (.str ⟨#[c]⟩ u) := by
      have := hs₉.extBut _ _ (add3_ne Lg) (hs₈.extBut _ _ (add3_ne Lg) he7)
      rw [Int.natCast_succ]; exact this
    have hit9 : h₉.IsStrIter (Lg + 2) "str_ascii_iterator" x t (i + 1) := (hit7.extBut hs₈.extBut (add2_ne Lg)).extBut hs₉.extBut (add2_ne Lg)
    have hgm9 : GMv [Lg, Lg + 2, Lg + 3] s₀ { s₂ with heap := h₉, toks := tk + 1 } := gmv_heap hgm fun b o hb q => same_own hs₉ (.head _) b o hb (same_own hs₈ (.head _) b o hb (kp b o (fun q => hb (q ▸ by simp)) (fun q => hb (q ▸ by simp)) q))
    have N9 : News h₀ Lg h₉ [] := fun p hp => by cases hp
    have hdrop1 : x.cps.toList.drop (i + 1) = tl := by rw [← List.tail_drop, hdrop]; rfl
    have hlen1 : i + 1 + tl.length = x.cps.size := by rw [← hlen, List.length_cons]; omega
    clear F4 he4 hit4 hgm ho5 hit5 ht5 hz5 hk5 he6 hs6 ht6 hz6 hx7 up kp F7 he7 hit7 F8 hn₈ hs₈ hn₉ hs₉
    refine seg_execs_cons ?_
    refine seg_If ?_
    cases e with
    | true =>
      have hsl : Str.ofString "\\" ++ (⟨#[c]⟩ : Str) = ⟨#[92, c]⟩ := by rw [show Str.ofString "\\" = ⟨#[92]⟩ from by decide +kernel]; rfl
      have hse : escOf i true (c :: tl) = (i, [92, c]) :: escOf (i + 1) false tl := rfl
      k_steps
      refine seg_execs_cons ?_
      show Seg _ _ _ _ ((escOf (i + 1) false tl).length + 1) _ _ _ _ _
      refine seg_Expr_Yield (by rfl) (by rfl) (by rfl) ?_
      k_steps
      rename_i kap hkap
      have hkN : k + 1 + (escOf (i + 1) false tl).length = all.length := by
        have := congrArg List.length hk9
        rw [List.length_drop, hse, List.length_cons] at this; omega
      have e9 : all.length - (escOf (i + 1) false tl).length = k + 1 := by omega
      have e8 : all.length - 1 - (escOf (i + 1) false tl).length = k := by omega
      have hat : all[k]? = some (i, [92, c]) := by
        have := congrArg List.head? hk9
        rw [List.head?_drop, hse] at this; exact this.symm
      have hk1 : escOf (i + 1) false tl = all.drop (k + 1) := by
        have := congrArg List.tail hk9
        rw [List.tail_drop, hse] at this; exact this
      try simp only [hsl]
      refine ⟨⟨i, [92, c], h₉.objs.size, _, _, by rw [e8]; exact hat, rfl, Heap.get?_push_size _ rfl⟩, ⟨fun b o hb q => Heap.get?_push_of_some _ (hgm9.1 b o hb q), hgm9.2⟩, ?_, ?_⟩
      · rw [e9]
        exact ⟨i, [92, c], _, _, hat, fr_eq (F9.push _) (escM_set rfl), Heap.get?_push_of_some _ he9, by obtain ⟨o, ho, r⟩ := hit9; exact ⟨o, Heap.get?_push_of_some _ ho, r⟩⟩
      rw [e9]
      rintro hor4 s₅ ⟨p5, st5, mm5, old5, hat5, F5, he5, hit5⟩
      obtain ⟨rfl, rfl⟩ : i = p5 ∧ [92, c] = st5 := by rw [hat] at hat5; injection hat5 with q; injection q with q1 q2; exact ⟨q1, q2⟩
      refine hkap .none s₅ ?_
      show Seg _ _ _ _ _ _ _ _ _ _
      try dsimp only
      refine seg_execs_cons ?_
      refine seg_stmt ?_
      walk1
      walk1
      refine wpAny_storeName_local (by rfl) F5.ns (fun h₇ hn₇ hs₇ => ?_) (by rfl)
      have F7 := F5.set hn₇ hs₇
      dsimp only
      refine seg_execs_nil ?_
      dsimp only
      refine seg_again rfl ?_
      exact IH c tl false rfl _ _ ⟨hdrop1, hlen1, ⟨k + 1, hk1, by omega⟩, hend9, _, _, fr_eq F7 (escM_set rfl), hs₇.extBut _ _ (add3_ne Lg) he5, hit5.extBut hs₇.extBut (add2_ne Lg), ⟨fun b o hb e => same_own hs₇ (.head _) b o hb e, rfl, rfl, rfl⟩⟩
    | false =>
      by_cases hc92 : c = 92
      · subst hc92
        k_steps
        refine seg_execs_cons ?_
        refine seg_If ?_
        k_steps
        refine seg_execs_cons ?_
        refine seg_stmt ?_
        walk1
        walk1
        refine wpAny_storeName_local (by rfl) F9.ns (fun h₇ hn₇ hs₇ => ?_) (by rfl)
        have F7 := F9.set hn₇ hs₇
        dsimp only
        refine seg_execs_nil ?_
        dsimp only
        refine seg_execs_nil ?_
        dsimp only
        refine seg_again rfl ?_
        exact IH 92 tl true rfl _ _ ⟨hdrop1, hlen1, ⟨k, hk9, hkl⟩, hend9, _, _, fr_eq F7 (escM_set rfl), hs₇.extBut _ _ (add3_ne Lg) he9, hit9.extBut hs₇.extBut (add2_ne Lg), ⟨fun b o hb e => same_own hs₇ (.head _) b o hb (hgm9.1 b o hb e), hgm9.2⟩⟩
      · have hne : ((⟨#[c]⟩ : Str) == Str.ofString "\\") = false := by
          rw [show Str.ofString "\\" = ⟨#[92]⟩ from by decide +kernel, beq_eq_false_iff_ne]
          intro q; injection q with q; exact hc92 (by simpa using q)
        have hse : escOf i false (c :: tl) = (i, [c]) :: escOf (i + 1) false tl := if_neg hc92
        have hsl := hse
        have hend8 : escEnd false tl = false := by
          have q : escEnd (decide (c = 92)) tl = false := hend9
          rwa [decide_eq_false hc92] at q
        k_steps
        refine seg_execs_cons ?_
        refine seg_If ?_
        k_steps
        refine seg_execs_cons ?_
        rw [hse]
        show Seg _ _ _ _ ((escOf (i + 1) false tl).length + 1) _ _ _ _ _
        refine seg_Expr_Yield (by rfl) (by rfl) (by rfl) ?_
        k_steps
        rename_i kap hkap
        have hkN : k + 1 + (escOf (i + 1) false tl).length = all.length := by
          have := congrArg List.length hk9
          rw [List.length_drop, hse, List.length_cons] at this; omega
        have e9 : all.length - (escOf (i + 1) false tl).length = k + 1 := by omega
        have e8 : all.length - 1 - (escOf (i + 1) false tl).length = k := by omega
        have hat : all[k]? = some (i, [c]) := by
          have := congrArg List.head? hk9
          rw [List.head?_drop, hse] at this; exact this.symm
        have hk1 : escOf (i + 1) false tl = all.drop (k + 1) := by
          have := congrArg List.tail hk9
          rw [List.tail_drop, hse] at this; exact this
        try simp only [hsl]
        refine ⟨⟨i, [c], h₉.objs.size, _, _, by rw [e8]; exact hat, rfl, Heap.get?_push_size _ rfl⟩, ⟨fun b o hb q => Heap.get?_push_of_some _ (hgm9.1 b o hb q), hgm9.2⟩, ?_, ?_⟩
        · rw [e9]
          exact ⟨i, [c], _, _, hat, fr_eq (F9.push _) (escM_set rfl), Heap.get?_push_of_some _ he9, by obtain ⟨o, ho, r⟩ := hit9; exact ⟨o, Heap.get?_push_of_some _ ho, r⟩⟩
        rw [e9]
        rintro hor4 s₅ ⟨p5, st5, mm5, old5, hat5, F5, he5, hit5⟩
        obtain ⟨rfl, rfl⟩ : i = p5 ∧ [c] = st5 := by rw [hat] at hat5; injection hat5 with q; injection q with q1 q2; exact ⟨q1, q2⟩
        refine hkap .none s₅ ?_
        show Seg _ _ _ _ _ _ _ _ _ _
        try dsimp only
        refine seg_execs_nil ?_
        dsimp only
        refine seg_execs_nil ?_
        dsimp only
        refine seg_again rfl ?_
        exact IH c tl false rfl _ _ ⟨hdrop1, hlen1, ⟨k + 1, hk1, by omega⟩, hend8, _, _, F5, he5, hit5, gmv_refl⟩
section
variable {prog : Program} {w : World} {A : Around} {E : Value → Shared → Prop} {s : Shared} {h₀ : Heap} {L : Addr} {m : Str → Option Value} {env : Env}
theorem esc_for {Lg g : Nat} {x : Str} {t : Tok} {m0 : Str → Option Value} {all : List (Nat × List Nat)} {h : Heap}
    (hh : A.handled = none) (room : A.depth < recursionLimit) (F : Fr h₀ L h m) (hlim : h₀.NoLimit) (hLL : L < Lg) :
    GenFor prog w A h₀ L (Lg + 1) g [Lg, Lg + 2, Lg + 3] all.length True (escP all) (escH h₀ Lg m0 x t all) := by
  have hab : h₀.objs.size ≤ L := F.above
  have hcs : cStatics < h₀.objs.size := let ⟨_, hn, _⟩ := hlim; hn.lt
  have z : ∀ x : Nat, L < x → h₀.get? x = none := fun x hx => Heap.get?_none_of_le (Nat.le_trans hab (Nat.le_of_lt hx))
  have h0 : L < (Lg : Nat) := hLL
  have hc0 : (cStatics : Nat) < Lg := Nat.lt_of_lt_of_le hcs (Nat.le_trans hab (Nat.le_of_lt hLL))
  refine ⟨hh, room, ?_, ?_, ?_, ?_, z _ (Nat.lt_succ_of_lt hLL), ?_, ?_, ?_⟩
  · simp only [List.mem_cons, List.not_mem_nil, or_false]; rintro (h | h | h)
    · exact absurd h (Nat.succ_ne_self _)
    · exact absurd h (by have : (Lg : Nat) + 1 ≠ Lg + 2 := by omega
                         exact this)
    · exact absurd h (by have : (Lg : Nat) + 1 ≠ Lg + 3 := by omega
                         exact this)
  · simp only [List.mem_cons, List.not_mem_nil, or_false]; rintro (h | h | h)
    · exact absurd hc0 (by rw [h]; exact Nat.lt_irrefl _)
    · exact absurd hc0 (by rw [h]; exact Nat.not_lt.mpr (Nat.le_add_right _ _))
    · exact absurd hc0 (by rw [h]; exact Nat.not_lt.mpr (Nat.le_add_right _ _))
  · simp only [List.mem_cons, List.not_mem_nil, or_false]; rintro (h | h | h)
    · exact Nat.ne_of_lt h0 h
    · exact Nat.ne_of_lt (Nat.lt_of_lt_of_le h0 (Nat.le_add_right _ 2)) h
    · exact Nat.ne_of_lt (Nat.lt_of_lt_of_le h0 (Nat.le_add_right _ 3)) h
  · exact Nat.ne_of_gt (Nat.lt_succ_of_lt hLL)
  · intro x hx
    simp only [List.mem_cons, List.not_mem_nil, or_false] at hx
    rcases hx with rfl | rfl | rfl
    · exact z _ hLL
    · exact z _ (Nat.lt_of_lt_of_le hLL (Nat.le_add_right _ 2))
    · exact z _ (Nat.lt_of_lt_of_le hLL (Nat.le_add_right _ 3))
  · rintro (_ | i) h h' hi
    · exact absurd hi (Nat.lt_irrefl _)
    rintro ⟨p, st, mm, old, hat, Fh, he, hit⟩ hk hb
    obtain ⟨o, ho, r⟩ := hit
    exact ⟨p, st, mm, old, hat, ⟨Fh.ns.at' fun o e => hk _ (.head _) o e, hb, Fh.above⟩, hk _ (by simp) _ he, o, hk _ (by simp) _ ho, r⟩
  · rintro (_ | i) h hi
    · exact absurd hi (Nat.lt_irrefl _)
    rintro ⟨p, st, mm, old, hat, Fh, he, hit⟩
    obtain ⟨oL, _, _, hoL, _⟩ := Fh.ns
    obtain ⟨o, ho, r⟩ := hit
    obtain ⟨oE, hoE⟩ : ∃ o, h.get? (Lg + 3) = some o := ⟨_, he⟩
    refine ⟨[oL, o, oE], rfl, ?_⟩
    intro p hp
    simp only [List.zip_cons_cons, List.zip_nil_right, List.mem_cons, List.not_mem_nil, or_false] at hp
    rcases hp with rfl | rfl | rfl
    · exact hoL
    · exact ho
    · exact hoE
theorem pair_assign {e1 e2 : Str} {p1 p2 pos : Pos} {x1} {T : Addr} {v1 v2 : Value} {Q : Unit → Shared → Prop} (hh : A.handled = none) (hT : s.heap.get? T = some { cls := .type "tuple", data := .seq #[v1, v2] })
    (h : ∀ h', Heap.ExtBut s.heap.objs.size s.heap h' → wpAny (model prog w) A (storeName env e1 v1) (fun _ s₂ => wpAny (model prog w) A (storeName env e2 v2) Q E s₂) E { s with heap := h' }) :
    wpAny (model prog w) A (assign (.Tuple [.Name e1 p1, .Name e2 p2] x1 pos) env (.ref T)) Q E s := by
  refine wpAny_assign_Tuple hh (items := #[v1, v2]) ⟨_, hT, rfl, _, rfl⟩ rfl rfl fun h' hx => ?_
  show wpAny _ A (do holding [v2] (assign (.Name e1 p1) env v1); do holding [] (assign (.Name e2 p2) env v2); pure ()) _ _ _
  refine wpAny_bind (wpAny_holding (wpAny_assign_Name (wpAny_mono (h h' hx) (fun _ s₂ h₂ => ?_) fun _ _ e => e)))
  refine wpAny_bind (wpAny_holding (wpAny_assign_Name (wpAny_mono h₂ (fun _ s₃ h₃ => wpAny_pure h₃) fun _ _ e => e)))
theorem esc_gloop {e1 e2 : Str} {p1 p2 pos : Pos} {x1} {body : List Stmt} {Q : Flow → Shared → Prop} {Lg g : Nat} {x : Str} {t : Tok} {m0 : Str → Option Value} {all : List (Nat × List Nat)} {news : List (Addr × Obj)} (J : Nat → (Str → Option Value) → List (Addr × Obj) → Prop)
    (st : GSt prog w A [Lg, Lg + 2, Lg + 3] all.length True (escP all) (escH h₀ Lg m0 x t all) (Lg + 1) g 0 s)
    (gf : GenFor prog w A h₀ L (Lg + 1) g [Lg, Lg + 2, Lg + 3] all.length True (escP all) (escH h₀ Lg m0 x t all))
    (hlim : h₀.NoLimit) (F : Fr h₀ L s.heap m) (N : News h₀ L s.heap news) (off : ∀ x ∈ [Lg + 1, Lg, Lg + 2, Lg + 3], LCg.Off1 x news)
    (j0 : J 0 m news) (side : ∀ i m' news', J i m' news' → i ≤ all.length)
    (turn : ∀ i p st t u m₁ news₁ g₁ h tk oa o1 o2 o3, all[i]? = some (p, st) → J i m₁ news₁ → (AllBare s.gens → AllBare g₁) → (∀ q ∈ [(Lg + 1, oa), (Lg, o1), (Lg + 2, o2), (Lg + 3, o3)], LCg.Off1 q.1 news₁) →
      Fr h₀ L h m₁ → News h₀ L h ([(Lg + 1, oa), (Lg, o1), (Lg + 2, o2), (Lg + 3, o3)] ++ news₁) →
      wpAny (model prog w) A (storeName env e1 (.int (p : Nat) t)) (fun _ s₂ => wpAny (model prog w) A (storeName env e2 (.str ⟨List.toArray st⟩ u)) (fun _ s₃ => wpAny (model prog w) A (execs body env) (GEnd h₀ L { s with gens := g₁ } [(Lg + 1, oa), (Lg, o1), (Lg + 2, o2), (Lg + 3, o3)] (J (i + 1)) Q) (fun _ _ => False) s₃) (fun _ _ => False) s₂) (fun _ _ => False) { s with heap := h, toks := tk, gens := g₁ })
    (done : ∀ m' news' g' h tk, J all.length m' news' → (AllBare s.gens → AllBare g') → Fr h₀ L h m' → News h₀ L h news' → Q .next { s with heap := h, toks := tk, gens := g' }) :
    GLoop prog w A h₀ L env (.Tuple [.Name e1 p1, .Name e2 p2] x1 pos) body Q (.ref (Lg + 1)) s := by
  refine ⟨Lg + 1, g, _, _, _, _, _, m, news, J, rfl, gf, hlim, F, N, off, st, j0, fun i m' news' j => ⟨side i m' news' j, fun _ => trivial⟩, ?_, fun m' news' g' h tk j _ hb F' N' => done m' news' g' h tk j hb F' N'⟩
  rintro i v m₁ news₁ g₁ h tk oa os hi ⟨p, st9, T, t9, u9, hat, rfl, hT⟩ j hb hos off₁ F₁ N₁
  obtain ⟨o1, o2, o3, rfl⟩ := len3 hos
  refine pair_assign gf.handled hT fun h' hx => ?_
  have kp : ∀ b o, h.get? b = some o → h'.get? b = some o := fun b o q => hx b o (Nat.ne_of_lt (Heap.lt_size q)) q
  exact turn i p st9 t9 u9 m₁ news₁ g₁ h' tk oa o1 o2 o3 hat j hb off₁ (F₁.keeps kp) fun q hq => ⟨kp _ _ (N₁ q hq).1, (N₁ q hq).2⟩
end
/-- what the loop of _strip_quoted_realnames holds: start, the place of the open quotation mark, the texts -/
structure Strip where
  start : Int
  op : Option Int
  res : List Str
noncomputable def stripStep (x : Str) (S : Strip) (it : Nat × List Nat) : Strip :=
  if ((⟨List.toArray it.2⟩ : Str) == Str.ofString "\"") = true then
    match S.op with
    | none => { S with op := some (it.1 : Nat) }
    | some q => { start := (it.1 : Nat) + 1, op := none, res := if S.start = q then S.res else S.res ++ [Txt.slice x (some S.start) (some q)] }
  else S
noncomputable def stripTo (x : Str) (all : List (Nat × List Nat)) (i : Nat) : Strip := (all.take i).foldl (stripStep x) ⟨0, none, []⟩
theorem stripTo_succ {x : Str} {all : List (Nat × List Nat)} {i : Nat} {it} (h : all[i]? = some it) : stripTo x all (i + 1) = stripStep x (stripTo x all i) it := by
  unfold stripTo
  rw [List.take_add_one, h, List.foldl_append]; rfl
noncomputable def stripOf (x : Str) : Str :=
  if (Builtin.Str.occurrences x (Str.ofString "\"") 0 x.length 1).isEmpty = true then x else
    let all := escOf 0 false x.cps.toList
    let S := stripTo x all all.length
    Txt.join (Str.ofString "") (if S.start < (x.length : Int) then S.res ++ [Txt.slice x (some S.start) none] else S.res)
abbrev stripM (m : Str → Option Value) (lr : Addr) (x : Str) (tx : Tok) (a b : Value) : Str → Option Value := fun y =>
  if y = Str.ofString "start" then some a else if y = Str.ofString "open_pos" then some b else if y = Str.ofString "result" then some (.ref lr) else if y = Str.ofString "addr" then some (.str x tx) else m y
theorem stripM_eq {m : Str → Option Value} {lr : Addr} {x : Str} {tx : Tok} {a b : Value} (h1 : m (Str.ofString "start") = some a) (h2 : m (Str.ofString "open_pos") = some b) (h3 : m (Str.ofString "result") = some (.ref lr)) (h4 : m (Str.ofString "addr") = some (.str x tx)) :
    ∀ y, m y = stripM m lr x tx a b y := by
  intro y; unfold stripM
  split
  · next q => rw [q]; exact h1
  · split
    · next q => rw [q]; exact h2
    · split
      · next q => rw [q]; exact h3
      · split
        · next q => rw [q]; exact h4
        · rfl
noncomputable def opV (o : Option Int) (t : Tok) : Value := match o with | none => .none | some q => .int q t
theorem strs_snoc {vs : List Value} {ys : List Str} (h : StrsAre vs ys) (y : Str) (t : Tok) : StrsAre (vs ++ [.str y t]) (ys ++ [y]) := by
  induction h with
  | nil => exact .cons y t .nil
  | cons z u _ ih => exact .cons z u ih
theorem strs_len {vs : List Value} {ys : List Str} (h : StrsAre vs ys) : vs.length = ys.length := by
  induction h with
  | nil => rfl
  | cons _ _ _ ih => simp [ih]
noncomputable def StripJ (x : Str) (tx : Tok) (all : List (Nat × List Nat)) (lr : Addr) (rest : List (Addr × Obj)) (i : Nat) (m' : Str → Option Value) (news' : List (Addr × Obj)) : Prop :=
  i ≤ all.length ∧ ∃ mm t1 t2 vs k, m' = stripM mm lr x tx (.int (stripTo x all i).start t1) (opV (stripTo x all i).op t2) ∧ StrsAre vs (stripTo x all i).res ∧ news' = (lr, listOf vs.toArray k) :: rest
section
variable {prog : Program} {w : World} {A : Around} {E : Value → Shared → Prop} {s : Shared} {h₀ : Heap} {L : Addr} {m : Str → Option Value} {env : Env}
theorem strip_gloop {e1 e2 : Str} {p1 p2 pos : Pos} {x1} {body : List Stmt} {Q : Flow → Shared → Prop} {Lg g : Nat} {x : Str} {t : Tok} {m0 : Str → Option Value} {all : List (Nat × List Nat)} {rest : List (Addr × Obj)} {lr : Addr} {tx : Tok}
    (st : GSt prog w A [Lg, Lg + 2, Lg + 3] all.length True (escP all) (escH h₀ Lg m0 x t all) (Lg + 1) g 0 s)
    (gf : GenFor prog w A h₀ L (Lg + 1) g [Lg, Lg + 2, Lg + 3] all.length True (escP all) (escH h₀ Lg m0 x t all))
    (hlim : h₀.NoLimit) {t1 : Tok} (F : Fr h₀ L s.heap (stripM m lr x tx (.int 0 t1) .none)) {k0 : Nat} (N : News h₀ L s.heap ((lr, listOf #[] k0) :: rest)) (hlt : ∀ p ∈ (lr, listOf #[] k0) :: rest, p.1 < Lg)
    (turn : ∀ i p st t u S o t1 t2 vs k mm g₁ h tk oa o1 o2 o3, all[i]? = some (p, st) → stripTo x all i = S → S.op = o → StrsAre vs S.res → (AllBare s.gens → AllBare g₁) →
      (∀ q ∈ [(Lg + 1, oa), (Lg, o1), (Lg + 2, o2), (Lg + 3, o3)], (@Ne Nat lr q.1) ∧ LCg.Off1 q.1 rest) →
      Fr h₀ L h (stripM mm lr x tx (.int S.start t1) (opV o t2)) → News h₀ L h ((Lg + 1, oa) :: (Lg, o1) :: (Lg + 2, o2) :: (Lg + 3, o3) :: (lr, listOf vs.toArray k) :: rest) →
      wpAny (model prog w) A (storeName env e1 (.int (p : Nat) t)) (fun _ s₂ => wpAny (model prog w) A (storeName env e2 (.str ⟨List.toArray st⟩ u)) (fun _ s₃ => wpAny (model prog w) A (execs body env) (GEnd h₀ L { s with gens := g₁ } [(Lg + 1, oa), (Lg, o1), (Lg + 2, o2), (Lg + 3, o3)] (StripJ x tx all lr rest (i + 1)) Q) (fun _ _ => False) s₃) (fun _ _ => False) s₂) (fun _ _ => False) { s with heap := h, toks := tk, gens := g₁ })
    (done : ∀ mm t1 t2 vs k S g' h tk, stripTo x all all.length = S → StrsAre vs S.res → (AllBare s.gens → AllBare g') → Fr h₀ L h (stripM mm lr x tx (.int S.start t1) (opV S.op t2)) → News h₀ L h ((lr, listOf vs.toArray k) :: rest) → Q .next { s with heap := h, toks := tk, gens := g' }) :
    GLoop prog w A h₀ L env (.Tuple [.Name e1 p1, .Name e2 p2] x1 pos) body Q (.ref (Lg + 1)) s := by
  have big : ∀ y : Nat, Lg ≤ y → LCg.Off1 y ((lr, listOf #[] k0) :: rest) := fun y hy => ⟨Nat.ne_of_lt (Nat.lt_of_lt_of_le (hlt _ (.head _)) hy), off1_of fun p hp => Nat.ne_of_lt (Nat.lt_of_lt_of_le (hlt p (.tail _ hp)) hy)⟩
  refine esc_gloop (StripJ x tx all lr rest) st gf hlim F N ?_ ⟨Nat.zero_le _, m, t1, 0, [], k0, rfl, .nil, rfl⟩ (fun _ _ _ j => j.1) ?_ ?_
  · intro y hy
    simp only [List.mem_cons, List.not_mem_nil, or_false] at hy
    rcases hy with rfl | rfl | rfl | rfl
    · exact big _ (Nat.le_succ _)
    · exact big _ (Nat.le_refl _)
    · exact big _ (Nat.le_add_right _ _)
    · exact big _ (Nat.le_add_right _ _)
  · rintro i p st9 t9 u9 m₁ news₁ g₁ h tk oa o1 o2 o3 hat ⟨hi, mm, t1, t2, vs, k, rfl, hvs, rfl⟩ hb off F₁ N₁
    exact turn i p st9 t9 u9 _ _ t1 t2 vs k mm g₁ h tk oa o1 o2 o3 hat rfl rfl hvs hb off F₁ N₁
  · rintro m' news' g' h tk ⟨_, mm, t1, t2, vs, k, rfl, hvs, rfl⟩ hb F' N'
    exact done mm t1 t2 vs k _ g' h tk rfl hvs hb F' N'
theorem strip_end {p : Nat} {st : List Nat} {x : Str} {tx t1 t2 : Tok} {all : List (Nat × List Nat)} {i : Nat} {S' : Strip} {h' : Heap} {m' : Str → Option Value} {lr : Addr} {Lg : Nat} {oa o1 o2 o3 : Obj} {vs : List Value} {k tk' : Nat} {rest : List (Addr × Obj)} {Q : Flow → Shared → Prop}
    (hat : all[i]? = some (p, st)) (he : stripTo x all (i + 1) = S') (F : Fr h₀ L h' m')
    (h1 : m' (Str.ofString "start") = some (.int S'.start t1)) (h2 : m' (Str.ofString "open_pos") = some (opV S'.op t2)) (h3 : m' (Str.ofString "result") = some (.ref lr)) (h4 : m' (Str.ofString "addr") = some (.str x tx))
    (N : News h₀ L h' ((Lg + 1, oa) :: (Lg, o1) :: (Lg + 2, o2) :: (Lg + 3, o3) :: (lr, listOf vs.toArray k) :: rest))
    (off : (@Ne Nat lr (Lg + 1) ∧ LCg.Off1 (Lg + 1) rest) ∧ (@Ne Nat lr Lg ∧ LCg.Off1 Lg rest) ∧ (@Ne Nat lr (Lg + 2) ∧ LCg.Off1 (Lg + 2) rest) ∧ @Ne Nat lr (Lg + 3) ∧ LCg.Off1 (Lg + 3) rest) (hvs : StrsAre vs S'.res) :
    GEnd h₀ L s [(Lg + 1, oa), (Lg, o1), (Lg + 2, o2), (Lg + 3, o3)] (StripJ x tx all lr rest (i + 1)) Q .next { s with heap := h', toks := tk' } := by
  refine GEnd.next _ (fr_eq F (stripM_eq h1 h2 h3 h4)) N (fun q hq => ?_) ⟨(List.getElem?_eq_some_iff.mp hat).1, _, _, _, _, _, by rw [he], by rw [he]; exact hvs, rfl⟩
  simp only [List.mem_cons, List.not_mem_nil, or_false] at hq
  rcases hq with rfl | rfl | rfl | rfl
  · exact off.1
  · exact off.2.1
  · exact off.2.2.1
  · exact off.2.2.2
theorem step_skip {x : Str} {all : List (Nat × List Nat)} {i p : Nat} {st : List Nat} {S : Strip} (hat : all[i]? = some (p, st)) (hS : stripTo x all i = S) (h : ((⟨List.toArray st⟩ : Str) == Str.ofString "\"") = false) : stripTo x all (i + 1) = S := by
  rw [stripTo_succ hat, hS]; unfold stripStep; rw [if_neg (by rw [h]; decide)]
theorem step_open {x : Str} {all : List (Nat × List Nat)} {i p : Nat} {st : List Nat} {S : Strip} (hat : all[i]? = some (p, st)) (hS : stripTo x all i = S) (h : ((⟨List.toArray st⟩ : Str) == Str.ofString "\"") = true) (ho : S.op = none) : stripTo x all (i + 1) = ⟨S.start, some (p : Nat), S.res⟩ := by
  rw [stripTo_succ hat, hS]; unfold stripStep; rw [if_pos h, ho]
theorem step_same {x : Str} {all : List (Nat × List Nat)} {i p : Nat} {st : List Nat} {S : Strip} {q : Int} (hat : all[i]? = some (p, st)) (hS : stripTo x all i = S) (h : ((⟨List.toArray st⟩ : Str) == Str.ofString "\"") = true) (ho : S.op = some q) (e : S.start = q) : stripTo x all (i + 1) = ⟨(p : Nat) + 1, none, S.res⟩ := by
  rw [stripTo_succ hat, hS]; unfold stripStep; rw [if_pos h, ho]; simp only [if_pos e]
theorem step_piece {x : Str} {all : List (Nat × List Nat)} {i p : Nat} {st : List Nat} {S : Strip} {q : Int} (hat : all[i]? = some (p, st)) (hS : stripTo x all i = S) (h : ((⟨List.toArray st⟩ : Str) == Str.ofString "\"") = true) (ho : S.op = some q) (e : S.start ≠ q) : stripTo x all (i + 1) = ⟨(p : Nat) + 1, none, S.res ++ [Txt.slice x (some S.start) (some q)]⟩ := by
  rw [stripTo_succ hat, hS]; unfold stripStep; rw [if_pos h, ho]; simp only [if_neg e]
theorem escOf_len : ∀ (l : List Nat) (i : Nat) (e : Bool), (escOf i e l).length ≤ l.length
  | [], _, _ => Nat.le_refl _
  | c :: t, i, true => Nat.succ_le_succ (escOf_len t (i + 1) false)
  | c :: t, i, false => by
    unfold escOf; split
    · exact Nat.le_succ_of_le (escOf_len t (i + 1) true)
    · exact Nat.succ_le_succ (escOf_len t (i + 1) false)
theorem strip_fold (x : Str) : ∀ (l : List (Nat × List Nat)) (S : Strip), (∀ y ∈ S.res, y.length ≤ x.length) → (l.foldl (stripStep x) S).res.length ≤ S.res.length + l.length ∧ ∀ y ∈ (l.foldl (stripStep x) S).res, y.length ≤ x.length
  | [], S, h => ⟨Nat.le_refl _, h⟩
  | it :: l, S, h => by
    have h1 : (stripStep x S it).res.length ≤ S.res.length + 1 ∧ ∀ y ∈ (stripStep x S it).res, y.length ≤ x.length := by
      unfold stripStep
      split
      · split
        · exact ⟨Nat.le_succ _, h⟩
        · dsimp only; split
          · exact ⟨Nat.le_succ _, h⟩
          · refine ⟨by simp, fun y hy => ?_⟩
            rcases List.mem_append.mp hy with hy | hy
            · exact h y hy
            · rw [List.mem_singleton.mp hy]; exact Txt.slice_le x _ _
      · exact ⟨Nat.le_succ _, h⟩
    have ih := strip_fold x l (stripStep x S it) h1.2
    exact ⟨by rw [List.foldl_cons, List.length_cons]; omega, ih.2⟩
theorem stripTo_bound {x : Str} {j : Nat} {S : Strip} (hS : stripTo x (escOf 0 false x.cps.toList) j = S) : S.res.length ≤ x.length ∧ ∀ y ∈ S.res, y.length ≤ x.length := by
  have h := strip_fold x ((escOf 0 false x.cps.toList).take j) ⟨0, none, []⟩ (fun y hy => by cases hy)
  rw [show List.foldl (stripStep x) ⟨0, none, []⟩ ((escOf 0 false x.cps.toList).take j) = S from hS] at h
  refine ⟨Nat.le_trans h.1 ?_, h.2⟩
  have h1 := escOf_len x.cps.toList 0 false
  have h2 : x.cps.toList.length = x.length := by simp [Str.length]
  rw [List.length_take, List.length_nil]; omega
theorem strip_room {x : Str} {j : Nat} {S : Strip} {vs : List Value} (hS : stripTo x (escOf 0 false x.cps.toList) j = S) (hlen : x.length ≤ 1000) (hvs : StrsAre vs S.res) : vs.toArray.size ≤ sizeLine := by
  rw [List.size_toArray, strs_len hvs, sizeLine_eq]
  have := (stripTo_bound hS).1
  omega
theorem sum_le {l : List Str} {B : Nat} (h : ∀ y ∈ l, y.length ≤ B) : (l.map (·.length)).sum ≤ l.length * B := by
  induction l with
  | nil => exact Nat.le_of_eq (by simp)
  | cons a l ih =>
    have h1 := ih (fun y hy => h y (.tail _ hy))
    have h2 := h a (.head _)
    rw [List.map_cons, List.sum_cons, List.length_cons, Nat.add_mul, Nat.one_mul]; omega
theorem weight_of {l : List Str} (h1 : l.length ≤ 1001) (h2 : ∀ y ∈ l, y.length ≤ 1000) : (l.map (·.length)).sum + l.length ≤ 1048576 := by
  have h := sum_le h2
  have : l.length * 1000 ≤ 1001 * 1000 := Nat.mul_le_mul_right _ h1
  omega
theorem strip_weight {x : Str} {j : Nat} {S : Strip} (hS : stripTo x (escOf 0 false x.cps.toList) j = S) (hlen : x.length ≤ 1000) : (S.res.map (·.length)).sum + S.res.length ≤ 1048576 := by
  have h := stripTo_bound hS
  exact weight_of (by omega) fun y hy => Nat.le_trans (h.2 y hy) hlen
theorem strip_weight2 {x : Str} {j : Nat} {S : Strip} {a b : Option Int} (hS : stripTo x (escOf 0 false x.cps.toList) j = S) (hlen : x.length ≤ 1000) : ((S.res ++ [Txt.slice x a b]).map (·.length)).sum + (S.res ++ [Txt.slice x a b]).length ≤ 1048576 := by
  have h := stripTo_bound hS
  refine weight_of (by rw [List.length_append, List.length_singleton]; omega) fun y hy => ?_
  rcases List.mem_append.mp hy with hy | hy
  · exact Nat.le_trans (h.2 y hy) hlen
  · rw [List.mem_singleton.mp hy]; exact Nat.le_trans (Txt.slice_le x _ _) hlen
theorem stripOf_plain {x : Str} (h : (Builtin.Str.occurrences x (Str.ofString "\"") 0 x.length 1).isEmpty = true) : stripOf x = x := if_pos h
theorem stripOf_more {x : Str} {S : Strip} (h : ¬ (Builtin.Str.occurrences x (Str.ofString "\"") 0 x.length 1).isEmpty = true) (hS : stripTo x (escOf 0 false x.cps.toList) (escOf 0 false x.cps.toList).length = S) (hlt : S.start < (x.length : Int)) :
    stripOf x = Txt.join (Str.ofString "") (S.res ++ [Txt.slice x (some S.start) none]) := by
  unfold stripOf; rw [if_neg h]; dsimp only; rw [hS, if_pos hlt]
theorem stripOf_less {x : Str} {S : Strip} (h : ¬ (Builtin.Str.occurrences x (Str.ofString "\"") 0 x.length 1).isEmpty = true) (hS : stripTo x (escOf 0 false x.cps.toList) (escOf 0 false x.cps.toList).length = S) (hlt : ¬ S.start < (x.length : Int)) :
    stripOf x = Txt.join (Str.ofString "") S.res := by
  unfold stripOf; rw [if_neg h]; dsimp only; rw [hS, if_neg hlt]
end
set_option maxRecDepth 100000 in
set_option maxHeartbeats 8000000 in
theorem strip_ctr {x : Str} {t : Tok} {w : World} {mean : ExcName → Option Value} {mg mb : Str → Option Value} {dp un : Nat} {gd : Option (List Code)} {cn : Str} {cs : Scope} {a : Addr} {ccd : Value} {cl : List (Str × Addr)} {outer : List Env} {A₀ : Around} {base h₀ : Heap} {L : Addr} {m : Str → Option Value} {news : List (Addr × Obj)} {s : Shared} {Q E : Value → Shared → Prop}
   (B : Below A₀ base outer h₀) (F : Fr h₀ L s.heap m) (X : (hd.heap_39 w.params).In h₀) (N : News h₀ L s.heap news) (T : TopH mean mg mb h₀) (hk : cs.kind = .function)
   (hasc : strIterType x = "str_ascii_iterator") (hend : escEnd false x.cps.toList = false) (hlen : x.length ≤ 1000)
   (hdp : dp + 4 < recursionLimit) (_hun : un + 200 < cLine)
   (hret : ∀ h' t' tk' g', Fr h₀ L h' m → News h₀ L h' news → (AllBare s.gens → AllBare g') → Q (.str (stripOf x) t') { s with heap := h', toks := tk', gens := g' }) :
   wpAny (model PySem.Challenge.rw_sw0038_01.row.prog w) (ktrTop dp un gd cn cs L a ccd cl outer) (call (.ref 28) [.str x t]) Q E s := by
  have hret2 : ∀ y h' t' tk' g', stripOf x = y → Fr h₀ L h' m → News h₀ L h' news → (AllBare s.gens → AllBare g') → Q (.str y t') { s with heap := h', toks := tk', gens := g' } := fun y h' t' tk' g' e => e ▸ hret h' t' tk' g'
  clear hret
  k_with_none
  k_with "execs cons" => (with_reducible refine toks_step (fun tk0 => ?_))
  w_top off
  revert X; k_fill; intro X
  k_with "exec For Tuple Call cons nil" => (k_dflt ((k_here); (refine For_G (by k_asm) ?_)))
  k_with "call ref" => (k_dflt ((with_reducible show wpAny _ _ (call (Value.ref 21) _) _ _ _); (refine' esc_ctr ?qB ?qF ?qX ?qN ?qT ?qK hasc hend ?qd ?qu ?_); (case qB => k_asm); (case qF => k_asm); (case qX => k_asm); (case qN => k_asm); (case qT => k_asm); (case qK => rfl); (case qd => ktr_room); (case qu => ktr_units); (intro Lg h' tk' g' m0 F' N' hlt hLL st9 hb8)))
  k_with "GLoop" => (k_dflt ((refine' strip_gloop st9 (esc_for ?qh ?qr F' ?qL hLL) ?qL2 (fr_eq F' (stripM_eq rfl rfl rfl rfl)) N' hlt ?_ ?_); (case qh => rfl); (case qr => ktr_room); (case qL => exact TopRead.nolimit (topRead_of (by k_asm))); (case qL2 => exact TopRead.nolimit (topRead_of (by k_asm))); (all_goals (first | (intro i p st t5 u5 S o t1 t2 vs k mm g₁ h tk oa o1 o2 o3 hat hS ho hvs hb9 off F N; simp only [List.mem_cons, List.not_mem_nil, or_false, forall_eq_or_imp, forall_eq, and_true] at off; have gA := neNat off.1.1.symm; have gB := neNat off.2.1.1.symm; have gC := neNat off.2.2.1.1.symm; have gD := neNat off.2.2.2.1.symm; cases o) | (intro mm t1 t2 vs k S g' h tk hS hvs hb9 F N))); (all_goals (try (unfold opV at F; dsimp only at F))); (all_goals (try dsimp only))))
  k_with "GEnd" => (k_dflt ((first | exact strip_end (t2 := 0) hat (step_skip hat hS (by assumption)) (by k_asm) rfl (by rw [ho]; rfl) rfl rfl (by k_asm) off hvs | exact strip_end hat (step_skip hat hS (by assumption)) (by k_asm) rfl (by rw [ho]; rfl) rfl rfl (by k_asm) off hvs | exact strip_end (t2 := _) hat (step_open hat hS (by assumption) ho) (by k_asm) rfl rfl rfl rfl (by k_asm) off hvs | exact strip_end (t2 := 0) hat (step_same hat hS (by assumption) ho (by assumption)) (by k_asm) rfl rfl rfl rfl (by k_asm) off hvs | exact strip_end (t2 := 0) hat (step_piece hat hS (by assumption) ho (by assumption)) (by k_asm) rfl rfl rfl rfl (by k_asm) off (strs_snoc hvs _ _))))
  k_with "call builtin:list.append" => (k_dflt ((refine' append_K ?qa ?qb ?qc ?_ ?qz); (case qa => k_asm); (case qb => k_asm); (case qc => k_upd); (case qz => exact strip_room hS hlen hvs); (intro h' F' N'); (simp only [List.push_toArray] at N')))
  k_with "call builtin:str.join" => (k_dflt ((refine' join_listW ?qa ?qb ?qc ?qd ?_); (case qa => is_list); (case qb => first | exact hvs | exact strs_snoc hvs _ _); (case qc => decide); (case qd => first | exact strip_weight hS hlen | exact strip_weight2 hS hlen); (intro t9 k9)))
  refine wpAny_call ?_
  k_dflt cell_enter
  k_steps
  all_goals first
    | exact hret2 _ _ _ _ _ (stripOf_plain (by assumption)) (by k_asm) (by k_asm) id
    | exact hret2 _ _ _ _ _ (stripOf_more (by simp_all) hS (by assumption)) (by k_asm) (cb_drop (by k_asm) (by ktr_unf)) (fun z => hb9 (hb8 z))
    | exact hret2 _ _ _ _ _ (stripOf_less (by simp_all) hS (by assumption)) (by k_asm) (cb_drop (by k_asm) (by ktr_unf)) (fun z => hb9 (hb8 z))
noncomputable def chkL : List (Nat × List Nat) → Int → Bool
  | [], o => decide (o = 0)
  | it :: t, o => if ((⟨List.toArray it.2⟩ : Str) == Str.ofString "(") = true then chkL t (o + 1) else if ((⟨List.toArray it.2⟩ : Str) == Str.ofString ")") = true then (if o - 1 < 0 then false else chkL t (o - 1)) else chkL t o
noncomputable def chkOf (x : Str) : Bool := chkL (escOf 0 false (stripOf x).cps.toList) 0
abbrev chkM (m : Str → Option Value) (a : Value) : Str → Option Value := fun y => if y = Str.ofString "opens" then some a else m y
theorem chkM_eq {m : Str → Option Value} {a : Value} (h1 : m (Str.ofString "opens") = some a) : ∀ y, m y = chkM m a y := by
  intro y; unfold chkM
  split
  · next q => rw [q]; exact h1
  · rfl
noncomputable def ChkJ (all : List (Nat × List Nat)) (rest : List (Addr × Obj)) (i : Nat) (m' : Str → Option Value) (news' : List (Addr × Obj)) : Prop :=
  i ≤ all.length ∧ news' = rest ∧ ∃ mm o t1, m' = chkM mm (.int o t1) ∧ chkL all 0 = chkL (all.drop i) o
section
variable {prog : Program} {w : World} {A : Around} {E : Value → Shared → Prop} {s : Shared} {h₀ : Heap} {L : Addr} {m : Str → Option Value} {env : Env}
theorem chk_gloop {e1 e2 : Str} {p1 p2 pos : Pos} {x1} {body : List Stmt} {Q : Flow → Shared → Prop} {Lg g : Nat} {x : Str} {t : Tok} {m0 : Str → Option Value} {all : List (Nat × List Nat)} {rest : List (Addr × Obj)}
    (st : GSt prog w A [Lg, Lg + 2, Lg + 3] all.length True (escP all) (escH h₀ Lg m0 x t all) (Lg + 1) g 0 s)
    (gf : GenFor prog w A h₀ L (Lg + 1) g [Lg, Lg + 2, Lg + 3] all.length True (escP all) (escH h₀ Lg m0 x t all))
    (hlim : h₀.NoLimit) {t1 : Tok} (F : Fr h₀ L s.heap (chkM m (.int 0 t1))) (N : News h₀ L s.heap rest) (hlt : ∀ p ∈ rest, p.1 < Lg)
    (turn : ∀ i p st t u o t1 mm g₁ h tk oa o1 o2 o3, all[i]? = some (p, st) → chkL all 0 = chkL ((p, st) :: all.drop (i + 1)) o → (AllBare s.gens → AllBare g₁) →
      (LCg.Off1 (Lg + 1) rest ∧ LCg.Off1 Lg rest ∧ LCg.Off1 (Lg + 2) rest ∧ LCg.Off1 (Lg + 3) rest) →
      Fr h₀ L h (chkM mm (.int o t1)) → News h₀ L h ((Lg + 1, oa) :: (Lg, o1) :: (Lg + 2, o2) :: (Lg + 3, o3) :: rest) →
      wpAny (model prog w) A (storeName env e1 (.int (p : Nat) t)) (fun _ s₂ => wpAny (model prog w) A (storeName env e2 (.str ⟨List.toArray st⟩ u)) (fun _ s₃ => wpAny (model prog w) A (execs body env) (GEnd h₀ L { s with gens := g₁ } [(Lg + 1, oa), (Lg, o1), (Lg + 2, o2), (Lg + 3, o3)] (ChkJ all rest (i + 1)) Q) (fun _ _ => False) s₃) (fun _ _ => False) s₂) (fun _ _ => False) { s with heap := h, toks := tk, gens := g₁ })
    (done : ∀ mm o t1 g' h tk, chkL all 0 = decide (o = 0) → (AllBare s.gens → AllBare g') → Fr h₀ L h (chkM mm (.int o t1)) → News h₀ L h rest → Q .next { s with heap := h, toks := tk, gens := g' }) :
    GLoop prog w A h₀ L env (.Tuple [.Name e1 p1, .Name e2 p2] x1 pos) body Q (.ref (Lg + 1)) s := by
  have big : ∀ y : Nat, Lg ≤ y → LCg.Off1 y rest := fun y hy => off1_of fun p hp => Nat.ne_of_lt (Nat.lt_of_lt_of_le (hlt p hp) hy)
  refine esc_gloop (ChkJ all rest) st gf hlim F N ?_ ⟨Nat.zero_le _, rfl, m, 0, t1, rfl, rfl⟩ (fun _ _ _ j => j.1) ?_ ?_
  · intro y hy
    simp only [List.mem_cons, List.not_mem_nil, or_false] at hy
    rcases hy with rfl | rfl | rfl | rfl
    · exact big _ (Nat.le_succ _)
    · exact big _ (Nat.le_refl _)
    · exact big _ (Nat.le_add_right _ _)
    · exact big _ (Nat.le_add_right _ _)
  · rintro i p st9 t9 u9 m₁ news₁ g₁ h tk oa o1 o2 o3 hat ⟨hi, rfl, mm, o, t1, rfl, hc⟩ hb off F₁ N₁
    refine turn i p st9 t9 u9 o t1 mm g₁ h tk oa o1 o2 o3 hat ?_ hb ⟨off _ (.head _), off _ (.tail _ (.head _)), off _ (.tail _ (.tail _ (.head _))), off _ (.tail _ (.tail _ (.tail _ (.head _))))⟩ F₁ N₁
    obtain ⟨hlt9, e9⟩ := List.getElem?_eq_some_iff.mp hat
    rw [hc, List.drop_eq_getElem_cons hlt9, e9]
  · rintro m' news' g' h tk ⟨_, rfl, mm, o, t1, rfl, hc⟩ hb F' N'
    refine done mm o t1 g' h tk ?_ hb F' N'
    rw [hc, List.drop_length]; rfl
theorem chk_end {p : Nat} {st : List Nat} {t1 : Tok} {o : Int} {all : List (Nat × List Nat)} {i : Nat} {h' : Heap} {m' : Str → Option Value} {Lg : Nat} {oa o1 o2 o3 : Obj} {tk' : Nat} {rest : List (Addr × Obj)} {Q : Flow → Shared → Prop}
    (hat : all[i]? = some (p, st)) (hc : chkL all 0 = chkL (all.drop (i + 1)) o) (F : Fr h₀ L h' m')
    (h1 : m' (Str.ofString "opens") = some (.int o t1))
    (N : News h₀ L h' ((Lg + 1, oa) :: (Lg, o1) :: (Lg + 2, o2) :: (Lg + 3, o3) :: rest))
    (off : LCg.Off1 (Lg + 1) rest ∧ LCg.Off1 Lg rest ∧ LCg.Off1 (Lg + 2) rest ∧ LCg.Off1 (Lg + 3) rest) :
    GEnd h₀ L s [(Lg + 1, oa), (Lg, o1), (Lg + 2, o2), (Lg + 3, o3)] (ChkJ all rest (i + 1)) Q .next { s with heap := h', toks := tk' } := by
  refine GEnd.next _ (fr_eq F (chkM_eq h1)) N (fun q hq => ?_) ⟨(List.getElem?_eq_some_iff.mp hat).1, rfl, _, _, _, rfl, hc⟩
  simp only [List.mem_cons, List.not_mem_nil, or_false] at hq
  rcases hq with rfl | rfl | rfl | rfl
  · exact off.1
  · exact off.2.1
  · exact off.2.2.1
  · exact off.2.2.2
theorem chk_open {p : Nat} {st : List Nat} {o : Int} {r : Bool} {t : List (Nat × List Nat)} (hc : r = chkL ((p, st) :: t) o) (h : ((⟨List.toArray st⟩ : Str) == Str.ofString "(") = true) : r = chkL t (o + 1) := by
  rw [hc]; conv => lhs; unfold chkL
  rw [if_pos h]
theorem chk_close {p : Nat} {st : List Nat} {o : Int} {r : Bool} {t : List (Nat × List Nat)} (hc : r = chkL ((p, st) :: t) o) (h : ((⟨List.toArray st⟩ : Str) == Str.ofString "(") = false) (h2 : ((⟨List.toArray st⟩ : Str) == Str.ofString ")") = true) (ho : ¬ o - 1 < 0) : r = chkL t (o - 1) := by
  rw [hc]; conv => lhs; unfold chkL
  rw [if_neg (by rw [h]; decide), if_pos h2, if_neg ho]
theorem chk_fail {p : Nat} {st : List Nat} {o : Int} {r : Bool} {t : List (Nat × List Nat)} (hc : r = chkL ((p, st) :: t) o) (h : ((⟨List.toArray st⟩ : Str) == Str.ofString "(") = false) (h2 : ((⟨List.toArray st⟩ : Str) == Str.ofString ")") = true) (ho : o - 1 < 0) : r = false := by
  rw [hc]; unfold chkL
  rw [if_neg (by rw [h]; decide), if_pos h2, if_pos ho]
theorem chk_skip {p : Nat} {st : List Nat} {o : Int} {r : Bool} {t : List (Nat × List Nat)} (hc : r = chkL ((p, st) :: t) o) (h : ((⟨List.toArray st⟩ : Str) == Str.ofString "(") = false) (h2 : ((⟨List.toArray st⟩ : Str) == Str.ofString ")") = false) : r = chkL t o := by
  rw [hc]; conv => lhs; unfold chkL
  rw [if_neg (by rw [h]; decide), if_neg (by rw [h2]; decide)]
end
set_option maxRecDepth 100000 in
set_option maxHeartbeats 8000000 in
theorem check_ctr {x : Str} {t : Tok} {w : World} {mean : ExcName → Option Value} {mg mb : Str → Option Value} {dp un : Nat} {gd : Option (List Code)} {cn : Str} {cs : Scope} {a : Addr} {ccd : Value} {cl : List (Str × Addr)} {outer : List Env} {A₀ : Around} {base h₀ : Heap} {L : Addr} {m : Str → Option Value} {news : List (Addr × Obj)} {s : Shared} {Q E : Value → Shared → Prop}
   (B : Below A₀ base outer h₀) (F : Fr h₀ L s.heap m) (X : (hd.heap_39 w.params).In h₀) (N : News h₀ L s.heap news) (T : TopH mean mg mb h₀) (hk : cs.kind = .function)
   (hasc : strIterType x = "str_ascii_iterator") (hend : escEnd false x.cps.toList = false) (hlen : x.length ≤ 1000)
   (hasc2 : strIterType (stripOf x) = "str_ascii_iterator") (hend2 : escEnd false (stripOf x).cps.toList = false)
   (hdp : dp + 5 < recursionLimit) (_hun : un + 300 < cLine)
   (hret : ∀ h' tk' g', Fr h₀ L h' m → News h₀ L h' news → (AllBare s.gens → AllBare g') → Q (.bool (chkOf x)) { s with heap := h', toks := tk', gens := g' }) :
   wpAny (model PySem.Challenge.rw_sw0038_01.row.prog w) (ktrTop dp un gd cn cs L a ccd cl outer) (call (.ref 35) [.str x t]) Q E s := by
  have hret2 : ∀ y h' tk' g', chkOf x = y → Fr h₀ L h' m → News h₀ L h' news → (AllBare s.gens → AllBare g') → Q (.bool y) { s with heap := h', toks := tk', gens := g' } := fun y h' tk' g' e => e ▸ hret h' tk' g'
  clear hret
  k_with_none
  k_with "execs cons" => (with_reducible refine toks_step (fun tk0 => ?_))
  w_top off
  revert X; k_fill; intro X
  k_with "exec For Tuple Call cons nil" => (k_dflt ((k_here); (refine For_G (by k_asm) ?_)))
  k_with "call ref" => (k_dflt ((with_reducible show wpAny _ _ (call (Value.ref 28) _) _ _ _); (refine' strip_ctr ?qB ?qF ?qX ?qN ?qT ?qK hasc hend hlen ?qd ?qu ?_); (case qB => k_asm); (case qF => k_asm); (case qX => k_asm); (case qN => k_asm); (case qT => k_asm); (case qK => rfl); (case qd => ktr_room); (case qu => ktr_units); (intro h' t' tk' g' F' N' hb7)))
  k_with "call ref" => (k_dflt ((with_reducible show wpAny _ _ (call (Value.ref 21) _) _ _ _); (refine' esc_ctr ?qB ?qF ?qX ?qN ?qT ?qK hasc2 hend2 ?qd ?qu ?_); (case qB => k_asm); (case qF => k_asm); (case qX => k_asm); (case qN => k_asm); (case qT => k_asm); (case qK => rfl); (case qd => ktr_room); (case qu => ktr_units); (intro Lg h' tk' g' m0 F' N' hlt hLL st9 hb8)))
  k_with "GLoop" => (k_dflt ((refine' chk_gloop st9 (esc_for ?qh ?qr F' ?qL hLL) ?qL2 (fr_eq F' (chkM_eq rfl)) N' hlt ?_ ?_); (case qh => rfl); (case qr => ktr_room); (case qL => exact TopRead.nolimit (topRead_of (by k_asm))); (case qL2 => exact TopRead.nolimit (topRead_of (by k_asm))); (all_goals (first | (intro i p st t5 u5 o t1 mm g₁ h tk oa o1 o2 o3 hat hc hb9 off F N) | (intro mm o t1 g' h tk hc hb9 F N))); (all_goals (try dsimp only))))
  k_with "GEnd" => (k_dflt ((first | exact chk_end hat (chk_open hc (by assumption)) (by k_asm) rfl (by k_asm) off | exact chk_end hat (chk_close hc (by assumption) (by assumption) (by assumption)) (by k_asm) rfl (by k_asm) off | exact chk_end hat (chk_skip hc (by assumption) (by assumption)) (by k_asm) rfl (by k_asm) off | (show GEnd _ _ _ _ _ _ (Flow.ret _) _; unfold GEnd; dsimp only))))
  refine wpAny_call ?_
  k_dflt cell_enter
  k_steps
  all_goals first
    | exact hret2 _ _ _ _ (chk_fail hc (by assumption) (by assumption) (by assumption)) (by k_asm) (cb_drop (by k_asm) (by ktr_unf)) (fun z => hb9 (hb8 (hb7 z)))
    | exact hret2 _ _ _ _ hc (by k_asm) (cb_drop (by k_asm) (by ktr_unf)) (fun z => hb9 (hb8 (hb7 z)))
noncomputable def namesL : List Str := [Str.ofString "OPTIMIZED", Str.ofString "NEWLOCALS", Str.ofString "VARARGS", Str.ofString "VARKEYWORDS", Str.ofString "NESTED", Str.ofString "GENERATOR", Str.ofString "NOFREE", Str.ofString "COROUTINE", Str.ofString "ITERABLE_COROUTINE", Str.ofString "ASYNC_GENERATOR", Str.ofString "0x400"]
noncomputable def nameOf (n : Int) : Str := namesL.getD (n - 1).toNat Str.empty
theorem nameOf_len (n : Int) : (nameOf n).length ≤ 20 := by
  unfold nameOf
  rcases Nat.lt_or_ge (n - 1).toNat 11 with h | h
  · have : ∀ k : Nat, k < 11 → (namesL.getD k Str.empty).length ≤ 20 := by decide +kernel
    exact this _ h
  · rw [List.getD_eq_getElem?_getD, List.getElem?_eq_none (by simpa [namesL] using h)]; decide
theorem names_weight {ns : List Int} (h : ns.length ≤ 63) : ((ns.map nameOf).map (·.length)).sum + (ns.map nameOf).length ≤ 1048576 := by
  have h1 := sum_le (l := ns.map nameOf) (B := 20) (fun y hy => by obtain ⟨n, _, rfl⟩ := List.mem_map.mp hy; exact nameOf_len n)
  rw [List.length_map] at h1 ⊢; omega
theorem strs_next {ys : List Value} {ns : List Int} {i : Nat} {c : Int} {y : Str} {t : Tok} (h : StrsAre ys ((ns.take i).map nameOf)) (hc : ns[i]? = some c) (e : y = nameOf c) : StrsAre (ys ++ [.str y t]) ((ns.take (i + 1)).map nameOf) := by
  rw [take_snoc hc, List.map_append, e]; exact strs_snoc h _ _
set_option maxRecDepth 100000 in
set_option maxHeartbeats 8000000 in
theorem names_ctr {lg : Addr} {vs : List Value} {ns : List Int} {n0 : Nat} {w : World} {mean : ExcName → Option Value} {mg mb : Str → Option Value} {dp un : Nat} {gd : Option (List Code)} {cn : Str} {cs : Scope} {a : Addr} {ccd : Value} {cl : List (Str × Addr)} {outer : List Env} {A₀ : Around} {base h₀ : Heap} {L : Addr} {m : Str → Option Value} {news : List (Addr × Obj)} {s : Shared} {Q E : Value → Shared → Prop}
   (B : Below A₀ base outer h₀) (F : Fr h₀ L s.heap m) (X : (hd.heap_39 w.params).In h₀) (N : News h₀ L s.heap ((lg, listOf vs.toArray n0) :: news)) (T : TopH mean mg mb h₀) (hk : cs.kind = .function)
   (hi : IntsAre vs ns) (hr : ∀ n ∈ ns, 1 ≤ n ∧ n ≤ 11) (hlen : ns.length ≤ 63)
   (hdp : dp + 2 < recursionLimit) (_hun : un + 200 < cLine)
   (hret : ∀ h' t' tk', Fr h₀ L h' m → News h₀ L h' ((lg, listOf vs.toArray n0) :: news) → Q (.str (Txt.join (Str.ofString ", ") (ns.map nameOf)) t') { s with heap := h', toks := tk' }) :
   wpAny (model PySem.Challenge.rw_sw0038_01.row.prog w) (ktrTop dp un gd cn cs L a ccd cl outer) (call (.ref 91) [.ref lg]) Q E s := by
  k_with_none
  k_with "execs cons" => (with_reducible refine toks_step (fun tk0 => ?_))
  w_top off
  revert X; k_fill; intro X
  k_with "eval ListComp" => (k_here; k_dflt (refine LCg.ListComp_U (F₀ := by k_asm) (by with_unfolding_all rfl) (by decide) (by rfl) (by decide) (by rfl) ?_))
  k_with "CompSrc" => (k_dflt ((refine' LCg.CompSrc.ledger ?qh ?qF ?qN ?qm ?qz ?_); (case qh => rfl); (case qF => k_asm); (case qN => k_asm); (case qm => ktn_open); (case qz => (rw [List.size_toArray, IntsAre.length hi, sizeLine_eq]; omega)); (intro g'); (refine' compU_inv (fun (j : Nat) (ys : List Value) => StrsAre ys ((ns.take j).map nameOf)) _ ?qS ?q0 ?_ ?_); (case q0 => exact StrsAre.nil); (case qS => exact Or.inr ⟨_, by ktn_open, rfl, _, rfl⟩); (all_goals (first | (intro j ys v I2 oI2 C oC D m₂ h tk hj hR hP hC hx F N off2 ne; obtain ⟨c, t8, rfl, hc⟩ := hi.at j v (by simpa using hP); have hc1 := hr c (List.mem_of_getElem? hc)) | (intro ys hys; rw [List.size_toArray, IntsAre.length hi, List.take_length] at hys)))))
  k_with "Exists" => (k_dflt ((refine ⟨_, _, rfl, by k_asm, by k_asm, ?_⟩); (exact strs_next hR hc rfl)))
  k_with "call builtin:str.join" => (k_dflt ((refine' join_listW ?qa ?qb ?qc ?qd ?_); (case qa => is_list); (case qb => exact hys); (case qc => decide); (case qd => exact names_weight hlen); (intro t9 k9)))
  refine wpAny_call ?_
  k_dflt (refine' code_defC ?k1 ?k2 ?k3 ?k4 ?k5 ?kA ?kF ?kK ?k6 ?k7 ?k8 ?k9 ?kB ?kD ?_ ?c2 ?c3 ?c4; (case kA => exact rfl); (case kF => exact rfl); (case kK => assumption); (case k1 => k_asm); (case k2 => k_asm); (case k3 => k_asm); (case k4 => k_asm); (case k5 => k_asm); (case k6 => k_is); (case k7 => k_is); (case k8 => ktr_room); (case k9 => exact BindsTo.of_eq rfl); (case kB => exact rfl); (case kD => decide +kernel); (case c2 => exact rfl); (case c3 => exact rfl); (case c4 => exact rfl); k_whole; intro g' L' h' tk' cells' FG' F' N' Y' B' X' T' l1; (have l1z : ∀ p ∈ news, p.1 < L' := fun p hp => l1 p (by first | exact hp | exact .tail _ hp | exact .tail _ (.tail _ hp) | exact .tail _ (.tail _ (.tail _ hp)))); (try k_lt l1); k_cells Y'; (try simp only [List.cons_append, List.nil_append] at N'); (try dsimp only); (try k_lift B'); (try k_fold))
  k_steps
  all_goals first
    | exact hret _ _ _ (by k_asm) (cb_drop (by k_asm) (by ktr_unf))
noncomputable def aheadOf (d : Int) (n : Int) : Str := [Str.ofString "", Str.ofString "\")\"", Str.ofString "\\("].getD ((d.fdiv (3 ^ n.toNat)).fmod 3).toNat Str.empty
noncomputable def pieceOf (ns : List Int) (d : Int) (n : Int) : Str := aheadOf d n ++ (if ns.any (· == n) = true then Str.ofString "(" else Str.ofString ")")
noncomputable def piecesTo (ns : List Int) (d : Int) (i : Nat) : List Str := (List.range i).map fun (k : Nat) => pieceOf ns d (1 + (k : Int))
theorem piecesTo_succ (ns : List Int) (d : Int) (i : Nat) : piecesTo ns d (i + 1) = piecesTo ns d i ++ [pieceOf ns d (1 + (i : Int))] := by
  unfold piecesTo; rw [List.range_succ, List.map_append]; rfl
abbrev pieM (m : Str → Option Value) (lp lg : Addr) (v : Value) : Str → Option Value := fun y => if y = Str.ofString "pieces" then some (.ref lp) else if y = Str.ofString "gaps" then some (.ref lg) else if y = Str.ofString "dresses" then some v else m y
theorem pieM_eq {m : Str → Option Value} {lp lg : Addr} {v : Value} (h1 : m (Str.ofString "pieces") = some (.ref lp)) (h2 : m (Str.ofString "gaps") = some (.ref lg)) (h3 : m (Str.ofString "dresses") = some v) : ∀ y, m y = pieM m lp lg v y := by
  intro y; unfold pieM
  split
  · next q => rw [q]; exact h1
  · split
    · next q => rw [q]; exact h2
    · split
      · next q => rw [q]; exact h3
      · rfl
theorem fmod3 (a : Int) : 0 ≤ a.fmod 3 ∧ a.fmod 3 < 3 := ⟨Int.fmod_nonneg_of_pos a (by decide), Int.fmod_lt_of_pos a (by decide)⟩
theorem menu_at {x y z : Str} {a b c : Tok} {k : Int} (h : 0 ≤ k ∧ k < 3) : ∃ t, (#[Value.str x a, Value.str y b, Value.str z c] : Array Value)[k.toNat]? = some (.str ([x, y, z].getD k.toNat Str.empty) t) := by
  have h3 : k.toNat < 3 := by omega
  match k.toNat, h3 with
  | 0, _ => exact ⟨a, rfl⟩
  | 1, _ => exact ⟨b, rfl⟩
  | 2, _ => exact ⟨c, rfl⟩
theorem menu_led {value slice : PySem.Expr} {prog : Program} {w : World} {A : Around} {E : Value → Shared → Prop} {s : Shared} {h₀ : Heap} {L : Addr} {news : List (Addr × Obj)} {l : Addr} {x y z : Str} {a b c : Tok} {n : Nat} {k : Int} {u : Tok} {Q : Value → Shared → Prop} (N : News h₀ L s.heap news) (hm : (l, listOf #[.str x a, .str y b, .str z c] n) ∈ news) (hk : 0 ≤ k ∧ k < 3) (h : ∀ t, Q (.str ([x, y, z].getD k.toNat Str.empty) t) s)
    (hs : subscripted slice false (.ref l) (.int k u) = operate [.ref l, .int k u] (getItem (.ref l) (.int k u)) := by with_unfolding_all rfl) :
    wpAny (model prog w) A (subscriptTail value slice (.ref l) (.int k u)) Q E s := by
  obtain ⟨t, e⟩ := menu_at (x := x) (y := y) (z := z) (a := a) (b := b) (c := c) hk
  exact item_led N hm hk.1 (Int.lt_trans hk.2 (by decide)) e (h t) hs
theorem piece_yes {vs : List Value} {ns : List Int} {d : Int} {i : Nat} {n : Int} {t : Tok} (h : StrsAre vs (piecesTo ns d i)) (hy : ns.any (· == n) = true) : StrsAre (vs ++ [.str (aheadOf d n ++ Str.ofString "(") t]) (piecesTo ns d i ++ [pieceOf ns d n]) := by
  unfold pieceOf; rw [if_pos hy]; exact strs_snoc h _ _
theorem piece_no {vs : List Value} {ns : List Int} {d : Int} {i : Nat} {n : Int} {t : Tok} (h : StrsAre vs (piecesTo ns d i)) (hy : ns.any (· == n) = false) : StrsAre (vs ++ [.str (aheadOf d n ++ Str.ofString ")") t]) (piecesTo ns d i ++ [pieceOf ns d n]) := by
  unfold pieceOf; rw [if_neg (by rw [hy]; decide)]; exact strs_snoc h _ _
theorem piece_room {vs : List Value} {ns : List Int} {d : Int} {i : Nat} (h : StrsAre vs (piecesTo ns d i)) (hi : i ≤ 1000) : vs.toArray.size ≤ sizeLine := by
  rw [List.size_toArray, strs_len h, sizeLine_eq]
  unfold piecesTo; rw [List.length_map, List.length_range]; omega
theorem pow_facts {i : Nat} (h : i < 1000) : ((3 : Int) ^ (1 + (i : Int)).toNat).natAbs.log2 < 9000 ∧ (3 : Int) ^ (1 + (i : Int)).toNat ≠ 0 := by
  refine ⟨?_, Int.pow_ne_zero (by decide)⟩
  rw [show (1 + (i : Int)).toNat = i + 1 from by omega, Int.natAbs_pow]
  refine (Nat.log2_lt (Nat.pos_iff_ne_zero.mp (Nat.pow_pos (by decide)))).mpr ?_
  refine Nat.lt_of_le_of_lt (m := 4 ^ (i + 1)) (Nat.pow_le_pow_left (by decide) _) ?_
  rw [show (4 : Nat) = 2 ^ 2 from rfl, ← Nat.pow_mul]
  exact Nat.pow_lt_pow_right (by decide) (by omega)
section
variable {prog : Program} {w : World} {A : Around} {E : Value → Shared → Prop} {s : Shared} {h₀ : Heap} {L : Addr} {m : Str → Option Value} {env : Env}
theorem pieces_loop {x : Str} {body : List Stmt} {Q : Flow → Shared → Prop} {r : Addr} {t u v : Tok} {rest : List (Addr × Obj)} {lp lg : Addr} {k0 : Nat} {ns : List Int} {d : Int} {td : Tok} {b : Int}
    (hh : A.handled = none) (F : Fr h₀ L s.heap (pieM m lp lg (.int d td))) (N : News h₀ L s.heap ((lp, listOf #[] k0) :: rest)) (hr : IsRange s.heap r 1 b 1 t u v) (hb : b = 2 * (ns.length : Int) + 1) (hlen : ns.length ≤ 63)
    (turn : ∀ (i : Nat) mm vs k I oI h tk t', i < 1000 → StrsAre vs (piecesTo ns d i) → LCg.Off1 I ((lp, listOf vs.toArray k) :: rest) → Fr h₀ L h (pieM mm lp lg (.int d td)) → News h₀ L h ((I, oI) :: (lp, listOf vs.toArray k) :: rest) →
      wpAny (model prog w) A (storeName env x (.int (1 + (i : Int)) t')) (fun _ s₂ => wpAny (model prog w) A (execs body env) (StepEnd h₀ L s I oI (fun m' news' g' => g' = s.gens ∧ ∃ mm vs k, m' = pieM mm lp lg (.int d td) ∧ StrsAre vs (piecesTo ns d (i + 1)) ∧ news' = (lp, listOf vs.toArray k) :: rest) Q) (fun _ _ => False) s₂) (fun _ _ => False) { s with heap := h, toks := tk })
    (done : ∀ mm vs k h tk, StrsAre vs (piecesTo ns d (2 * ns.length)) → Fr h₀ L h (pieM mm lp lg (.int d td)) → News h₀ L h ((lp, listOf vs.toArray k) :: rest) → Q .next { s with heap := h, toks := tk }) :
    RLoop prog w A h₀ L env x body Q (.ref r) s := by
  subst hb
  refine RLoop.intro (n := (2 * (ns.length : Int) + 1 - 1).toNat) (fun i m' news' g' => g' = s.gens ∧ ∃ mm vs k, m' = pieM mm lp lg (.int d td) ∧ StrsAre vs (piecesTo ns d i) ∧ news' = (lp, listOf vs.toArray k) :: rest) hh F N hr (small_one (by decide) (by decide) (by omega) (by omega)) (rangeSize_nat _ _) ⟨rfl, m, [], k0, rfl, .nil, rfl⟩ ?_ ?_
  · rintro i m₁ news₁ g₁ I oI h tk t' hi ⟨rfl, mm, vs, k, rfl, hvs, rfl⟩ o F₁ N₁
    exact turn i mm vs k I oI h tk t' (by omega) hvs o F₁ N₁
  · rintro m' news' g' h tk ⟨rfl, mm, vs, k, rfl, hvs, rfl⟩ F₁ N₁
    rw [show (2 * (ns.length : Int) + 1 - 1).toNat = 2 * ns.length from by omega] at hvs
    exact done mm vs k h tk hvs F₁ N₁
theorem pie_end {ns : List Int} {d : Int} {td : Tok} {i : Nat} {h' : Heap} {m' : Str → Option Value} {lp lg I : Addr} {oI : Obj} {vs : List Value} {k tk' : Nat} {rest : List (Addr × Obj)} {Q : Flow → Shared → Prop} (F : Fr h₀ L h' m')
    (h1 : m' (Str.ofString "pieces") = some (.ref lp)) (h2 : m' (Str.ofString "gaps") = some (.ref lg)) (h3 : m' (Str.ofString "dresses") = some (.int d td))
    (N : News h₀ L h' ((I, oI) :: (lp, listOf vs.toArray k) :: rest)) (off : LCg.Off1 I ((lp, listOf vs.toArray k) :: rest)) (hvs : StrsAre vs (piecesTo ns d (i + 1))) :
    StepEnd h₀ L s I oI (fun m' news' g' => g' = s.gens ∧ ∃ mm vs k, m' = pieM mm lp lg (.int d td) ∧ StrsAre vs (piecesTo ns d (i + 1)) ∧ news' = (lp, listOf vs.toArray k) :: rest) Q .next { s with heap := h', toks := tk' } :=
  StepEnd.next _ (fr_eq F (pieM_eq h1 h2 h3)) N off ⟨rfl, _, _, _, rfl, hvs, rfl⟩
theorem News.drop2 {h' : Heap} {x : Addr × Obj} {l : List (Addr × Obj)} (N : News h₀ L h' (x :: l)) : News h₀ L h' l := fun p hp => N p (.tail _ hp)
theorem piece_yes' {vs : List Value} {ns : List Int} {d : Int} {i : Nat} {t : Tok} (h : StrsAre vs (piecesTo ns d i)) (hy : ns.any (· == 1 + (i : Int)) = true) : StrsAre (vs ++ [.str (aheadOf d (1 + (i : Int)) ++ Str.ofString "(") t]) (piecesTo ns d (i + 1)) := by
  rw [piecesTo_succ]; exact piece_yes h hy
theorem piece_no' {vs : List Value} {ns : List Int} {d : Int} {i : Nat} {t : Tok} (h : StrsAre vs (piecesTo ns d i)) (hy : ns.any (· == 1 + (i : Int)) = false) : StrsAre (vs ++ [.str (aheadOf d (1 + (i : Int)) ++ Str.ofString ")") t]) (piecesTo ns d (i + 1)) := by
  rw [piecesTo_succ]; exact piece_no h hy
end
set_option maxRecDepth 100000 in
set_option maxHeartbeats 8000000 in
theorem pieces_ctr {lg : Addr} {vg : List Value} {ns : List Int} {n0 : Nat} {d : Int} {td : Tok} {w : World} {mean : ExcName → Option Value} {mg mb : Str → Option Value} {dp un : Nat} {gd : Option (List Code)} {cn : Str} {cs : Scope} {a : Addr} {ccd : Value} {cl : List (Str × Addr)} {outer : List Env} {A₀ : Around} {base h₀ : Heap} {L : Addr} {m : Str → Option Value} {news : List (Addr × Obj)} {s : Shared} {Q E : Value → Shared → Prop}
   (B : Below A₀ base outer h₀) (F : Fr h₀ L s.heap m) (X : (hd.heap_39 w.params).In h₀) (N : News h₀ L s.heap ((lg, listOf vg.toArray n0) :: news)) (T : TopH mean mg mb h₀) (hk : cs.kind = .function)
   (hi : IntsAre vg ns) (hlen : ns.length ≤ 63) (hd0 : 0 ≤ d ∧ d < 1000)
   (hdp : dp + 2 < recursionLimit) (_hun : un + 200 < cLine)
   (hret : ∀ vs' n l' h' tk', StrsAre vs' (piecesTo ns d (2 * ns.length)) → Fr h₀ L h' m → News h₀ L h' ((l', listOf vs'.toArray n) :: (lg, listOf vg.toArray n0) :: news) → AllLt l' ((lg, listOf vg.toArray n0) :: news) → Q (.ref l') { s with heap := h', toks := tk' }) :
   wpAny (model PySem.Challenge.rw_sw0038_01.row.prog w) (ktrTop dp un gd cn cs L a ccd cl outer) (call (.ref 98) [.ref lg, .int d td]) Q E s := by
  k_with_none
  k_with "execs cons" => (with_reducible refine toks_step (fun tk0 => ?_))
  w_top off
  revert X; k_fill; intro X
  k_with "exec For Name Call cons nil" => (k_here; k_dflt (refine For_R (by k_asm) ?_))
  k_with "RLoop" => (k_dflt ((first | (refine' pieces_loop (ns := ns) (d := d) ?qh ?qF ?qN ?qr ?qb hlen ?_ ?_)); (first | (case qh => rfl)); (first | (case qF => exact fr_eq (by k_asm) (pieM_eq rfl rfl rfl))); (first | (case qN => k_asm)); (first | (case qr => assumption)); (first | (case qb => first | rfl | simp only [IntsAre.length hi])); (first | (all_goals (first | (intro i mm vs k I oI h tk t' hi9 hvs off F N; simp only [LCg.Off1, and_true] at off; obtain ⟨hp1, hp2⟩ := pow_facts hi9) | (intro mm vs k h tk hvs F N))))))
  k_with "binaryOp FloorDiv int int" => (k_dflt ((first | (refine floordiv_int hp2 ?_ (Or.inl (PyProof.noPylong_of_log2 hp1))))))
  k_with "binaryOp Pow int int" => (k_dflt ((first | (refine pow_int_small (by omega) (by omega) (by decide) ?_))))
  k_with "call builtin:list.append" => (k_dflt ((first | (refine' append_K ?qa ?qb ?qc ?_ ?qz)); (first | (case qa => k_asm)); (first | (case qb => k_asm)); (first | (case qc => k_upd)); (first | (case qz => exact piece_room hvs (by omega))); (first | (intro h' F' N')); (first | (simp only [List.push_toArray] at N'))))
  k_with "subscriptTail Name BinOp ref int" => (k_dflt ((first | (refine menu_led (by k_asm) (by ktn_open) (fmod3 _) fun t9 => ?_))))
  k_with "newList" => (k_dflt ((k_here); (refine' newList_K ?k1 ?k2 ?_); (case k1 => k_asm); (case k2 => k_asm); (k_whole); (intro l' h' F' N' l1); (have l1w := l1); (try k_lt l1); (try k_sweep)))
  k_with "compareOp In int ref" => (k_dflt ((first | (refine' in_list_ints ?qa hi ?_)); (first | (case qa => is_list))))
  k_with "StepEnd" => (k_dflt ((first | (first | exact pie_end (k := _) (by k_asm) rfl rfl rfl (News.drop2 (by k_asm)) (by simp only [LCg.Off1, and_true]; exact off) (piece_yes' hvs (by assumption)) | exact pie_end (k := _) (by k_asm) rfl rfl rfl (News.drop2 (by k_asm)) (by simp only [LCg.Off1, and_true]; exact off) (piece_no' hvs (by assumption))))))
  refine wpAny_call ?_
  k_dflt cell_enter
  k_steps
  all_goals first
    | exact hret _ _ _ _ _ hvs (by k_asm) (by k_asm) (allLt_of fun p hp => l1w p (by first | exact hp | ktn_open))
noncomputable def subOf (x y : Str) : Int := if x = y then 0 else 1
noncomputable def LetS (x : Str) : Prop := x = Str.ofString "s" ∨ x = Str.ofString "S"
set_option maxRecDepth 100000 in
set_option maxHeartbeats 8000000 in
theorem sub_ctr {x y : Str} {t u : Tok} {w : World} {mean : ExcName → Option Value} {mg mb : Str → Option Value} {dp un : Nat} {gd : Option (List Code)} {cn : Str} {cs : Scope} {a : Addr} {ccd : Value} {cl : List (Str × Addr)} {outer : List Env} {A₀ : Around} {base h₀ : Heap} {L : Addr} {m : Str → Option Value} {news : List (Addr × Obj)} {s : Shared} {Q E : Value → Shared → Prop}
   (B : Below A₀ base outer h₀) (F : Fr h₀ L s.heap m) (X : (hd.heap_39 w.params).In h₀) (N : News h₀ L s.heap news) (T : TopH mean mg mb h₀) (hk : cs.kind = .function)
   (hx : LetS x) (hy : LetS y) (hdp : dp + 2 < recursionLimit) (_hun : un + 200 < cLine)
   (hret : ∀ h' t' tk', Fr h₀ L h' m → News h₀ L h' news → Q (.int (subOf x y) t') { s with heap := h', toks := tk' }) :
   wpAny (model PySem.Challenge.rw_sw0038_01.row.prog w) (ktrTop dp un gd cn cs L a ccd cl outer) (call (.ref 57) [.str x t, .str y u]) Q E s := by
  k_with_none
  k_with "execs cons" => (with_reducible refine toks_step (fun tk0 => ?_))
  w_top off
  revert X; k_fill; intro X
  rcases hx with rfl | rfl <;> rcases hy with rfl | rfl <;> (
    refine wpAny_call ?_
    k_dflt cell_enter
    k_steps
    all_goals first
      | exact hret _ _ _ (by k_asm) (by k_asm)
     )
section
variable {prog : Program} {w : World} {A : Around} {E : Value → Shared → Prop} {s : Shared} {h₀ : Heap} {L : Addr} {m : Str → Option Value} {env : Env}
inductive RLoopE (prog : Program) (w : World) (A : Around) (h₀ : Heap) (L : Addr) (env : Env) (x : Str) (body : List Stmt) (Q : Flow → Shared → Prop) : Value → Shared → Prop
  | intro {r : Addr} {a b : Int} {t u v : Tok} {n : Nat} {m : Str → Option Value} {news : List (Addr × Obj)} {s : Shared} (J : Nat → (Str → Option Value) → List (Addr × Obj) → Array GenState → Prop)
    (hh : A.handled = none) (F : Fr h₀ L s.heap m) (N : News h₀ L s.heap news) (hr : IsRange s.heap r a b 1 t u v) (hsm : Builtin.Range.small a b 1 = true) (hn : Builtin.Range.rangeSize a b 1 = ((n : Nat) : Int))
    (j0 : J 0 m news s.gens)
    (turn : ∀ i m₁ news₁ g₁ I oI h tk t', i < n → J i m₁ news₁ g₁ → LCg.Off1 I news₁ → Fr h₀ L h m₁ → News h₀ L h ((I, oI) :: news₁) →
      wpAny (model prog w) A (storeName env x (.int (a + (i : Int)) t')) (fun _ s₂ => wpAny (model prog w) A (execs body env) (StepEnd h₀ L s I oI (J (i + 1)) Q) (fun _ _ => False) s₂) (fun _ _ => False) { s with heap := h, toks := tk, gens := g₁ })
    (done : ∀ m' news' g' h (tk : Nat), J n m' news' g' → Fr h₀ L h m' → News h₀ L h news' → False) : RLoopE prog w A h₀ L env x body Q (.ref r) s
theorem For_RE {x : Str} {px pos : Pos} {iter : PySem.Expr} {body orelse : List Stmt} {Q : Flow → Shared → Prop} (_F₀ : Fr h₀ L s.heap m)
    (h : wpAny (model prog w) A (eval iter env) (RLoopE prog w A h₀ L env x body Q) E s)
    (hs : ∀ x, foldedSetIterable iter env x = pure x := by intro _; rfl) :
    wpAny (model prog w) A (exec (.For (.Name x px) iter body orelse pos) env) Q E s := by
  refine wpAny_For (wpAny_mono h (fun xv s₁ h₁ => ?_) fun _ _ e => e) hs
  obtain @⟨r, a, b, t, u, v, n, m, news, _, J, hh, F, N, hr, hsm, hn, j0, turn, done⟩ := h₁
  refine wpAny_pyIter_range hr hsm ?_
  have W := LCg.range_walks (prog := prog) (w := w) (I := s₁.heap.objs.size) hh a n
  refine codeAny_forLoop (RInv h₀ L s₁ a n J) ?_ (n + 1)
    ⟨0, m, news, s₁.gens, _, s₁.toks, rfl, Nat.zero_le _, rfl, by show IsRangeIter _ _ _ _ _; rw [hn]; simpa using Heap.get?_push_size _ rfl, F.push _, N.grown fun _ _ e => Heap.get?_push_of_some _ e, off1_of fun p hp => Nat.ne_of_lt (Heap.lt_size (N p hp).1), j0⟩
  have hI₀ : h₀.get? s₁.heap.objs.size = none := next_is_new F
  have hIL : L ≠ s₁.heap.objs.size := Nat.ne_of_lt F.ns.lt
  rintro k s' ⟨i, m', news', g', h', tk', rfl, hi, rfl, hit, F', N', o', j'⟩
  by_cases hlt : i < n
  · refine W.item i _ _ _ hlt hit fun v' h₂ tk₂ hP hit₂ hk₂ => ?_
    obtain ⟨t', rfl⟩ := hP
    have F₂ : Fr h₀ L h₂ m' := LCg.fr_but F' hk₂ hIL hI₀
    have N₂ : News h₀ L h₂ news' := LCg.news_but N' hk₂ (off1_all o')
    obtain ⟨oI, hoI⟩ : ∃ oI, h₂.get? s₁.heap.objs.size = some oI := ⟨_, hit₂⟩
    have N₃ : News h₀ L h₂ ((s₁.heap.objs.size, oI) :: news') := fun p hp => by
      rcases List.mem_cons.mp hp with rfl | hp
      · exact ⟨hoI, Ne.symm hIL, hI₀⟩
      · exact N₂ p hp
    refine wpAny_assign_Name (wpAny_mono (turn i m' news' g' _ oI h₂ tk₂ t' hlt j' o' F₂ N₃) (fun _ s₃ h₃ => ?_) fun _ _ e => e.elim)
    refine wpAny_mono h₃ (fun f s₄ h₄ => ?_) fun _ _ e => e.elim
    cases f with
    | next => exact RInv.next hlt hit₂ hoI h₄
    | cont => exact RInv.next hlt hit₂ hoI h₄
    | brk => exact h₄
    | ret v => exact h₄
  · obtain rfl : i = n := Nat.le_antisymm hi (Nat.not_lt.mp hlt)
    refine W.done _ _ _ hit fun h₂ tk₂ hk₂ => ?_
    exact (done m' news' g' h₂ tk₂ j' (LCg.fr_but F' hk₂ hIL hI₀) (LCg.news_but N' hk₂ (off1_all o'))).elim
end
/-- the flags from the i-th binary place on -/
noncomputable def pfAt (F i : Nat) : Nat := F / 2 ^ i * 2 ^ i
noncomputable def pfBit (F i : Nat) : Bool := F / 2 ^ i % 2 == 1
noncomputable def pfNames (F i : Nat) : List Str := ((List.range i).filter (pfBit F)).map fun (k : Nat) => nameOf ((k : Int) + 1)
theorem pfNames_yes {F i : Nat} (h : pfBit F i = true) : pfNames F (i + 1) = pfNames F i ++ [nameOf ((i : Int) + 1)] := by
  unfold pfNames; rw [List.range_succ, List.filter_append, List.map_append, List.filter_cons, if_pos h]; rfl
theorem pfNames_no {F i : Nat} (h : pfBit F i = false) : pfNames F (i + 1) = pfNames F i := by
  unfold pfNames; rw [List.range_succ, List.filter_append, List.filter_cons, if_neg (by rw [h]; decide), List.filter_nil, List.append_nil]
noncomputable def pfB (F i : Nat) : Bool := decide (Builtin.bitAnd (pfAt F i : Nat) (2 ^ i : Nat) = (if pfBit F i then ((2 ^ i : Nat) : Int) else 0) ∧
    (pfBit F i = true → Builtin.bitXor (pfAt F i : Nat) (2 ^ i : Nat) = (pfAt F (i + 1) : Nat)) ∧ (pfBit F i = false → pfAt F (i + 1) = pfAt F i))
noncomputable def pfC (k : Nat) : Bool := (List.range 256).all fun l => (List.range 11).all fun i => pfB (256 * k + l) i
set_option maxRecDepth 100000 in
theorem pf_c0 : pfC 0 = true := by decide +kernel
set_option maxRecDepth 100000 in
theorem pf_c1 : pfC 1 = true := by decide +kernel
set_option maxRecDepth 100000 in
theorem pf_c2 : pfC 2 = true := by decide +kernel
set_option maxRecDepth 100000 in
theorem pf_c3 : pfC 3 = true := by decide +kernel
set_option maxRecDepth 100000 in
theorem pf_c4 : pfC 4 = true := by decide +kernel
set_option maxRecDepth 100000 in
theorem pf_c5 : pfC 5 = true := by decide +kernel
set_option maxRecDepth 100000 in
theorem pf_c6 : pfC 6 = true := by decide +kernel
set_option maxRecDepth 100000 in
theorem pf_c7 : pfC 7 = true := by decide +kernel
theorem pf_all {k : Nat} (h : k < 8) : pfC k = true :=
  match k, h with
  | 0, _ => pf_c0
  | 1, _ => pf_c1
  | 2, _ => pf_c2
  | 3, _ => pf_c3
  | 4, _ => pf_c4
  | 5, _ => pf_c5
  | 6, _ => pf_c6
  | 7, _ => pf_c7
theorem pf_bits : ∀ F : Fin 2048, ∀ i : Fin 11, Builtin.bitAnd (pfAt F.1 i.1 : Nat) (2 ^ i.1 : Nat) = (if pfBit F.1 i.1 then ((2 ^ i.1 : Nat) : Int) else 0) ∧
    (pfBit F.1 i.1 = true → Builtin.bitXor (pfAt F.1 i.1 : Nat) (2 ^ i.1 : Nat) = (pfAt F.1 (i.1 + 1) : Nat)) ∧ (pfBit F.1 i.1 = false → pfAt F.1 (i.1 + 1) = pfAt F.1 i.1) := by
  intro F i
  have h := List.all_eq_true.mp (List.all_eq_true.mp (pf_all (k := F.1 / 256) (by have := F.2; omega)) (F.1 % 256) (List.mem_range.mpr (Nat.mod_lt _ (by decide)))) i.1 (List.mem_range.mpr i.2)
  rw [Nat.div_add_mod] at h
  exact of_decide_eq_true h
abbrev pfM (m : Str → Option Value) (lr : Addr) (v : Value) : Str → Option Value := fun y => if y = Str.ofString "names" then some (.ref lr) else if y = Str.ofString "flags" then some v else m y
theorem pfM_eq {m : Str → Option Value} {lr : Addr} {v : Value} (h1 : m (Str.ofString "names") = some (.ref lr)) (h2 : m (Str.ofString "flags") = some v) : ∀ y, m y = pfM m lr v y := by
  intro y; unfold pfM
  split
  · next q => rw [q]; exact h1
  · split
    · next q => rw [q]; exact h2
    · rfl
theorem pfAt_zero (F : Nat) : pfAt F 0 = F := by unfold pfAt; simp
theorem pfAt_end {F : Nat} (h : F < 2048) {i : Nat} (hi : 11 ≤ i) : pfAt F i = 0 := by
  unfold pfAt
  have : 2048 ≤ 2 ^ i := Nat.le_trans (by decide : 2048 ≤ 2 ^ 11) (Nat.pow_le_pow_right (by decide) hi)
  rw [Nat.div_eq_of_lt (by omega)]; simp
/-- what holds ahead of turn i -/
noncomputable def PfJ (F : Nat) (lr : Addr) (rest : List (Addr × Obj)) (gs : Array GenState) (i : Nat) (m' : Str → Option Value) (news' : List (Addr × Obj)) (g' : Array GenState) : Prop :=
  g' = gs ∧ pfAt F i ≠ 0 ∧ ∃ mm t vs k, m' = pfM mm lr (.int (pfAt F i : Nat) t) ∧ StrsAre vs (pfNames F i) ∧ news' = (lr, listOf vs.toArray k) :: rest
set_option maxRecDepth 100000 in
theorem hex_room {i : Nat} (h : i < 11) : (baseText "0x" 16 (1 * 2 ^ (0 + (i : Int)).toNat)).length ≤ sizeLine := by
  have : ∀ i : Fin 11, (baseText "0x" 16 (1 * 2 ^ (0 + (i.1 : Int)).toNat)).length ≤ 100 := by decide +kernel
  exact Nat.le_trans (this ⟨i, h⟩) (by rw [sizeLine_eq]; decide)
theorem pf_len (F i : Nat) : (pfNames F i).length ≤ i := by
  unfold pfNames; rw [List.length_map]
  exact Nat.le_trans (List.length_filter_le _ _) (by simp)
theorem pf_room {F i : Nat} {vs : List Value} (h : StrsAre vs (pfNames F i)) (hi : i ≤ 40) : vs.toArray.size ≤ sizeLine := by
  rw [List.size_toArray, strs_len h, sizeLine_eq]; have := pf_len F i; omega
theorem pf_weight {F i : Nat} (hi : i ≤ 40) : ((pfNames F i).map (·.length)).sum + (pfNames F i).length ≤ 1048576 := by
  have h0 := pf_len F i
  have h1 := sum_le (l := pfNames F i) (B := 20) (fun y hy => by unfold pfNames at hy; obtain ⟨n, _, rfl⟩ := List.mem_map.mp hy; exact nameOf_len _)
  omega
section
variable {prog : Program} {w : World} {A : Around} {E : Value → Shared → Prop} {s : Shared} {h₀ : Heap} {L : Addr} {m : Str → Option Value} {env : Env}
theorem pf_loop {x : Str} {body : List Stmt} {Q : Flow → Shared → Prop} {r : Addr} {t u v tF : Tok} {rest : List (Addr × Obj)} {lr : Addr} {k0 : Nat} {F : Nat} (hF : 0 < F ∧ F < 2048)
    (hh : A.handled = none) (Fm : Fr h₀ L s.heap (pfM m lr (.int F tF))) (N : News h₀ L s.heap ((lr, listOf #[] k0) :: rest)) (hr : IsRange s.heap r 0 32 1 t u v)
    (turn : ∀ (i : Nat) mm tf vs k I oI h tk t', i < 11 → pfAt F i ≠ 0 → StrsAre vs (pfNames F i) → LCg.Off1 I ((lr, listOf vs.toArray k) :: rest) → Fr h₀ L h (pfM mm lr (.int (pfAt F i : Nat) tf)) → News h₀ L h ((I, oI) :: (lr, listOf vs.toArray k) :: rest) →
      wpAny (model prog w) A (storeName env x (.int (0 + (i : Int)) t')) (fun _ s₂ => wpAny (model prog w) A (execs body env) (StepEnd h₀ L s I oI (PfJ F lr rest s.gens (i + 1)) Q) (fun _ _ => False) s₂) (fun _ _ => False) { s with heap := h, toks := tk }) :
    RLoopE prog w A h₀ L env x body Q (.ref r) s := by
  refine RLoopE.intro (n := 32) (PfJ F lr rest s.gens) hh Fm N hr (by decide) (by decide) ⟨rfl, by rw [pfAt_zero]; omega, m, tF, [], k0, by rw [pfAt_zero], .nil, rfl⟩ ?_ ?_
  · rintro i m₁ news₁ g₁ I oI h tk t' hi ⟨rfl, hne, mm, tf, vs, k, rfl, hvs, rfl⟩ o F₁ N₁
    refine turn i mm tf vs k I oI h tk t' ?_ hne hvs o F₁ N₁
    rcases Nat.lt_or_ge i 11 with h | h
    · exact h
    · exact absurd (pfAt_end hF.2 h) hne
  · rintro m' news' g' h tk ⟨_, hne, _⟩ _ _
    exact hne (pfAt_end hF.2 (by decide))
theorem pf_fact {F i : Nat} (hF : 0 < F ∧ F < 2048) (hi : i < 11) : Builtin.bitAnd (pfAt F i : Nat) (1 * 2 ^ (0 + (i : Int)).toNat) = (if pfBit F i then ((2 ^ i : Nat) : Int) else 0) ∧
    (pfBit F i = true → Builtin.bitXor (pfAt F i : Nat) (1 * 2 ^ (0 + (i : Int)).toNat) = (pfAt F (i + 1) : Nat)) ∧ (pfBit F i = false → pfAt F (i + 1) = pfAt F i) := by
  have e2 : (1 : Int) * 2 ^ (0 + (i : Int)).toNat = ((2 ^ i : Nat) : Int) := by
    rw [Int.one_mul, Int.zero_add, Int.toNat_natCast]; push_cast; rfl
  rw [e2]; exact pf_bits ⟨F, hF.2⟩ ⟨i, hi⟩
theorem pf_yes {F i : Nat} (hF : 0 < F ∧ F < 2048) (hi : i < 11) (h : Builtin.bitAnd (pfAt F i : Nat) (1 * 2 ^ (0 + (i : Int)).toNat) ≠ 0) : pfBit F i = true := by
  rw [(pf_fact hF hi).1] at h
  cases hb : pfBit F i with
  | true => rfl
  | false => rw [hb] at h; exact absurd rfl h
theorem pf_no {F i : Nat} (hF : 0 < F ∧ F < 2048) (hi : i < 11) (h : Builtin.bitAnd (pfAt F i : Nat) (1 * 2 ^ (0 + (i : Int)).toNat) = 0) : pfBit F i = false := by
  rw [(pf_fact hF hi).1] at h
  cases hb : pfBit F i with
  | false => rfl
  | true =>
    rw [hb, if_pos rfl] at h
    have : 0 < 2 ^ i := Nat.pow_pos (by decide)
    omega
theorem pf_over {F i : Nat} (h : pfAt F i = 0) (j : Nat) : pfNames F (i + j) = pfNames F i := by
  have hz : F / 2 ^ i = 0 := by
    unfold pfAt at h
    rcases Nat.mul_eq_zero.mp h with h | h
    · exact h
    · exact absurd h (Nat.pos_iff_ne_zero.mp (Nat.pow_pos (by decide)))
  induction j with
  | zero => rfl
  | succ j ih =>
    rw [← Nat.add_assoc, pfNames_no (F := F) (i := i + j) ?_]
    · exact ih
    · unfold pfBit
      rw [Nat.pow_add, ← Nat.div_div_eq_div_mul, hz]; simp
theorem pf_stop {F i : Nat} (hF : 0 < F ∧ F < 2048) (hi : i < 11) (hb : pfBit F i = true) (h : Builtin.bitXor (pfAt F i : Nat) (1 * 2 ^ (0 + (i : Int)).toNat) = 0) : pfNames F 11 = pfNames F (i + 1) := by
  rw [(pf_fact hF hi).2.1 hb] at h
  have := pf_over (F := F) (i := i + 1) (by omega) (11 - (i + 1))
  rwa [show i + 1 + (11 - (i + 1)) = 11 from by omega] at this
theorem pf_weight2 {F i : Nat} (hF : 0 < F ∧ F < 2048) (hi : i < 11) (h : Builtin.bitAnd (pfAt F i : Nat) (1 * 2 ^ (0 + (i : Int)).toNat) ≠ 0) : ((pfNames F i ++ [nameOf ((i : Int) + 1)]).map (·.length)).sum + (pfNames F i ++ [nameOf ((i : Int) + 1)]).length ≤ 1048576 := by
  rw [← pfNames_yes (pf_yes hF hi h)]; exact pf_weight (by omega)
theorem pf_last {F i : Nat} (hF : 0 < F ∧ F < 2048) (hi : i < 11) (h : Builtin.bitAnd (pfAt F i : Nat) (1 * 2 ^ (0 + (i : Int)).toNat) ≠ 0) (hx : Builtin.bitXor (pfAt F i : Nat) (1 * 2 ^ (0 + (i : Int)).toNat) = 0) : pfNames F 11 = pfNames F i ++ [nameOf ((i : Int) + 1)] := by
  rw [← pfNames_yes (pf_yes hF hi h)]; exact pf_stop hF hi (pf_yes hF hi h) hx
theorem pf_end_no {F i : Nat} {I lr : Addr} {oI : Obj} {h' : Heap} {m' : Str → Option Value} {rest : List (Addr × Obj)} {vs : List Value} {k tk' : Nat} {tf : Tok} {Q : Flow → Shared → Prop} (hF : 0 < F ∧ F < 2048) (hi : i < 11) (hne : pfAt F i ≠ 0)
    (hb : Builtin.bitAnd (pfAt F i : Nat) (1 * 2 ^ (0 + (i : Int)).toNat) = 0) (Fm : Fr h₀ L h' m') (h1 : m' (Str.ofString "names") = some (.ref lr)) (h2 : m' (Str.ofString "flags") = some (.int (pfAt F i : Nat) tf))
    (N : News h₀ L h' ((I, oI) :: (lr, listOf vs.toArray k) :: rest)) (off : LCg.Off1 I ((lr, listOf vs.toArray k) :: rest)) (hvs : StrsAre vs (pfNames F i)) :
    StepEnd h₀ L s I oI (PfJ F lr rest s.gens (i + 1)) Q .next { s with heap := h', toks := tk' } := by
  have e := (pf_fact hF hi).2.2 (pf_no hF hi hb)
  exact StepEnd.next _ (fr_eq Fm (pfM_eq h1 h2)) N off ⟨rfl, by rw [e]; exact hne, _, tf, vs, k, by rw [e], by rw [pfNames_no (pf_no hF hi hb)]; exact hvs, rfl⟩
theorem pf_end_yes {F i : Nat} {I lr : Addr} {oI : Obj} {h' : Heap} {m' : Str → Option Value} {rest : List (Addr × Obj)} {vs : List Value} {k tk' : Nat} {tf : Tok} {Q : Flow → Shared → Prop} (hF : 0 < F ∧ F < 2048) (hi : i < 11)
    (hb : Builtin.bitAnd (pfAt F i : Nat) (1 * 2 ^ (0 + (i : Int)).toNat) ≠ 0) (hx : Builtin.bitXor (pfAt F i : Nat) (1 * 2 ^ (0 + (i : Int)).toNat) ≠ 0) (Fm : Fr h₀ L h' m') (h1 : m' (Str.ofString "names") = some (.ref lr)) (h2 : m' (Str.ofString "flags") = some (.int (Builtin.bitXor (pfAt F i : Nat) (1 * 2 ^ (0 + (i : Int)).toNat)) tf))
    (N : News h₀ L h' ((I, oI) :: (lr, listOf vs.toArray k) :: rest)) (off : LCg.Off1 I ((lr, listOf vs.toArray k) :: rest)) (hvs : StrsAre vs (pfNames F i ++ [nameOf ((i : Int) + 1)])) :
    StepEnd h₀ L s I oI (PfJ F lr rest s.gens (i + 1)) Q .next { s with heap := h', toks := tk' } := by
  have e := (pf_fact hF hi).2.1 (pf_yes hF hi hb)
  rw [e] at h2 hx
  exact StepEnd.next _ (fr_eq Fm (pfM_eq h1 h2)) N off ⟨rfl, by omega, _, tf, vs, k, rfl, by rw [pfNames_yes (pf_yes hF hi hb)]; exact hvs, rfl⟩
theorem flag_get {D : List (Int × PyData)} {g : Heap} {i : Nat} {kk : Int} {tk u : Tok} {Q : Value → Shared → Prop} (K : KTD.Keyed g 36 D) (F : Fr g L s.heap m) (hi : i < 11) (e : kk = 1 * 2 ^ (0 + (i : Int)).toNat)
    (hD : ∀ i : Fin 11, (KTD.datumAt ((2 ^ i.1 : Nat) : Int) D).getD (.str (baseText "0x" 16 ((2 ^ i.1 : Nat) : Int))) = PyData.str (nameOf ((i.1 : Int) + 1)))
    (h : ∀ t, Q (.str (nameOf ((i : Int) + 1)) t) { s with toks := s.toks + 1 }) :
    wpAny (model prog w) A (call (.builtin "dict.get") [.ref 36, .int kk tk, .str (baseText "0x" 16 kk) u]) Q E s := by
  have e2 : kk = ((2 ^ i : Nat) : Int) := by
    rw [e, Int.one_mul, Int.zero_add, Int.toNat_natCast]; push_cast; rfl
  subst e2
  refine call_get2_intTab (K.keep F.keep prog w) (PyProof.V.Flat.str _ _) fun v hv => ?_
  rw [KTD.lookup_keyed, hD ⟨i, hi⟩] at hv
  obtain ⟨t, rfl⟩ := hv.str_inv
  exact h t
end
set_option maxRecDepth 100000 in
set_option maxHeartbeats 8000000 in
theorem pretty_ctr {F9 : Nat} {t9 : Tok} {w : World} {mean : ExcName → Option Value} {mg mb : Str → Option Value} {dp un : Nat} {gd : Option (List Code)} {cn : Str} {cs : Scope} {a : Addr} {ccd : Value} {cl : List (Str × Addr)} {outer : List Env} {A₀ : Around} {base h₀ : Heap} {L : Addr} {m : Str → Option Value} {news : List (Addr × Obj)} {s : Shared} {Q E : Value → Shared → Prop}
   (B : Below A₀ base outer h₀) (F : Fr h₀ L s.heap m) (X : (hd.heap_39 w.params).In h₀) (N : News h₀ L s.heap news) (T : TopH mean mg mb h₀) (hk : cs.kind = .function)
   (hF : 0 < F9 ∧ F9 < 2048)
   (hdp : dp + 2 < recursionLimit) (_hun : un + 200 < cLine)
   (hret : ∀ h' t' tk', Fr h₀ L h' m → News h₀ L h' news → Q (.str (Txt.join (Str.ofString ", ") (pfNames F9 11)) t') { s with heap := h', toks := tk' }) :
   wpAny (model PySem.Challenge.rw_sw0038_01.row.prog w) (ktrTop dp un gd cn cs L a ccd cl outer) (call (.ref 43) [.int (F9 : Nat) t9]) Q E s := by
  have hret2 : ∀ y h' t' tk', pfNames F9 11 = y → Fr h₀ L h' m → News h₀ L h' news → Q (.str (Txt.join (Str.ofString ", ") y) t') { s with heap := h', toks := tk' } := fun y h' t' tk' e => e ▸ hret h' t' tk'
  clear hret
  k_with_none
  k_with "execs cons" => (with_reducible refine toks_step (fun tk0 => ?_))
  w_top off
  revert X; k_fill; intro X
  k_with "exec For Name Call cons cons" => (k_here; k_dflt (refine For_RE (by k_asm) ?_))
  k_with "RLoopE" => (k_dflt ((first | (refine' pf_loop hF ?qh ?qF ?qN ?qr ?_)); (first | (case qh => rfl)); (first | (case qF => exact fr_eq (by k_asm) (pfM_eq rfl rfl))); (first | (case qN => k_asm)); (first | (case qr => assumption)); (first | (intro i mm tf vs k I oI h tk t' hi9 hne9 hvs off F N; simp only [LCg.Off1, and_true] at off))))
  k_with "call builtin:hex" => (k_dflt ((first | (refine P.hex_of_int ?_ (hex_room hi9)))))
  k_with "call builtin:dict.get" => (k_dflt ((first | (refine' flag_get (by assumption) (by k_asm) hi9 rfl ?qd ?_)); (first | (case qd => (exact fun ⟨i, h⟩ => match i, h with | 0, _ => (by kernel_rfl) | 1, _ => (by kernel_rfl) | 2, _ => (by kernel_rfl) | 3, _ => (by kernel_rfl) | 4, _ => (by kernel_rfl) | 5, _ => (by kernel_rfl) | 6, _ => (by kernel_rfl) | 7, _ => (by kernel_rfl) | 8, _ => (by kernel_rfl) | 9, _ => (by kernel_rfl) | 10, _ => (by kernel_rfl)))); (first | (intro t8))))
  k_with "call builtin:list.append" => (k_dflt ((first | (refine' append_K ?qa ?qb ?qc ?_ ?qz)); (first | (case qa => k_asm)); (first | (case qb => k_asm)); (first | (case qc => k_upd)); (first | (case qz => exact pf_room hvs (by omega))); (first | (intro h' F' N')); (first | (simp only [List.push_toArray] at N'))))
  k_with "call builtin:str.join" => (k_dflt ((first | (refine' join_listW ?qa ?qb ?qc ?qd ?_)); (first | (case qa => is_list)); (first | (case qb => exact strs_snoc hvs _ _)); (first | (case qc => decide)); (first | (case qd => exact pf_weight2 hF hi9 (by assumption))); (first | (intro t7 k7))))
  k_with "StepEnd" => (k_dflt ((first | (first | exact pf_end_no hF hi9 hne9 (by assumption) (by k_asm) rfl rfl (by k_asm) (by simp only [LCg.Off1, and_true]; exact off) hvs | exact pf_end_yes hF hi9 (by assumption) (by assumption) (by k_asm) rfl rfl (by k_asm) (by simp only [LCg.Off1, and_true]; exact off) (strs_snoc hvs _ _) | (show StepEnd _ _ _ _ _ _ _ Flow.brk _; unfold StepEnd; dsimp only)))))
  refine wpAny_call ?_
  k_dflt cell_enter
  k_steps
  all_goals first
    | exact hret2 _ _ _ _ (pf_last hF hi9 (by assumption) (by assumption)) (by k_asm) (cb_drop (by k_asm) (by ktr_unf))
/-- what the end of a turn of a while loop owes -/
noncomputable def WEnd (h₀ : Heap) (L : Addr) (s : Shared) (J : (Str → Option Value) → List (Addr × Obj) → Array GenState → Prop) (Q : Flow → Shared → Prop) (f : Flow) (s' : Shared) : Prop :=
  match f with
  | .next => ∃ h' tk' g' m' news', s' = { s with heap := h', toks := tk', gens := g' } ∧ Fr h₀ L h' m' ∧ News h₀ L h' news' ∧ J m' news' g'
  | .cont => ∃ h' tk' g' m' news', s' = { s with heap := h', toks := tk', gens := g' } ∧ Fr h₀ L h' m' ∧ News h₀ L h' news' ∧ J m' news' g'
  | .brk => Q .next s'
  | .ret v => Q (.ret v) s'
theorem WEnd.next {h₀ : Heap} {L : Addr} {s : Shared} {J : (Str → Option Value) → List (Addr × Obj) → Array GenState → Prop} {Q : Flow → Shared → Prop} {h' : Heap} {tk' : Nat} {g' : Array GenState} {m' : Str → Option Value} (news' : List (Addr × Obj))
    (F : Fr h₀ L h' m') (N : News h₀ L h' news') (j : J m' news' g') : WEnd h₀ L s J Q .next { s with heap := h', toks := tk', gens := g' } := ⟨_, _, _, _, _, rfl, F, N, j⟩
section
variable {prog : Program} {w : World} {A : Around} {E : Value → Shared → Prop} {s : Shared} {h₀ : Heap} {L : Addr} {m : Str → Option Value} {env : Env}
theorem While_M {test : PySem.Expr} {body : List Stmt} {pos : Pos} {Q : Flow → Shared → Prop} {news : List (Addr × Obj)} (n : Nat) (J : Nat → (Str → Option Value) → List (Addr × Obj) → Array GenState → Prop)
    (F : Fr h₀ L s.heap m) (N : News h₀ L s.heap news) (j0 : J n m news s.gens)
    (turn : ∀ k m₁ news₁ g₁ h tk, J k m₁ news₁ g₁ → Fr h₀ L h m₁ → News h₀ L h news₁ →
      wpAny (model prog w) A (isTrue test env (eval test env)) (fun b s₂ => if b = true then wpAny (model prog w) A (execs body env) (WEnd h₀ L s (fun m' news' g' => ∃ k', k' < k ∧ J k' m' news' g') Q) (fun _ _ => False) s₂ else Q .next s₂) (fun _ _ => False) { s with heap := h, toks := tk, gens := g₁ }) :
    wpAny (model prog w) A (exec (.While test body [] pos) env) Q E s := by
  refine wpAny_While (codeAny_whileLoop (fun k s' => ∃ m' news' g' h' tk', s' = { s with heap := h', toks := tk', gens := g' } ∧ Fr h₀ L h' m' ∧ News h₀ L h' news' ∧ J k m' news' g') ?_ n ⟨m, news, s.gens, _, s.toks, rfl, F, N, j0⟩)
  rintro k s' ⟨m', news', g', h', tk', rfl, F', N', j'⟩
  refine wpAny_mono (turn k m' news' g' h' tk' j' F' N') (fun b s₂ hb => ?_) fun _ _ e => e.elim
  cases b with
  | false => exact wpAny_execs_nil hb
  | true =>
    refine wpAny_mono hb (fun f s₃ h₃ => ?_) fun _ _ e => e.elim
    have again : (∃ h' tk' g' m' news', s₃ = { s with heap := h', toks := tk', gens := g' } ∧ Fr h₀ L h' m' ∧ News h₀ L h' news' ∧ ∃ k', k' < k ∧ J k' m' news' g') →
        ∃ m, m < k ∧ ∃ m' news' g' h' tk', s₃ = { s with heap := h', toks := tk', gens := g' } ∧ Fr h₀ L h' m' ∧ News h₀ L h' news' ∧ J m m' news' g' := by
      rintro ⟨h₅, tk₅, g₅, m₅, news₅, rfl, F₅, N₅, k', hk, j₅⟩
      exact ⟨k', hk, m₅, news₅, g₅, h₅, tk₅, rfl, F₅, N₅, j₅⟩
    cases f with
    | next => exact again h₃
    | cont => exact again h₃
    | brk => exact h₃
    | ret v => exact h₃
end
noncomputable def Lets (x : Str) : Prop := ∀ c ∈ x.cps.toList, c = 115 ∨ c = 83
theorem lets_item {x : Str} {i : Int} (h : Lets x) (h0 : 0 ≤ i) (h1 : i < (x.length : Int)) : LetS (Txt.item x i) := by
  obtain ⟨c, hc⟩ := StrLaws.some_at h0 h1
  have e : Txt.charAt x i = some c := StrLaws.at_nonneg h0 hc
  have hm : c ∈ x.cps.toList := by
    rw [Array.getElem?_eq_some_iff] at hc
    obtain ⟨_, rfl⟩ := hc
    exact Array.getElem_mem_toList _
  unfold Txt.item
  rw [e]
  rcases h c hm with rfl | rfl
  · exact .inl rfl
  · exact .inr rfl
theorem lets_slice {x : Str} {l u : Option Int} (h : Lets x) : Lets (Txt.slice x l u) := by
  unfold Txt.slice
  split
  · exact h
  · intro c hc
    have hc : c ∈ List.filterMap (x.cps[·]?) (Builtin.Str.strSliceIndices l u 1 x.length) := by simpa using hc
    obtain ⟨i, _, hi⟩ := List.mem_filterMap.mp hc
    rw [Array.getElem?_eq_some_iff] at hi
    obtain ⟨_, rfl⟩ := hi
    exact h _ (Array.getElem_mem_toList _)
/-- what the end of a while loop's test owes -/
noncomputable def WOut (h₀ : Heap) (L : Addr) (s : Shared) (JE : (Str → Option Value) → List (Addr × Obj) → Array GenState → Prop) (s' : Shared) : Prop :=
  ∃ h' tk' g' m' news', s' = { s with heap := h', toks := tk', gens := g' } ∧ Fr h₀ L h' m' ∧ News h₀ L h' news' ∧ JE m' news' g'
/-- what a cut text owes -/
noncomputable def SOut (h₀ : Heap) (L : Addr) (s : Shared) (m : Str → Option Value) (news : List (Addr × Obj)) (y : Str) (v : Value) (s' : Shared) : Prop :=
  ∃ h' t' tk', v = .str y t' ∧ s' = { s with heap := h', toks := tk' } ∧ Fr h₀ L h' m ∧ News h₀ L h' news
section
variable {prog : Program} {w : World} {A : Around} {E : Value → Shared → Prop} {s : Shared} {h₀ : Heap} {L : Addr} {m : Str → Option Value} {env : Env}
theorem While_C {test : PySem.Expr} {body : List Stmt} {pos : Pos} {Q : Flow → Shared → Prop} {news : List (Addr × Obj)} (n : Nat) (J : Nat → (Str → Option Value) → List (Addr × Obj) → Array GenState → Prop) (JE : (Str → Option Value) → List (Addr × Obj) → Array GenState → Prop)
    (F : Fr h₀ L s.heap m) (N : News h₀ L s.heap news) (j0 : J n m news s.gens)
    (turn : ∀ k m₁ news₁ g₁ h tk, J k m₁ news₁ g₁ → Fr h₀ L h m₁ → News h₀ L h news₁ →
      wpAny (model prog w) A (isTrue test env (eval test env)) (fun b s₂ => if b = true then wpAny (model prog w) A (execs body env) (WEnd h₀ L s (fun m' news' g' => ∃ k', k' < k ∧ J k' m' news' g') (fun _ _ => False)) (fun _ _ => False) s₂ else WOut h₀ L s JE s₂) (fun _ _ => False) { s with heap := h, toks := tk, gens := g₁ })
    (done : ∀ m' news' g' h tk, JE m' news' g' → Fr h₀ L h m' → News h₀ L h news' → Q .next { s with heap := h, toks := tk, gens := g' }) :
    wpAny (model prog w) A (exec (.While test body [] pos) env) Q E s := by
  refine While_M n J F N j0 fun k m₁ news₁ g₁ h tk j F₁ N₁ => ?_
  refine wpAny_mono (turn k m₁ news₁ g₁ h tk j F₁ N₁) (fun b s₂ hb => ?_) fun _ _ e => e
  cases b with
  | false =>
    simp only [Bool.false_eq_true, if_false] at hb ⊢
    obtain ⟨h', tk', g', m', news', rfl, F', N', j'⟩ := hb
    exact done _ _ _ _ _ j' F' N'
  | true =>
    simp only [if_true] at hb ⊢
    refine wpAny_mono hb (fun f s₃ h₃ => ?_) fun _ _ e => e
    cases f with
    | next => exact h₃
    | cont => exact h₃
    | brk => exact h₃.elim
    | ret v => exact h₃.elim
theorem WOut.intro {JE : (Str → Option Value) → List (Addr × Obj) → Array GenState → Prop} {h' : Heap} {tk' : Nat} {g' : Array GenState} {m' : Str → Option Value} {news' : List (Addr × Obj)} (F : Fr h₀ L h' m') (N : News h₀ L h' news') (j : JE m' news' g') : WOut h₀ L s JE { s with heap := h', toks := tk', gens := g' } := ⟨_, _, _, _, _, rfl, F, N, j⟩
/-- a slice's second place: nought stands for none -/
noncomputable def postU (p : Int) : Option Int := if p = 0 then none else some p
theorem postU_zero : postU 0 = none := rfl
theorem postU_ne {p : Int} (h : p ≠ 0) : postU p = some p := if_neg h
/-- y is x up to p -/
noncomputable def IsSl (y x : Str) (p : Int) : Prop := y = Txt.slice x none (postU p)
noncomputable def IsSn (y x : Str) (p : Int) : Prop := y = Txt.slice x (some p) none
theorem eval_pre {name : Str} {scope : Scope} {a : Addr} {cd : Value} {xn pn : Str} {p1 p2 p5 p6 : Pos} {x : Str} {t u : Tok} {p : Int} {news : List (Addr × Obj)} {Q : Value → Shared → Prop}
    (F : Fr h₀ L s.heap m) (N : News h₀ L s.heap news) (hl : x.length ≤ 24) (hL : Lets x) (hx : m xn = some (.str x t)) (hp : m pn = some (.int p u))
    (hk : scope.kind = .function) (hkx : (envOf name scope L a cd).kindOf xn = some .local) (hdx : (xn == ("__debug__" : Str)) = false)
    (hkp : (envOf name scope L a cd).kindOf pn = some .local) (hdp : (pn == ("__debug__" : Str)) = false)
    (h2 : ∀ y h' t' tk', IsSn y x p → y.length ≤ 24 → Lets y → Fr h₀ L h' m → News h₀ L h' news → Q (.str y t') { s with heap := h', toks := tk' }) :
    wpAny (model prog w) A (eval (.Subscript (.Name xn p1) (.Slice (some (.Name pn p2)) none none p5) p6) (envOf name scope L a cd)) Q E s := by
  have hs : x.length ≤ sizeLine := Nat.le_trans hl (by rw [sizeLine_eq]; decide)
  refine Subscript_ (ld F hx ?_ hk hkx hdx)
  refine wpAny_Slice (evalPart_some_step (ld F hp (evalPart_none_step (evalPart_none_step ?_)) hk hkp hdp))
  exact slice_strN_sn F N (fun h' t' k F' N' => h2 _ h' t' k rfl (Nat.le_trans (Txt.slice_le _ _ _) hl) (lets_slice hL) F' N') (hsz := hs)
theorem eval_post {name : Str} {scope : Scope} {a : Addr} {cd : Value} {xn pn : Str} {p1 p2 p3 p4 p5 p6 : Pos} {x : Str} {t u : Tok} {p : Int} {news : List (Addr × Obj)} {Q : Value → Shared → Prop}
    (F : Fr h₀ L s.heap m) (N : News h₀ L s.heap news) (hl : x.length ≤ 24) (hL : Lets x) (hx : m xn = some (.str x t)) (hp : m pn = some (.int p u))
    (hk : scope.kind = .function) (hkx : (envOf name scope L a cd).kindOf xn = some .local) (hdx : (xn == ("__debug__" : Str)) = false)
    (hkp : (envOf name scope L a cd).kindOf pn = some .local) (hdp : (pn == ("__debug__" : Str)) = false)
    (h2 : ∀ y h' t' tk', IsSl y x p → y.length ≤ 24 → Lets y → Fr h₀ L h' m → News h₀ L h' news → Q (.str y t') { s with heap := h', toks := tk' }) :
    wpAny (model prog w) A (eval (.Subscript (.Name xn p1) (.Slice none (some (.BoolOp .Or [.Name pn p2, .Constant .none 0 p3] p4)) none p5) p6) (envOf name scope L a cd)) Q E s := by
  have hs : x.length ≤ sizeLine := Nat.le_trans hl (by rw [sizeLine_eq]; decide)
  refine Subscript_ (ld F hx ?_ hk hkx hdx)
  refine wpAny_Slice (evalPart_none_step (evalPart_some_step (BoolOp_or (ld F hp (truthy_int ?_) hk hkp hdp))))
  by_cases hz : p = 0
  · subst hz
    refine BoolOp_one (Constant_none (evalPart_none_step ?_))
    exact slice_strN_nn F N (fun h' t' k F' N' => h2 _ h' t' k rfl (Nat.le_trans (Txt.slice_le _ _ _) hl) (lets_slice hL) F' N') (hsz := hs)
  · have hb : (p != 0) = true := by simpa using hz
    rw [hb]
    refine evalPart_none_step ?_
    exact slice_strN_ns F N (fun h' t' k F' N' => h2 _ h' t' k (by unfold IsSl; rw [postU_ne hz]) (Nat.le_trans (Txt.slice_le _ _ _) hl) (lets_slice hL) F' N') (hsz := hs)
end
/-- how far two texts begin alike -/
noncomputable def preC (x y : Str) (p : Int) : Bool := decide (((Txt.slice x (some p) none).length : Int) ≠ 0) && (decide (((Txt.slice y (some p) none).length : Int) ≠ 0) && (Txt.item x p == Txt.item y p))
noncomputable def preGo (x y : Str) : Nat → Int → Int
  | 0, p => p
  | k + 1, p => if preC x y p then preGo x y k (p + 1) else p
noncomputable def preOf (x y : Str) : Int := preGo x y 25 0
theorem sn_pos {x : Str} {p : Int} (h0 : 0 ≤ p) (h : ((Txt.slice x (some p) none).length : Int) ≠ 0) : p < (x.length : Int) := by
  rcases slice_sn_cases' x p with ⟨h1, _⟩ | ⟨_, h2⟩ | ⟨_, h2, _⟩
  · omega
  · exact absurd h2 h
  · exact h2
theorem sn_pos2 {x y : Str} {p : Int} (h0 : 0 ≤ p) (i : IsSn y x p) (h : (y.length : Int) ≠ 0) : p < (x.length : Int) := by subst i; exact sn_pos h0 h
noncomputable def IsPre (p : Int) (x y : Str) : Prop := p = preOf x y
theorem pre_stop {x y : Str} {p : Int} (h : preC x y p = false) : ∀ k, preGo x y k p = p
  | 0 => rfl
  | k + 1 => by show (if preC x y p then _ else _) = _; rw [h]; rfl
theorem pre_go {x y : Str} {p : Int} {k : Nat} (h : preC x y p = true) (hk : p + k = 25) (h0 : 0 ≤ p) (hx : x.length ≤ 24) : ∃ k', k = k' + 1 ∧ preGo x y k p = preGo x y k' (p + 1) := by
  have h' := h
  unfold preC at h'
  rw [Bool.and_eq_true, decide_eq_true_eq] at h'
  have := sn_pos h0 h'.1
  obtain ⟨k', rfl⟩ : ∃ k', k = k' + 1 := ⟨k - 1, by omega⟩
  refine ⟨k', rfl, ?_⟩
  show (if preC x y p then _ else _) = _
  rw [h]; rfl
/-- how far, from the end -/
noncomputable def postC (x y : Str) (p : Int) : Bool := decide (((Txt.slice x none (postU p)).length : Int) ≠ 0) && (decide (((Txt.slice y none (postU p)).length : Int) ≠ 0) && (Txt.item x (p - 1) == Txt.item y (p - 1)))
noncomputable def postGo (x y : Str) : Nat → Int → Int
  | 0, p => p
  | k + 1, p => if postC x y p then postGo x y k (p - 1) else p
noncomputable def postOf (x y : Str) : Int := postGo x y 25 0
theorem ns_pos {x : Str} {p : Int} (h0 : p ≤ 0) (h : ((Txt.slice x none (postU p)).length : Int) ≠ 0) : -p < (x.length : Int) := by
  by_cases hz : p = 0
  · subst hz
    rw [postU_zero] at h
    have := Txt.slice_le x none none
    omega
  · rw [postU_ne hz] at h
    rcases slice_ns_cases' x p with ⟨h1, h2⟩ | ⟨h1, _⟩ | ⟨h1, _⟩ <;> omega
noncomputable def IsPost (p : Int) (x y : Str) : Prop := p = postOf x y
theorem post_stop {x y : Str} {p : Int} (h : postC x y p = false) : ∀ k, postGo x y k p = p
  | 0 => rfl
  | k + 1 => by show (if postC x y p then _ else _) = _; rw [h]; rfl
theorem post_go {x y : Str} {p : Int} {k : Nat} (h : postC x y p = true) (hk : -p + k = 25) (h0 : p ≤ 0) (hx : x.length ≤ 24) : ∃ k', k = k' + 1 ∧ postGo x y k p = postGo x y k' (p - 1) := by
  have h' := h
  unfold postC at h'
  rw [Bool.and_eq_true, decide_eq_true_eq] at h'
  have := ns_pos h0 h'.1
  obtain ⟨k', rfl⟩ : ∃ k', k = k' + 1 := ⟨k - 1, by omega⟩
  refine ⟨k', rfl, ?_⟩
  show (if postC x y p then _ else _) = _
  rw [h]; rfl
theorem preC_no1 {x y x' : Str} {p : Int} (i : IsSn x' x p) (h : (x'.length : Int) = 0) : preC x y p = false := by subst i; unfold preC; rw [decide_eq_false (by omega)]; rfl
theorem preC_no2 {x y y' : Str} {p : Int} (i : IsSn y' y p) (h : (y'.length : Int) = 0) : preC x y p = false := by subst i; unfold preC; rw [decide_eq_false (p := ((Txt.slice y (some p) none).length : Int) ≠ 0) (by omega)]; simp
theorem preC_no3 {x y : Str} {p : Int} (h : (Txt.item x p == Txt.item y p) = false) : preC x y p = false := by unfold preC; rw [h]; simp
theorem preC_yes {x y x' y' : Str} {p : Int} (i1 : IsSn x' x p) (i2 : IsSn y' y p) (h1 : (x'.length : Int) ≠ 0) (h2 : (y'.length : Int) ≠ 0) (h : (Txt.item x p == Txt.item y p) = true) : preC x y p = true := by
  subst i1; subst i2; unfold preC; rw [h, decide_eq_true h1, decide_eq_true h2]; rfl
theorem postC_no1 {x y x' : Str} {p : Int} (i : IsSl x' x p) (h : (x'.length : Int) = 0) : postC x y p = false := by subst i; unfold postC; rw [decide_eq_false (by omega)]; rfl
theorem postC_no2 {x y y' : Str} {p : Int} (i : IsSl y' y p) (h : (y'.length : Int) = 0) : postC x y p = false := by subst i; unfold postC; rw [decide_eq_false (p := ((Txt.slice y none (postU p)).length : Int) ≠ 0) (by omega)]; simp
theorem postC_no3 {x y : Str} {p : Int} (h : (Txt.item x (p - 1) == Txt.item y (p - 1)) = false) : postC x y p = false := by unfold postC; rw [h]; simp
theorem postC_yes {x y x' y' : Str} {p : Int} (i1 : IsSl x' x p) (i2 : IsSl y' y p) (h1 : (x'.length : Int) ≠ 0) (h2 : (y'.length : Int) ≠ 0) (h : (Txt.item x (p - 1) == Txt.item y (p - 1)) = true) : postC x y p = true := by
  subst i1; subst i2; unfold postC; rw [h, decide_eq_true h1, decide_eq_true h2]; rfl
theorem lets_sn {x y : Str} {p : Int} (h : Lets x) (i : IsSn y x p) : Lets y := by subst i; exact lets_slice h
theorem lets_sl {x y : Str} {p : Int} (h : Lets x) (i : IsSl y x p) : Lets y := by subst i; exact lets_slice h
/-- one turn over the row -/
noncomputable def innGo (a ch : Str) : Nat → Nat → Int → Int → Int → List Int → Int × Int × List Int
  | 0, _, _, r, mn, row => (r, mn, row)
  | k + 1, j, d, r, mn, row =>
    let d' := row.getD j 0
    let n := (if d' < r then d' else r) + 2
    let q := d + subOf ch (Txt.item a (j : Nat))
    let r' := if q < n then q else n
    innGo a ch k (j + 1) d' r' (if r' < mn then r' else mn) (row.set j r')
noncomputable def dpGo (a b : Str) (mx : Int) : Nat → Nat → Int → List Int → Int
  | 0, _, r, _ => r
  | k + 1, i, _, row =>
    let p := innGo a (Txt.item b (i : Nat)) a.length 0 ((i : Nat) * 2) ((i : Nat) * 2) 9223372036854775807 row
    if mx < p.2.1 then mx + 1 else dpGo a b mx k (i + 1) p.1 p.2.2
noncomputable def row0 (n : Nat) : List Int := rangeInts 2 2 n
noncomputable def dpOf (a b : Str) (mx : Int) : Int := dpGo a b mx b.length 0 0 (row0 a.length)
/-- what is still to come of the turn over the row -/
noncomputable def InnI (a ch : Str) (j : Nat) (d r mn : Int) (row : List Int) (R : Int × Int × List Int) : Prop := innGo a ch (a.length - j) j d r mn row = R
noncomputable def DpI (a b : Str) (mx : Int) (i : Nat) (r : Int) (row : List Int) (D : Int) : Prop := dpGo a b mx (b.length - i) i r row = D
noncomputable def innRes (a b : Str) (i : Nat) (row : List Int) : Int × Int × List Int := innGo a (Txt.item b (i : Nat)) a.length 0 ((i : Nat) * 2) ((i : Nat) * 2) 9223372036854775807 row
noncomputable def IsInn (r mn : Int) (row' : List Int) (a b : Str) (i : Nat) (row : List Int) : Prop := innRes a b i row = (r, mn, row')
theorem inn_next {a ch : Str} {j : Nat} {d r mn d' r' mn' : Int} {row row' : List Int} {R : Int × Int × List Int} (h : InnI a ch j d r mn row R) (hj : j < a.length)
    (e1 : d' = row.getD j 0) {n q : Int} (e0 : n = (if d' < r then d' else r) + 2) (e5 : q = d + subOf ch (Txt.item a (j : Nat))) (e2 : r' = if q < n then q else n) (e3 : mn' = if r' < mn then r' else mn) (e4 : row' = row.set j r') : InnI a ch (j + 1) d' r' mn' row' R := by
  subst e1; subst e4; subst e3; subst e2; subst e0; subst e5
  unfold InnI at h ⊢
  rw [show a.length - j = (a.length - (j + 1)) + 1 from by omega] at h
  exact h
theorem inn_end {a ch : Str} {d r mn : Int} {row : List Int} {R : Int × Int × List Int} (h : InnI a ch a.length d r mn row R) : R = (r, mn, row) := by
  unfold InnI at h; rw [Nat.sub_self] at h; exact h.symm
theorem dp_next {a b : Str} {mx : Int} {i : Nat} {r r' mn' D : Int} {row row' : List Int} (h : DpI a b mx i r row D) (hi : i < b.length) (e : IsInn r' mn' row' a b i row) (hm : ¬ mx < mn') : DpI a b mx (i + 1) r' row' D := by
  unfold DpI at h ⊢
  rw [show b.length - i = (b.length - (i + 1)) + 1 from by omega] at h
  unfold IsInn at e
  have h2 : (if mx < (innRes a b i row).2.1 then mx + 1 else dpGo a b mx (b.length - (i + 1)) (i + 1) (innRes a b i row).1 (innRes a b i row).2.2) = D := h
  rw [e] at h2
  simp only [if_neg hm] at h2
  exact h2
theorem dp_early {a b : Str} {mx : Int} {i : Nat} {r r' mn' D : Int} {row row' : List Int} (h : DpI a b mx i r row D) (hi : i < b.length) (e : IsInn r' mn' row' a b i row) (hm : mx < mn') : D = mx + 1 := by
  unfold DpI at h
  rw [show b.length - i = (b.length - (i + 1)) + 1 from by omega] at h
  unfold IsInn at e
  have h2 : (if mx < (innRes a b i row).2.1 then mx + 1 else dpGo a b mx (b.length - (i + 1)) (i + 1) (innRes a b i row).1 (innRes a b i row).2.2) = D := h
  rw [e] at h2
  simp only [if_pos hm] at h2
  exact h2.symm
theorem dp_end {a b : Str} {mx r D : Int} {row : List Int} (h : DpI a b mx b.length r row D) : D = r := by
  unfold DpI at h; rw [Nat.sub_self] at h; exact h.symm
theorem row_size {n : Nat} (h : n ≤ 24) : Builtin.Range.small 2 (2 * ((n : Int) + 1)) 2 = true ∧ Builtin.Range.rangeSize 2 (2 * ((n : Int) + 1)) 2 = (n : Int) := by
  have : ∀ n : Fin 25, Builtin.Range.small 2 (2 * (((n.1 : Nat) : Int) + 1)) 2 = true ∧ Builtin.Range.rangeSize 2 (2 * (((n.1 : Nat) : Int) + 1)) 2 = ((n.1 : Nat) : Int) := by decide +kernel
  exact this ⟨n, by omega⟩
section
variable {prog : Program} {w : World} {A : Around} {E : Value → Shared → Prop} {s : Shared} {h₀ : Heap} {L : Addr} {m : Str → Option Value} {env : Env}
theorem list_row {r : Addr} {t u v : Tok} {n : Nat} {news : List (Addr × Obj)} {Q : Value → Shared → Prop} (hh : A.handled = none) (F : Fr h₀ L s.heap m) (N : News h₀ L s.heap news)
    (hr : IsRange s.heap r 2 (2 * ((n : Int) + 1)) 2 t u v) (hn : n ≤ 24)
    (hQ : ∀ lr h' tk vs k, IntsAre vs (row0 n) → Fr h₀ L h' m → News h₀ L h' ((lr, listOf vs.toArray k) :: news) → (∀ p ∈ news, p.1 < lr) → Q (.ref lr) { s with heap := h', toks := tk }) :
    wpAny (model prog w) A (call (.type "list") [.ref r]) Q E s := by
  refine call_list_range hh hr (row_size hn).1 (row_size hn).2 (Nat.le_trans hn (by decide)) fun h' tk acc' c' hk hS' hacc => ?_
  refine hQ _ h' tk acc'.toList c' ?_ (F.keeps hk) ?_ fun p hp => Heap.lt_size (N p hp).1
  · refine IntsAre.ofCarried (carriedAll_of_get _ _ (by simp [hacc.1, row0, rangeInts_length]) fun j v hv => ?_)
    have hv' : acc'[j]? = some v := by simpa using hv
    obtain ⟨tk, rfl⟩ := hacc.2 j v hv'
    have hj : j < n := by
      have := (Array.getElem?_eq_some_iff.mp hv').1
      rw [hacc.1] at this; exact this
    exact ⟨.int (2 + (j : Nat) * 2), by simp [row0, rangeInts_get hj], .int _ _⟩
  · intro p hp
    rcases List.mem_cons.mp hp with rfl | hp
    · refine ⟨by simpa using hS', Ne.symm (Nat.ne_of_lt F.ns.lt), ?_⟩
      cases e : h₀.get? s.heap.objs.size with
      | none => rfl
      | some o => exact absurd (Heap.lt_size (F.keep _ _ e)) (Nat.lt_irrefl _)
    · exact ⟨hk _ _ (N p hp).1, (N p hp).2⟩
end
abbrev dpM (m : Str → Option Value) (v0 v1 v2 v3 v4 : Value) : Str → Option Value := fun y => if y = Str.ofString "a" then some v0 else if y = Str.ofString "b" then some v1 else if y = Str.ofString "max_cost" then some v2 else if y = Str.ofString "row" then some v3 else if y = Str.ofString "result" then some v4 else m y
theorem dpM_eq {m : Str → Option Value} {v0 v1 v2 v3 v4 : Value} (h0 : m (Str.ofString "a") = some v0) (h1 : m (Str.ofString "b") = some v1) (h2 : m (Str.ofString "max_cost") = some v2) (h3 : m (Str.ofString "row") = some v3) (h4 : m (Str.ofString "result") = some v4) : ∀ y, m y = dpM m v0 v1 v2 v3 v4 y := by
  intro y; unfold dpM
  split
  · next q => rw [q]; exact h0
  · split
    · next q => rw [q]; exact h1
    · split
      · next q => rw [q]; exact h2
      · split
        · next q => rw [q]; exact h3
        · split
          · next q => rw [q]; exact h4
          · rfl
abbrev innM (m : Str → Option Value) (v0 v1 v2 v3 v4 v5 v6 v7 : Value) : Str → Option Value := fun y => if y = Str.ofString "a" then some v0 else if y = Str.ofString "b" then some v1 else if y = Str.ofString "max_cost" then some v2 else if y = Str.ofString "row" then some v3 else if y = Str.ofString "result" then some v4 else if y = Str.ofString "bchar" then some v5 else if y = Str.ofString "distance" then some v6 else if y = Str.ofString "minimum" then some v7 else m y
theorem innM_eq {m : Str → Option Value} {v0 v1 v2 v3 v4 v5 v6 v7 : Value} (h0 : m (Str.ofString "a") = some v0) (h1 : m (Str.ofString "b") = some v1) (h2 : m (Str.ofString "max_cost") = some v2) (h3 : m (Str.ofString "row") = some v3) (h4 : m (Str.ofString "result") = some v4) (h5 : m (Str.ofString "bchar") = some v5) (h6 : m (Str.ofString "distance") = some v6) (h7 : m (Str.ofString "minimum") = some v7) : ∀ y, m y = innM m v0 v1 v2 v3 v4 v5 v6 v7 y := by
  intro y; unfold innM
  split
  · next q => rw [q]; exact h0
  · split
    · next q => rw [q]; exact h1
    · split
      · next q => rw [q]; exact h2
      · split
        · next q => rw [q]; exact h3
        · split
          · next q => rw [q]; exact h4
          · split
            · next q => rw [q]; exact h5
            · split
              · next q => rw [q]; exact h6
              · split
                · next q => rw [q]; exact h7
                · rfl

/-- what holds ahead of turn i of the outer loop -/
noncomputable def DpJ (a b : Str) (t u v : Tok) (mx D : Int) (lr : Addr) (rest : List (Addr × Obj)) (gs : Array GenState) (i : Nat) (m' : Str → Option Value) (news' : List (Addr × Obj)) (g' : Array GenState) : Prop :=
  g' = gs ∧ ∃ mm r tr vs row k, m' = dpM mm (.str a t) (.str b u) (.int mx v) (.ref lr) (.int r tr) ∧ DpI a b mx i r row D ∧ IntsAre vs row ∧ row.length = a.length ∧ news' = (lr, listOf vs.toArray k) :: rest
noncomputable def InnJ (a b ch : Str) (t u v tc : Tok) (mx : Int) (R : Int × Int × List Int) (I0 : Addr) (oI0 : Obj) (lr : Addr) (rest : List (Addr × Obj)) (gs : Array GenState) (j : Nat) (m' : Str → Option Value) (news' : List (Addr × Obj)) (g' : Array GenState) : Prop :=
  g' = gs ∧ ∃ mm r tr d td mn tn vs row k, m' = innM mm (.str a t) (.str b u) (.int mx v) (.ref lr) (.int r tr) (.str ch tc) (.int d td) (.int mn tn) ∧ InnI a ch j d r mn row R ∧ IntsAre vs row ∧ row.length = a.length ∧ news' = (I0, oI0) :: (lr, listOf vs.toArray k) :: rest
theorem small24 {n : Nat} (h : n ≤ 24) : Builtin.Range.small 0 (n : Int) 1 = true ∧ Builtin.Range.rangeSize 0 (n : Int) 1 = (n : Int) := by
  have : ∀ n : Fin 25, Builtin.Range.small 0 ((n.1 : Nat) : Int) 1 = true ∧ Builtin.Range.rangeSize 0 ((n.1 : Nat) : Int) 1 = ((n.1 : Nat) : Int) := by decide +kernel
  exact this ⟨n, by omega⟩
section
variable {prog : Program} {w : World} {A : Around} {E : Value → Shared → Prop} {s : Shared} {h₀ : Heap} {L : Addr} {m : Str → Option Value} {env : Env}
theorem dp_loop {a b : Str} {t u v : Tok} {mx : Int} {lr : Addr} {rest : List (Addr × Obj)} {x : Str} {body : List Stmt} {Q : Flow → Shared → Prop} {r : Addr} {q1 q2 q3 t0 : Tok} {vs0 : List Value} {k0 : Nat}
    (hh : A.handled = none) (F : Fr h₀ L s.heap (dpM m (.str a t) (.str b u) (.int mx v) (.ref lr) (.int 0 t0))) (N : News h₀ L s.heap ((lr, listOf vs0.toArray k0) :: rest)) (hvs : IntsAre vs0 (row0 a.length)) (hr : IsRange s.heap r 0 (b.length : Int) 1 q1 q2 q3) (hb : b.length ≤ 24)
    (turn : ∀ (i : Nat) mm rr tr (vs : List Value) row (k : Nat) I oI h tk t', i < b.length → DpI a b mx i rr row (dpOf a b mx) → IntsAre vs row → row.length = a.length → LCg.Off1 I ((lr, listOf vs.toArray k) :: rest) → Fr h₀ L h (dpM mm (.str a t) (.str b u) (.int mx v) (.ref lr) (.int rr tr)) → News h₀ L h ((I, oI) :: (lr, listOf vs.toArray k) :: rest) →
      wpAny (model prog w) A (storeName env x (.int (i : Nat) t')) (fun _ s₂ => wpAny (model prog w) A (execs body env) (StepEnd h₀ L s I oI (DpJ a b t u v mx (dpOf a b mx) lr rest s.gens (i + 1)) Q) (fun _ _ => False) s₂) (fun _ _ => False) { s with heap := h, toks := tk })
    (done : ∀ mm tr (vs : List Value) (k : Nat) h tk, Fr h₀ L h (dpM mm (.str a t) (.str b u) (.int mx v) (.ref lr) (.int (dpOf a b mx) tr)) → News h₀ L h ((lr, listOf vs.toArray k) :: rest) → Q .next { s with heap := h, toks := tk }) :
    RLoop prog w A h₀ L env x body Q (.ref r) s := by
  refine RLoop.intro (n := b.length) (DpJ a b t u v mx (dpOf a b mx) lr rest s.gens) hh F N hr (small24 hb).1 (small24 hb).2 ⟨rfl, m, 0, t0, vs0, row0 a.length, k0, rfl, rfl, hvs, by simp [row0, rangeInts_length], rfl⟩ ?_ ?_
  · rintro i m₁ news₁ g₁ I oI h tk t' hi ⟨rfl, mm, rr, tr, vs, row, k, rfl, hd, hv, hl, rfl⟩ o F₁ N₁
    rw [Int.zero_add]
    exact turn i mm rr tr vs row k I oI h tk t' hi hd hv hl o F₁ N₁
  · rintro m' news' g' h tk ⟨rfl, mm, rr, tr, vs, row, k, rfl, hd, hv, hl, rfl⟩ F₁ N₁
    have e := dp_end hd
    subst e
    exact done mm tr vs k h tk F₁ N₁
theorem inn_loop {a b ch : Str} {t u v tc : Tok} {mx : Int} {lr I0 : Addr} {oI0 : Obj} {rest : List (Addr × Obj)} {x : Str} {body : List Stmt} {Q : Flow → Shared → Prop} {r : Addr} {q1 q2 q3 t0 t1 t2 : Tok} {vs0 : List Value} {k0 : Nat} {i0 : Nat} {row : List Int}
    (hh : A.handled = none) (F : Fr h₀ L s.heap (innM m (.str a t) (.str b u) (.int mx v) (.ref lr) (.int ((i0 : Nat) * 2) t0) (.str ch tc) (.int ((i0 : Nat) * 2) t1) (.int 9223372036854775807 t2))) (N : News h₀ L s.heap ((I0, oI0) :: (lr, listOf vs0.toArray k0) :: rest)) (hvs : IntsAre vs0 row) (hl0 : row.length = a.length) (hc : ch = Txt.item b (i0 : Nat)) (hr : IsRange s.heap r 0 (a.length : Int) 1 q1 q2 q3) (ha : a.length ≤ 24)
    (turn : ∀ (j : Nat) mm rr tr d td mn tn (vs : List Value) row' (k : Nat) I oI h tk t', j < a.length → InnI a ch j d rr mn row' (innRes a b i0 row) → IntsAre vs row' → row'.length = a.length → LCg.Off1 I ((I0, oI0) :: (lr, listOf vs.toArray k) :: rest) → Fr h₀ L h (innM mm (.str a t) (.str b u) (.int mx v) (.ref lr) (.int rr tr) (.str ch tc) (.int d td) (.int mn tn)) → News h₀ L h ((I, oI) :: (I0, oI0) :: (lr, listOf vs.toArray k) :: rest) →
      wpAny (model prog w) A (storeName env x (.int (j : Nat) t')) (fun _ s₂ => wpAny (model prog w) A (execs body env) (StepEnd h₀ L s I oI (InnJ a b ch t u v tc mx (innRes a b i0 row) I0 oI0 lr rest s.gens (j + 1)) Q) (fun _ _ => False) s₂) (fun _ _ => False) { s with heap := h, toks := tk })
    (done : ∀ mm rr tr d td mn tn (vs : List Value) row' (k : Nat) h tk, IsInn rr mn row' a b i0 row → IntsAre vs row' → row'.length = a.length → Fr h₀ L h (innM mm (.str a t) (.str b u) (.int mx v) (.ref lr) (.int rr tr) (.str ch tc) (.int d td) (.int mn tn)) → News h₀ L h ((I0, oI0) :: (lr, listOf vs.toArray k) :: rest) → Q .next { s with heap := h, toks := tk }) :
    RLoop prog w A h₀ L env x body Q (.ref r) s := by
  refine RLoop.intro (n := a.length) (InnJ a b ch t u v tc mx (innRes a b i0 row) I0 oI0 lr rest s.gens) hh F N hr (small24 ha).1 (small24 ha).2 ⟨rfl, m, _, t0, _, t1, _, t2, vs0, row, k0, rfl, by subst hc; rfl, hvs, hl0, rfl⟩ ?_ ?_
  · rintro j m₁ news₁ g₁ I oI h tk t' hj ⟨rfl, mm, rr, tr, d, td, mn, tn, vs, row', k, rfl, hi, hv, hl, rfl⟩ o F₁ N₁
    rw [Int.zero_add]
    exact turn j mm rr tr d td mn tn vs row' k I oI h tk t' hj hi hv hl o F₁ N₁
  · rintro m' news' g' h tk ⟨rfl, mm, rr, tr, d, td, mn, tn, vs, row', k, rfl, hi, hv, hl, rfl⟩ F₁ N₁
    exact done mm rr tr d td mn tn vs row' k h tk (inn_end hi) hv hl F₁ N₁
/-- the end of an outer turn -/
theorem dp_step {a b : Str} {t u v tr : Tok} {mx D rr rr' mn : Int} {row row' : List Int} {lr I : Addr} {oI : Obj} {rest : List (Addr × Obj)} {i k : Nat} {vs : List Value} {Q : Flow → Shared → Prop} {h' : Heap} {m' : Str → Option Value} {tk' : Nat}
    (hd : DpI a b mx i rr row D) (hi : i < b.length) (hI : IsInn rr' mn row' a b i row) (hm : ¬ mx < mn) (hv : IntsAre vs row') (hl : row'.length = a.length) {ob : Obj} (o : LCg.Off1 I ((lr, ob) :: rest))
    (F : Fr h₀ L h' m') (N : News h₀ L h' ((I, oI) :: (lr, listOf vs.toArray k) :: rest)) (h1 : m' (Str.ofString "a") = some (.str a t)) (h2 : m' (Str.ofString "b") = some (.str b u)) (h3 : m' (Str.ofString "max_cost") = some (.int mx v)) (h4 : m' (Str.ofString "row") = some (.ref lr)) (h5 : m' (Str.ofString "result") = some (.int rr' tr)) :
    StepEnd h₀ L s I oI (DpJ a b t u v mx D lr rest s.gens (i + 1)) Q .next { s with heap := h', toks := tk' } :=
  StepEnd.next _ (fr_eq F (dpM_eq h1 h2 h3 h4 h5)) N ⟨o.1, o.2⟩ ⟨rfl, _, rr', tr, vs, row', k, rfl, dp_next hd hi hI hm, hv, hl, rfl⟩
/-- the end of an inner turn -/
theorem inn_step {a b ch : Str} {t u v tc tr td tn : Tok} {mx d rr mn d' rr' mn' : Int} {R : Int × Int × List Int} {row : List Int} {lr I I0 : Addr} {oI oI0 : Obj} {rest : List (Addr × Obj)} {j k : Nat} {vs : List Value} {Q : Flow → Shared → Prop} {h' : Heap} {m' : Str → Option Value} {tk' : Nat}
    (hi : InnI a ch j d rr mn row R) (hj : j < a.length) (hl : row.length = a.length) {ob : Obj} (o : LCg.Off1 I ((I0, oI0) :: (lr, ob) :: rest)) (F : Fr h₀ L h' m') (N : News h₀ L h' ((I, oI) :: (I0, oI0) :: (lr, listOf vs.toArray k) :: rest))
    (h1 : m' (Str.ofString "a") = some (.str a t)) (h2 : m' (Str.ofString "b") = some (.str b u)) (h3 : m' (Str.ofString "max_cost") = some (.int mx v)) (h4 : m' (Str.ofString "row") = some (.ref lr)) (h5 : m' (Str.ofString "result") = some (.int rr' tr)) (h6 : m' (Str.ofString "bchar") = some (.str ch tc)) (h7 : m' (Str.ofString "distance") = some (.int d' td)) (h8 : m' (Str.ofString "minimum") = some (.int mn' tn))
    (e1 : d' = row.getD j 0) {n q : Int} (e0 : n = (if d' < rr then d' else rr) + 2) (e5 : q = d + subOf ch (Txt.item a (j : Nat))) (e2 : rr' = if q < n then q else n) (e3 : mn' = if rr' < mn then rr' else mn) (hv : IntsAre vs (row.set j rr')) :
    StepEnd h₀ L s I oI (InnJ a b ch t u v tc mx R I0 oI0 lr rest s.gens (j + 1)) Q .next { s with heap := h', toks := tk' } :=
  StepEnd.next _ (fr_eq F (innM_eq h1 h2 h3 h4 h5 h6 h7 h8)) N ⟨o.1, o.2.1, o.2.2⟩ ⟨rfl, _, rr', tr, d', td, mn', tn, vs, row.set j rr', k, rfl, inn_next hi hj e1 e0 e5 e2 e3 rfl, hv, by rw [List.length_set]; exact hl, rfl⟩
end
noncomputable def dpTail (a b : Str) (mx : Int) : Int := if mx < ((b.length : Int) - (a.length : Int)) * 2 then mx + 1 else dpOf a b mx
noncomputable def tailOf (x y : Str) (mx : Int) : Int := if x.length = 0 ∨ y.length = 0 then 2 * ((x.length : Int) + (y.length : Int)) else if y.length < x.length then dpTail y x mx else dpTail x y mx
noncomputable def cutOf (x y : Str) (mx : Int) : Int := tailOf (Txt.slice x none (postU (postOf x y))) (Txt.slice y none (postU (postOf x y))) mx
noncomputable def levOf (x y : Str) (mx : Int) : Int := if (x == y) = true then 0 else cutOf (Txt.slice x (some (preOf x y)) none) (Txt.slice y (some (preOf x y)) none) mx
theorem lev_same {x y : Str} {mx : Int} (h : (x == y) = true) : levOf x y mx = 0 := if_pos h
theorem lev_tail {x y x1 y1 x2 y2 : Str} {pre post mx r : Int} (h : (x == y) = false) (i1 : IsPre pre x y) (i2 : IsSn x1 x pre) (i3 : IsSn y1 y pre) (i4 : IsPost post x1 y1) (i5 : IsSl x2 x1 post) (i6 : IsSl y2 y1 post) (e : tailOf x2 y2 mx = r) : levOf x y mx = r := by
  unfold IsPre at i1; unfold IsSn at i2 i3; unfold IsPost at i4; unfold IsSl at i5 i6
  unfold levOf cutOf
  rw [h, if_neg (by simp), ← i1, ← i2, ← i3, ← i4, ← i5, ← i6]
  exact e
theorem tail_no {x y : Str} {mx : Int} (h : (x.length : Int) = 0 ∨ (y.length : Int) = 0) : tailOf x y mx = 2 * ((x.length : Int) + (y.length : Int)) := if_pos (by omega)
theorem tail_a {x y : Str} {mx r : Int} (hx : (x.length : Int) ≠ 0) (hy : (y.length : Int) ≠ 0) (h : ¬ (y.length : Int) < (x.length : Int)) (e : dpTail x y mx = r) : tailOf x y mx = r := by
  unfold tailOf; rw [if_neg (by omega), if_neg (by omega)]; exact e
theorem tail_b {x y : Str} {mx r : Int} (hx : (x.length : Int) ≠ 0) (hy : (y.length : Int) ≠ 0) (h : (y.length : Int) < (x.length : Int)) (e : dpTail y x mx = r) : tailOf x y mx = r := by
  unfold tailOf; rw [if_neg (by omega), if_pos (by omega)]; exact e
theorem dpt_far {a b : Str} {mx : Int} (h : mx < ((b.length : Int) - (a.length : Int)) * 2) : dpTail a b mx = mx + 1 := if_pos h
theorem dpt_dp {a b : Str} {mx r : Int} (h : ¬ mx < ((b.length : Int) - (a.length : Int)) * 2) (e : dpOf a b mx = r) : dpTail a b mx = r := by unfold dpTail; rw [if_neg h]; exact e
abbrev preM (m : Str → Option Value) (va vb vm vp : Value) : Str → Option Value := fun y => if y = Str.ofString "pre" then some vp else if y = Str.ofString "a" then some va else if y = Str.ofString "b" then some vb else if y = Str.ofString "max_cost" then some vm else m y
theorem preM_eq {m : Str → Option Value} {va vb vm vp : Value} (h1 : m (Str.ofString "pre") = some vp) (h2 : m (Str.ofString "a") = some va) (h3 : m (Str.ofString "b") = some vb) (h4 : m (Str.ofString "max_cost") = some vm) : ∀ y, m y = preM m va vb vm vp y := by
  intro y; unfold preM
  split
  · next q => rw [q]; exact h1
  · split
    · next q => rw [q]; exact h2
    · split
      · next q => rw [q]; exact h3
      · split
        · next q => rw [q]; exact h4
        · rfl
abbrev postM (m : Str → Option Value) (va vb vm vp : Value) : Str → Option Value := fun y => if y = Str.ofString "post" then some vp else if y = Str.ofString "a" then some va else if y = Str.ofString "b" then some vb else if y = Str.ofString "max_cost" then some vm else m y
theorem postM_eq {m : Str → Option Value} {va vb vm vp : Value} (h1 : m (Str.ofString "post") = some vp) (h2 : m (Str.ofString "a") = some va) (h3 : m (Str.ofString "b") = some vb) (h4 : m (Str.ofString "max_cost") = some vm) : ∀ y, m y = postM m va vb vm vp y := by
  intro y; unfold postM
  split
  · next q => rw [q]; exact h1
  · split
    · next q => rw [q]; exact h2
    · split
      · next q => rw [q]; exact h3
      · split
        · next q => rw [q]; exact h4
        · rfl
noncomputable def PreJ (x y : Str) (t u v : Tok) (b9 : Int) (rest : List (Addr × Obj)) (gs : Array GenState) (k : Nat) (m' : Str → Option Value) (news' : List (Addr × Obj)) (g' : Array GenState) : Prop :=
  g' = gs ∧ news' = rest ∧ ∃ mm pre tp, m' = preM mm (.str x t) (.str y u) (.int b9 v) (.int pre tp) ∧ 0 ≤ pre ∧ pre + k = 25 ∧ preGo x y k pre = preOf x y
noncomputable def PreE (x y : Str) (t u v : Tok) (b9 : Int) (rest : List (Addr × Obj)) (gs : Array GenState) (m' : Str → Option Value) (news' : List (Addr × Obj)) (g' : Array GenState) : Prop :=
  g' = gs ∧ news' = rest ∧ ∃ mm pre tp, m' = preM mm (.str x t) (.str y u) (.int b9 v) (.int pre tp) ∧ 0 ≤ pre ∧ IsPre pre x y
noncomputable def PostJ (x y : Str) (t u v : Tok) (b9 : Int) (rest : List (Addr × Obj)) (gs : Array GenState) (k : Nat) (m' : Str → Option Value) (news' : List (Addr × Obj)) (g' : Array GenState) : Prop :=
  g' = gs ∧ news' = rest ∧ ∃ mm pre tp, m' = postM mm (.str x t) (.str y u) (.int b9 v) (.int pre tp) ∧ pre ≤ 0 ∧ -pre + k = 25 ∧ postGo x y k pre = postOf x y
noncomputable def PostE (x y : Str) (t u v : Tok) (b9 : Int) (rest : List (Addr × Obj)) (gs : Array GenState) (m' : Str → Option Value) (news' : List (Addr × Obj)) (g' : Array GenState) : Prop :=
  g' = gs ∧ news' = rest ∧ ∃ mm pre tp, m' = postM mm (.str x t) (.str y u) (.int b9 v) (.int pre tp) ∧ pre ≤ 0 ∧ IsPost pre x y
theorem preJ0 {x y : Str} {t u v tp : Tok} {b9 : Int} {news : List (Addr × Obj)} {gs : Array GenState} {mm : Str → Option Value} : PreJ x y t u v b9 news gs 25 (preM mm (.str x t) (.str y u) (.int b9 v) (.int 0 tp)) news gs := ⟨rfl, rfl, _, 0, _, rfl, by decide, by decide, by unfold preOf; rfl⟩
theorem postJ0 {x y : Str} {t u v tp : Tok} {b9 : Int} {news : List (Addr × Obj)} {gs : Array GenState} {mm : Str → Option Value} : PostJ x y t u v b9 news gs 25 (postM mm (.str x t) (.str y u) (.int b9 v) (.int 0 tp)) news gs := ⟨rfl, rfl, _, 0, _, rfl, by decide, by decide, by unfold postOf; rfl⟩
section
variable {s : Shared} {h₀ h' : Heap} {L : Addr} {m' : Str → Option Value} {x y : Str} {t u v tp : Tok} {b9 p : Int} {news : List (Addr × Obj)} {gs : Array GenState} {k tk' : Nat}
theorem pre_out (hc : preC x y p = false) (hk : preGo x y k p = preOf x y) (h0 : 0 ≤ p) (F : Fr h₀ L h' m') (N : News h₀ L h' news)
    (h1 : m' (Str.ofString "pre") = some (.int p tp)) (h2 : m' (Str.ofString "a") = some (.str x t)) (h3 : m' (Str.ofString "b") = some (.str y u)) (h4 : m' (Str.ofString "max_cost") = some (.int b9 v)) :
    WOut h₀ L s (PreE x y t u v b9 news s.gens) { s with heap := h', toks := tk', gens := s.gens } := by
  rw [pre_stop hc] at hk
  refine WOut.intro (fr_eq F (preM_eq h1 h2 h3 h4)) N ⟨rfl, rfl, _, p, tp, rfl, h0, hk⟩
theorem pre_on (hc : preC x y p = true) (hx : x.length ≤ 24) (hk : preGo x y k p = preOf x y) (h0 : 0 ≤ p) (hpk : p + k = 25) (F : Fr h₀ L h' m') (N : News h₀ L h' news)
    (h1 : m' (Str.ofString "pre") = some (.int (p + 1) tp)) (h2 : m' (Str.ofString "a") = some (.str x t)) (h3 : m' (Str.ofString "b") = some (.str y u)) (h4 : m' (Str.ofString "max_cost") = some (.int b9 v)) {Q : Flow → Shared → Prop} :
    WEnd h₀ L s (fun m' news' g' => ∃ k', k' < k ∧ PreJ x y t u v b9 news s.gens k' m' news' g') Q .next { s with heap := h', toks := tk', gens := s.gens } := by
  obtain ⟨k', rfl, e⟩ := pre_go hc hpk h0 hx
  exact WEnd.next _ (fr_eq F (preM_eq h1 h2 h3 h4)) N ⟨k', by omega, rfl, rfl, _, p + 1, tp, rfl, by omega, by omega, by rw [← e]; exact hk⟩
theorem post_out (hc : postC x y p = false) (hk : postGo x y k p = postOf x y) (h0 : p ≤ 0) (F : Fr h₀ L h' m') (N : News h₀ L h' news)
    (h1 : m' (Str.ofString "post") = some (.int p tp)) (h2 : m' (Str.ofString "a") = some (.str x t)) (h3 : m' (Str.ofString "b") = some (.str y u)) (h4 : m' (Str.ofString "max_cost") = some (.int b9 v)) :
    WOut h₀ L s (PostE x y t u v b9 news s.gens) { s with heap := h', toks := tk', gens := s.gens } := by
  rw [post_stop hc] at hk
  refine WOut.intro (fr_eq F (postM_eq h1 h2 h3 h4)) N ⟨rfl, rfl, _, p, tp, rfl, h0, hk⟩
theorem post_on (hc : postC x y p = true) (hx : x.length ≤ 24) (hk : postGo x y k p = postOf x y) (h0 : p ≤ 0) (hpk : -p + k = 25) (F : Fr h₀ L h' m') (N : News h₀ L h' news)
    (h1 : m' (Str.ofString "post") = some (.int (p - 1) tp)) (h2 : m' (Str.ofString "a") = some (.str x t)) (h3 : m' (Str.ofString "b") = some (.str y u)) (h4 : m' (Str.ofString "max_cost") = some (.int b9 v)) {Q : Flow → Shared → Prop} :
    WEnd h₀ L s (fun m' news' g' => ∃ k', k' < k ∧ PostJ x y t u v b9 news s.gens k' m' news' g') Q .next { s with heap := h', toks := tk', gens := s.gens } := by
  obtain ⟨k', rfl, e⟩ := post_go hc hpk h0 hx
  exact WEnd.next _ (fr_eq F (postM_eq h1 h2 h3 h4)) N ⟨k', by omega, rfl, rfl, _, p - 1, tp, rfl, by omega, by omega, by rw [← e]; exact hk⟩
end

section
variable {prog : Program} {w : World} {A : Around} {E : Value → Shared → Prop} {s : Shared} {h₀ : Heap} {L : Addr} {m : Str → Option Value} {env : Env}
theorem While_pre {test : PySem.Expr} {body : List Stmt} {pos : Pos} {Q : Flow → Shared → Prop} {news : List (Addr × Obj)} {x y : Str} {t u v tp0 : Tok} {b9 : Int}
    (F : Fr h₀ L s.heap m) (N : News h₀ L s.heap news) (h1 : m (Str.ofString "pre") = some (.int 0 tp0)) (h2 : m (Str.ofString "a") = some (.str x t)) (h3 : m (Str.ofString "b") = some (.str y u)) (h4 : m (Str.ofString "max_cost") = some (.int b9 v))
    (turn : ∀ (k : Nat) mm (pre : Int) tp h tk, 0 ≤ pre → pre + (k : Nat) = 25 → preGo x y k pre = preOf x y → Fr h₀ L h (preM mm (.str x t) (.str y u) (.int b9 v) (.int pre tp)) → News h₀ L h news →
      wpAny (model prog w) A (isTrue test env (eval test env)) (fun b s₂ => if b = true then wpAny (model prog w) A (execs body env) (WEnd h₀ L s (fun m' news' g' => ∃ k', k' < k ∧ PreJ x y t u v b9 news s.gens k' m' news' g') (fun _ _ => False)) (fun _ _ => False) s₂ else WOut h₀ L s (PreE x y t u v b9 news s.gens) s₂) (fun _ _ => False) { s with heap := h, toks := tk })
    (done : ∀ mm (pre : Int) tp h tk, 0 ≤ pre → IsPre pre x y → Fr h₀ L h (preM mm (.str x t) (.str y u) (.int b9 v) (.int pre tp)) → News h₀ L h news → Q .next { s with heap := h, toks := tk }) :
    wpAny (model prog w) A (exec (.While test body [] pos) env) Q E s := by
  refine While_C 25 (PreJ x y t u v b9 news s.gens) (PreE x y t u v b9 news s.gens) (fr_eq F (preM_eq h1 h2 h3 h4)) N preJ0 (fun k m₁ news₁ g₁ h tk j F₁ N₁ => ?_) (fun m₁ news₁ g₁ h tk j F₁ N₁ => ?_)
  · obtain ⟨rfl, rfl, mm, pre, tp, rfl, hp, hk, hg⟩ := j
    exact turn k mm pre tp h tk hp hk hg F₁ N₁
  · obtain ⟨rfl, rfl, mm, pre, tp, rfl, hp, hi⟩ := j
    exact done mm pre tp h tk hp hi F₁ N₁
theorem While_post {test : PySem.Expr} {body : List Stmt} {pos : Pos} {Q : Flow → Shared → Prop} {news : List (Addr × Obj)} {x y : Str} {t u v tp0 : Tok} {b9 : Int}
    (F : Fr h₀ L s.heap m) (N : News h₀ L s.heap news) (h1 : m (Str.ofString "post") = some (.int 0 tp0)) (h2 : m (Str.ofString "a") = some (.str x t)) (h3 : m (Str.ofString "b") = some (.str y u)) (h4 : m (Str.ofString "max_cost") = some (.int b9 v))
    (turn : ∀ (k : Nat) mm (post : Int) tp h tk, post ≤ 0 → -post + (k : Nat) = 25 → postGo x y k post = postOf x y → Fr h₀ L h (postM mm (.str x t) (.str y u) (.int b9 v) (.int post tp)) → News h₀ L h news →
      wpAny (model prog w) A (isTrue test env (eval test env)) (fun b s₂ => if b = true then wpAny (model prog w) A (execs body env) (WEnd h₀ L s (fun m' news' g' => ∃ k', k' < k ∧ PostJ x y t u v b9 news s.gens k' m' news' g') (fun _ _ => False)) (fun _ _ => False) s₂ else WOut h₀ L s (PostE x y t u v b9 news s.gens) s₂) (fun _ _ => False) { s with heap := h, toks := tk })
    (done : ∀ mm (post : Int) tp h tk, post ≤ 0 → IsPost post x y → Fr h₀ L h (postM mm (.str x t) (.str y u) (.int b9 v) (.int post tp)) → News h₀ L h news → Q .next { s with heap := h, toks := tk }) :
    wpAny (model prog w) A (exec (.While test body [] pos) env) Q E s := by
  refine While_C 25 (PostJ x y t u v b9 news s.gens) (PostE x y t u v b9 news s.gens) (fr_eq F (postM_eq h1 h2 h3 h4)) N postJ0 (fun k m₁ news₁ g₁ h tk j F₁ N₁ => ?_) (fun m₁ news₁ g₁ h tk j F₁ N₁ => ?_)
  · obtain ⟨rfl, rfl, mm, pre, tp, rfl, hp, hk, hg⟩ := j
    exact turn k mm pre tp h tk hp hk hg F₁ N₁
  · obtain ⟨rfl, rfl, mm, pre, tp, rfl, hp, hi⟩ := j
    exact done mm pre tp h tk hp hi F₁ N₁
end

theorem le24 {x : Str} (h : x.length ≤ 24) : x.length ≤ sizeLine := Nat.le_trans h (by rw [sizeLine_eq]; decide)
theorem le24s {x : Str} {l u : Option Int} (h : x.length ≤ 24) : (Txt.slice x l u).length ≤ sizeLine := le24 (Nat.le_trans (Txt.slice_le _ _ _) h)
theorem item_lo {x y : Str} {p : Int} (h0 : p ≤ 0) (i : IsSl y x p) (h : (y.length : Int) ≠ 0) : -(x.length : Int) ≤ p - 1 := by
  subst i
  have := ns_pos h0 h; omega
theorem item_hi {x : Str} {p : Int} (h0 : p ≤ 0) : p - 1 < (x.length : Int) := by omega
theorem item_fit {p : Int} {k : Nat} (h0 : p ≤ 0) (h : -p + (k : Int) = 25) : fitsSsize (p - 1) = true := fitsSsize_of (N := 9223372036854775808) (by omega) (by omega) (Int.le_refl _)
theorem item_fit0 {p : Int} {k : Nat} (h0 : 0 ≤ p) (h : p + (k : Int) = 25) : fitsSsize p = true := fitsSsize_of (N := 9223372036854775808) (by omega) (by omega) (Int.le_refl _)
theorem item_lo0 {x : Str} {p : Int} (h0 : 0 ≤ p) : -(x.length : Int) ≤ p := by omega

theorem item_fitn {i : Nat} {x : Str} (h : i < x.length) (hx : x.length ≤ 24) : fitsSsize (i : Int) = true := fitsSsize_of (N := 9223372036854775808) (by omega) (by omega) (Int.le_refl _)
theorem item_lon {i : Nat} {x : Str} : -(x.length : Int) ≤ (i : Int) := by omega
theorem item_hin {i : Nat} {x : Str} (h : i < x.length) : (i : Int) < (x.length : Int) := by omega
theorem lets_at {i : Nat} {x : Str} (hL : Lets x) (h : i < x.length) : LetS (Txt.item x (i : Int)) := lets_item hL (by omega) (by omega)
theorem ite_b {b : Bool} {P R : Prop} (h1 : b = true → P) (h2 : b = false → R) : if b = true then P else R := by
  cases b with
  | true => exact h1 rfl
  | false => exact h2 rfl
noncomputable def Sw (A B A' B' : Str) (mx : Int) : Prop := ∀ r, dpTail A' B' mx = r → tailOf A B mx = r
abbrev swM (m : Str → Option Value) (va vb : Value) : Str → Option Value := fun y => if y = Str.ofString "b" then some vb else if y = Str.ofString "a" then some va else m y
theorem swM_eq {m : Str → Option Value} {va vb : Value} (h1 : m (Str.ofString "a") = some va) (h2 : m (Str.ofString "b") = some vb) : ∀ y, m y = swM m va vb y := by
  intro y; unfold swM
  split
  · next q => rw [q]; exact h2
  · split
    · next q => rw [q]; exact h1
    · rfl
theorem sw_comm (m : Str → Option Value) (va vb : Value) : ∀ y, (if y = Str.ofString "a" then some va else if y = Str.ofString "b" then some vb else m y) = swM m va vb y := by
  intro y; unfold swM
  by_cases ha : y = Str.ofString "a"
  · by_cases hb : y = Str.ofString "b"
    · rw [ha] at hb; exact absurd hb (by decide)
    · rw [if_pos ha, if_neg hb, if_pos ha]
  · by_cases hb : y = Str.ofString "b"
    · rw [if_neg ha, if_pos hb, if_pos hb]
    · rw [if_neg ha, if_neg hb, if_neg hb, if_neg ha]
noncomputable def SwEnd (h₀ : Heap) (L : Addr) (s : Shared) (m : Str → Option Value) (news : List (Addr × Obj)) (A B : Str) (f : Flow) (s' : Shared) : Prop :=
  f = .next ∧ ∃ h' tk' A' B' ta tb, s' = { s with heap := h', toks := tk' } ∧ (Fr h₀ L h' (swM m (.str A' ta) (.str B' tb)) ∧ News h₀ L h' news) ∧ ((A' = A ∧ B' = B ∧ ¬ (B.length : Int) < (A.length : Int)) ∨ (A' = B ∧ B' = A ∧ (B.length : Int) < (A.length : Int)))
section
variable {prog : Program} {w : World} {A₁ : Around} {E : Value → Shared → Prop} {s : Shared} {h₀ h' : Heap} {L : Addr} {m : Str → Option Value} {env : Env} {A B : Str} {ta tb : Tok} {news : List (Addr × Obj)} {tk' : Nat} {mx : Int}
theorem SwEnd.no (F : Fr h₀ L h' m) (h1 : m (Str.ofString "a") = some (.str A ta)) (h2 : m (Str.ofString "b") = some (.str B tb)) (N : News h₀ L h' news) (h : ¬ (B.length : Int) < (A.length : Int)) : SwEnd h₀ L s m news A B .next { s with heap := h', toks := tk' } :=
  ⟨rfl, _, _, _, _, _, _, rfl, ⟨fr_eq F (swM_eq h1 h2), N⟩, .inl ⟨rfl, rfl, h⟩⟩
theorem SwEnd.yes (F : Fr h₀ L h' (swM m (.str B tb) (.str A ta))) (N : News h₀ L h' news) (h : (B.length : Int) < (A.length : Int)) : SwEnd h₀ L s m news A B .next { s with heap := h', toks := tk' } :=
  ⟨rfl, _, _, _, _, _, _, rfl, ⟨F, N⟩, .inr ⟨rfl, rfl, h⟩⟩
theorem If_swap {test : PySem.Expr} {body orelse : List Stmt} {pos : Pos} {Q : Flow → Shared → Prop} (_F : Fr h₀ L s.heap m) (_N : News h₀ L s.heap news) (_h1 : m (Str.ofString "a") = some (.str A ta)) (_h2 : m (Str.ofString "b") = some (.str B tb))
    (hA : A.length ≤ 24) (hB : B.length ≤ 24) (LA : Lets A) (LB : Lets B) (nA : (A.length : Int) ≠ 0) (nB : (B.length : Int) ≠ 0)
    (h : wpAny (model prog w) A₁ (isTrue test env (eval test env)) (fun b s₂ => if b then wpAny (model prog w) A₁ (execs body env) (SwEnd h₀ L s m news A B) (fun _ _ => False) s₂ else wpAny (model prog w) A₁ (execs orelse env) (SwEnd h₀ L s m news A B) (fun _ _ => False) s₂) (fun _ _ => False) s)
    (k : ∀ h' tk' A' B' ta tb, Sw A B A' B' mx → A'.length ≤ 24 → B'.length ≤ 24 → Lets A' → Lets B' → (A'.length : Int) ≠ 0 → (B'.length : Int) ≠ 0 → ¬ (B'.length : Int) < (A'.length : Int) → Fr h₀ L h' (swM m (.str A' ta) (.str B' tb)) → News h₀ L h' news → Q .next { s with heap := h', toks := tk' }) :
    wpAny (model prog w) A₁ (exec (.If test body orelse pos) env) Q E s :=
  wpAny_mono (wpAny_If h) (fun f s' hf => by
    obtain ⟨rfl, h', tk', A', B', ta, tb, rfl, ⟨F', N'⟩, hc⟩ := hf
    rcases hc with ⟨rfl, rfl, hn⟩ | ⟨rfl, rfl, hl⟩
    · exact k h' tk' _ _ ta tb (fun r e => tail_a nA nB hn e) hA hB LA LB nA nB hn F' N'
    · exact k h' tk' _ _ ta tb (fun r e => tail_b nA nB hl e) hB hA LB LA nB nA (by omega) F' N') fun _ _ e => e.elim
end
set_option maxRecDepth 100000 in
set_option maxHeartbeats 8000000 in
theorem lev_ctr {x y : Str} {t u v : Tok} {b9 : Int} {w : World} {mean : ExcName → Option Value} {mg mb : Str → Option Value} {dp un : Nat} {gd : Option (List Code)} {cn : Str} {cs : Scope} {a : Addr} {ccd : Value} {cl : List (Str × Addr)} {outer : List Env} {A₀ : Around} {base h₀ : Heap} {L : Addr} {m : Str → Option Value} {news : List (Addr × Obj)} {s : Shared} {Q E : Value → Shared → Prop}
   (B : Below A₀ base outer h₀) (F : Fr h₀ L s.heap m) (X : (hd.heap_39 w.params).In h₀) (N : News h₀ L s.heap news) (T : TopH mean mg mb h₀) (hk : cs.kind = .function)
   (hx : x.length ≤ 24) (hy : y.length ≤ 24) (hLx : Lets x) (hLy : Lets y)
   (hdp : dp + 4 < recursionLimit) (_hun : un + 300 < cLine)
   (hret : ∀ h' t' tk', Fr h₀ L h' m → News h₀ L h' news → Q (.int (levOf x y b9) t') { s with heap := h', toks := tk' }) :
   wpAny (model PySem.Challenge.rw_sw0038_01.row.prog w) (ktrTop dp un gd cn cs L a ccd cl outer) (call (.ref 64) [.str x t, .str y u, .int b9 v]) Q E s := by
  have hret2 : ∀ r h' t' tk', levOf x y b9 = r → Fr h₀ L h' m → News h₀ L h' news → Q (.int r t') { s with heap := h', toks := tk' } := fun r h' t' tk' e => e ▸ hret h' t' tk'
  clear hret
  k_with_none
  k_with "execs cons" => (with_reducible refine toks_step (fun tk0 => ?_))
  w_top off
  revert X; k_fill; intro X
  k_with "ite" => (have := hq0; (with_reducible show (if (BEq.beq (α := Str) _ _) = true then _ else _)); (clear this; refine ite_b (fun hb9 => ?_) (fun hb9 => ?_)))
  k_with "execs cons" => (have := hb9; (with_reducible refine wpAny_execs_cons ?_); (try dsimp only); clear this)
  k_with "WOut" => (first | (have := hp0; first | exact pre_out (preC_no1 (by with_reducible assumption) (by with_reducible assumption)) hgo hp0 (by k_asm) (by k_asm) rfl rfl rfl rfl | exact pre_out (preC_no2 (by with_reducible assumption) (by with_reducible assumption)) hgo hp0 (by k_asm) (by k_asm) rfl rfl rfl rfl | exact pre_out (preC_no3 (by with_reducible assumption)) hgo hp0 (by k_asm) (by k_asm) rfl rfl rfl rfl) | (have := hq0; first | exact post_out (postC_no1 (by with_reducible assumption) (by with_reducible assumption)) hgo hq0 (by k_asm) (by k_asm) rfl rfl rfl rfl | exact post_out (postC_no2 (by with_reducible assumption) (by with_reducible assumption)) hgo hq0 (by k_asm) (by k_asm) rfl rfl rfl rfl | exact post_out (postC_no3 (by with_reducible assumption)) hgo hq0 (by k_asm) (by k_asm) rfl rfl rfl rfl))
  k_with "WEnd" => (first | (have := hp0; exact pre_on (preC_yes (by with_reducible assumption) (by with_reducible assumption) (by with_reducible assumption) (by with_reducible assumption) (by with_reducible assumption)) hx hgo hp0 hpk (by k_asm) (by k_asm) rfl rfl rfl rfl) | (have := hq0; exact post_on (postC_yes (by with_reducible assumption) (by with_reducible assumption) (by with_reducible assumption) (by with_reducible assumption) (by with_reducible assumption)) (by with_reducible assumption) hgo hq0 hpk (by k_asm) (by k_asm) rfl rfl rfl rfl))
  k_with "subscriptTail Name Name str int" => (k_dflt ((refine' item_str ?i1 ?i2 ?i3 ?_; (case i1 => first | exact item_fit0 hp0 hpk | exact item_fitn hj9 (by with_reducible assumption) | exact item_fitn hi9 (by with_reducible assumption)); (case i2 => first | exact item_lo0 hp0 | exact item_lon); (case i3 => first | exact sn_pos2 hp0 (by with_reducible assumption) (by with_reducible assumption) | exact item_hin hj9 | exact item_hin hi9)); intro _))
  k_with "subscriptTail Name BinOp str int" => (k_dflt ((refine' item_str ?i1 ?i2 ?i3 ?_; (case i1 => exact item_fit hq0 hpk); (case i3 => exact item_hi hq0); (case i2 => exact item_lo hq0 (by with_reducible assumption) (by with_reducible assumption))); intro _))
  k_with "exec While" => (k_dflt (k_here; (refine' While_post ?F ?N ?h1 ?h2 ?h3 ?h4 (fun k9 mm post tp h tk hq0 hpk hgo F N => ?_) (fun mm post tp h tk he1 hI1 F N => ?_); (case F => k_asm); (case N => k_asm); (case h1 => exact rfl); (case h2 => exact rfl); (case h3 => exact rfl); (case h4 => exact rfl)); all_goals (try clear F' N')))
  k_with "exec While" => (k_dflt (k_here; (fail_if_success have := he0); (refine' While_pre (news := news) (x := x) (y := y) ?F ?N ?h1 ?h2 ?h3 ?h4 (fun k9 mm pre tp h tk hp0 hpk hgo F N => ?_) (fun mm pre tp h tk he0 hI0 F N => ?_); (case F => k_asm); (case N => k_asm); (case h1 => exact rfl); (case h2 => exact rfl); (case h3 => exact rfl); (case h4 => exact rfl)); all_goals (try clear F' N')))
  k_with "eval Subscript" => (k_dflt ((with_reducible show wpAny _ _ (eval (Expr.Subscript _ (Expr.Slice none (some (Expr.BoolOp _ _ _)) none _) _) _) _ _ _); (refine' eval_post ?F ?N ?hl ?hL ?h1 ?h2 ?h3 ?h4 ?h5 ?h6 ?h7 ?_; (case F => k_asm); (case N => k_asm); (case h1 => exact rfl); (case h2 => exact rfl); (case h3 => exact rfl); (case h4 => exact rfl); (case h5 => decide); (case h6 => exact rfl); (case h7 => decide); (case hl => with_reducible assumption); (case hL => with_reducible assumption)); intro y9 h' t' tk' Y9 Yl YL F' N'))
  k_with "eval Subscript" => (k_dflt ((with_reducible show wpAny _ _ (eval (Expr.Subscript _ (Expr.Slice (some (Expr.Name _ _)) none none _) _) _) _ _ _); (refine' eval_pre ?F ?N ?hl ?hL ?h1 ?h2 ?h3 ?h4 ?h5 ?h6 ?h7 ?_; (case F => k_asm); (case N => k_asm); (case h1 => exact rfl); (case h2 => exact rfl); (case h3 => exact rfl); (case h4 => exact rfl); (case h5 => decide); (case h6 => exact rfl); (case h7 => decide); (case hl => with_reducible assumption); (case hL => with_reducible assumption)); intro y9 h' t' tk' Y9 Yl YL F' N'))
  k_with "call type:list" => (k_dflt ((refine' list_row ?qh ?qF ?qN ?qr ?qn ?_); (case qh => rfl); (case qF => k_asm); (case qN => k_asm); (case qr => assumption); (case qn => assumption); (intro lr h' tk' vs9 k9 hv9 F' N' l1); ((try k_lt l1))))
  k_with "exec For Name Call cons cons" => (k_here; k_dflt (refine For_R (by k_asm) ?_))
  k_with "exec For Name Call cons nil" => (k_here; k_dflt (refine For_R (by k_asm) ?_))
  k_with "RLoop" => (k_dflt ((k_here); (fail_if_success (have := hd9)); (refine' dp_loop ?qh ?qF ?qN ?qv ?qr ?qb (fun i9 mm rr9 tr9 vs9 row9 k9 I9 oI9 h tk t9 hi9 hd9 hv9 hl9 off F N => ?_) (fun mm tr9 vs9 k9 h tk F N => ?_)); (case qh => rfl); (case qF => exact fr_eq (by k_asm) (dpM_eq rfl rfl rfl rfl rfl)); (case qN => k_asm); (case qv => assumption); (case qr => assumption); (case qb => assumption); (all_goals (try (have off9 := off; simp only [LCg.Off1, and_true] at off9)))))
  k_with "RLoop" => (k_dflt ((k_here); (have hz9 := hd9); (refine' inn_loop (row := row9) ?qh ?qF ?qN ?qv ?ql ?qc ?qr ?qb (fun j9 mm rs9 tr9 d9 td9 mn9 tn9 vj9 rj9 kj9 I8 oI8 h tk t9 hj9 hn9 hw9 hm9 offj F N => ?_) (fun mm rs9 tr9 d9 td9 mn9 tn9 vj9 rj9 kj9 h tk hin9 hw9 hm9 F N => ?_)); (case qh => rfl); (case qF => exact fr_eq (by k_asm) (innM_eq rfl rfl rfl rfl rfl rfl rfl rfl)); (case qN => k_asm); (case qv => assumption); (case ql => assumption); (case qc => rfl); (case qr => assumption); (case qb => assumption); (all_goals (try (have offj9 := offj; simp only [LCg.Off1, and_true] at offj9)))))
  k_with "StepEnd" => (k_dflt ((first | (have hz := hn9; with_reducible rename (IntsAre (List.set _ _ _) _) => hset9; first | (with_reducible rename (_ < mn9) => hlt9; exact inn_step hn9 hj9 hm9 offj (by k_asm) (by k_asm) rfl rfl rfl rfl rfl rfl rfl rfl rfl rfl rfl rfl (if_pos hlt9).symm hset9) | (with_reducible rename (¬ (_ < mn9)) => hlt9; exact inn_step hn9 hj9 hm9 offj (by k_asm) (by k_asm) rfl rfl rfl rfl rfl rfl rfl rfl rfl rfl rfl rfl (if_neg hlt9).symm hset9)) | (have hz := hin9; with_reducible rename (¬ (b9 < mn9)) => hlt9; exact dp_step hd9 hi9 hin9 hlt9 hw9 hm9 off (by k_asm) (by k_asm) rfl rfl rfl rfl rfl) | (show StepEnd _ _ _ _ _ _ _ (Flow.ret _) _; unfold StepEnd; dsimp only))))
  k_with "call ref" => (k_dflt ((refine' sub_ctr ?qB ?qF ?qX ?qN ?qT ?qK ?qx ?qy ?qd ?qu ?_); (case qB => k_asm); (case qF => k_asm); (case qX => k_asm); (case qN => k_asm); (case qT => k_asm); (case qK => rfl); (case qx => exact lets_at (by with_reducible assumption) hi9); (case qy => exact lets_at (by with_reducible assumption) hj9); (case qd => ktr_room); (case qu => ktr_units); (intro h' t' tk' F' N')))
  k_with "exec If" => (k_dflt ((with_reducible show wpAny _ _ (exec (Stmt.If _ [Stmt.Assign [Expr.Tuple _ _ _] _ _] [] _) _) _ _ _); (refine' If_swap (mx := b9) ?sF ?sN ?s1 ?s2 ?s3 ?s4 ?s5 ?s6 ?s7 ?s8 ?_ ?_); (case sF => k_asm); (case sN => k_asm); (case s1 => exact rfl); (case s2 => exact rfl); (case s3 => with_reducible assumption); (case s4 => with_reducible assumption); (case s5 => with_reducible assumption); (case s6 => with_reducible assumption); (case s7 => with_reducible assumption); (case s8 => with_reducible assumption); all_goals (first | (intro h' tk' A9 B9 ta9 tb9 hsw9 hA9 hB9 LA9 LB9 nA9 nB9 hab9 F' N') | skip)))
  k_with "SwEnd" => (k_dflt (first | exact SwEnd.no (by k_asm) rfl rfl (by k_asm) (by with_reducible assumption) | exact SwEnd.yes (fr_eq (by k_asm) (sw_comm _ _ _)) (cb_drop (by k_asm) (by ktr_unf)) (by with_reducible assumption)))
  refine wpAny_call ?_
  k_dflt cell_enter
  k_steps
  all_goals first
    | exact hret2 _ _ _ _ (lev_same (by with_reducible assumption)) (by k_asm) (by first | k_asm | exact cb_drop (by k_asm) (by ktr_unf))
    | exact hret2 _ _ _ _ (lev_tail (by with_reducible assumption) hI0 (by with_reducible assumption) (by with_reducible assumption) hI1 (by with_reducible assumption) (by with_reducible assumption) (tail_no (.inl (by with_reducible assumption)))) (by k_asm) (by first | k_asm | exact cb_drop (by k_asm) (by ktr_unf))
    | exact hret2 _ _ _ _ (lev_tail (by with_reducible assumption) hI0 (by with_reducible assumption) (by with_reducible assumption) hI1 (by with_reducible assumption) (by with_reducible assumption) (tail_no (.inr (by with_reducible assumption)))) (by k_asm) (by first | k_asm | exact cb_drop (by k_asm) (by ktr_unf))
    | exact hret2 _ _ _ _ (lev_tail (by with_reducible assumption) hI0 (by with_reducible assumption) (by with_reducible assumption) hI1 (by with_reducible assumption) (by with_reducible assumption) (hsw9 _ (dpt_far (by with_reducible assumption)))) (by k_asm) (by first | k_asm | exact cb_drop (by k_asm) (by ktr_unf))
    | exact hret2 _ _ _ _ (lev_tail (by with_reducible assumption) hI0 (by with_reducible assumption) (by with_reducible assumption) hI1 (by with_reducible assumption) (by with_reducible assumption) (hsw9 _ (dpt_dp (by with_reducible assumption) (dp_early hd9 hi9 hin9 (by with_reducible assumption))))) (by k_asm) (by first | k_asm | exact cb_drop (by k_asm) (by ktr_unf))
    | exact hret2 _ _ _ _ (lev_tail (by with_reducible assumption) hI0 (by with_reducible assumption) (by with_reducible assumption) hI1 (by with_reducible assumption) (by with_reducible assumption) (hsw9 _ (dpt_dp (by with_reducible assumption) rfl))) (by k_asm) (by first | k_asm | exact cb_drop (by k_asm) (by ktr_unf))
   
/-- the coins by their figures -/
noncomputable def coBy (p a b c : Nat) : List Int := [3 + (p : Int)] ++ (List.range (2 + p)).map fun (k : Nat) => (3 + (p : Int)) * (1 + (([a, b, c].getD k 0 : Nat) : Int)) + k + 1
theorem fig {x : Int} (d : Int) (h : 0 < d) : ∃ a : Nat, (a : Int) < d ∧ x.fmod d = a := by
  have h1 := Int.fmod_nonneg_of_pos x h
  have h2 := Int.fmod_lt_of_pos x h
  exact ⟨(x.fmod d).toNat, by omega, by omega⟩
theorem coins_by (t0 t1 t2 : Int) : ∃ p a b c : Nat, p < 2 ∧ a < 3 ∧ b < 3 ∧ c < 3 ∧ t2.fmod 2 = p ∧ coinsOf t0 t1 t2 = coBy p a b c := by
  obtain ⟨p, hp, ep⟩ := fig (x := t2) 2 (by decide)
  obtain ⟨a, ha, ea⟩ := fig (x := t0.fdiv 1) 3 (by decide)
  obtain ⟨b, hb, eb⟩ := fig (x := t1.fdiv 1) 3 (by decide)
  obtain ⟨c, hc, ec⟩ := fig (x := t0.fdiv 3) 3 (by decide)
  refine ⟨p, a, b, c, by omega, by omega, by omega, by omega, ep, ?_⟩
  unfold coinsOf coBy
  rw [ep]
  have h2 : p = 0 ∨ p = 1 := by omega
  have f0 : coinF (3 + (p : Int)) t0 t1 t2 0 = (3 + (p : Int)) * (1 + (a : Int)) + 0 + 1 := by
    show (3 + (p : Int)) * (1 + (t0.fdiv 1).fmod 3) + (0 + 0) + 1 = _
    rw [ea]; omega
  have f1 : coinF (3 + (p : Int)) t0 t1 t2 1 = (3 + (p : Int)) * (1 + (b : Int)) + 1 + 1 := by
    show (3 + (p : Int)) * (1 + (t1.fdiv 1).fmod 3) + (0 + 1) + 1 = _
    rw [eb]; omega
  have f2 : coinF (3 + (p : Int)) t0 t1 t2 2 = (3 + (p : Int)) * (1 + (c : Int)) + 2 + 1 := by
    show (3 + (p : Int)) * (1 + (t0.fdiv 3).fmod 3) + (0 + 2) + 1 = _
    rw [ec]; omega
  rcases h2 with rfl | rfl
  · show [3 + ((0 : Nat) : Int)] ++ [coinF (3 + ((0 : Nat) : Int)) t0 t1 t2 0, coinF (3 + ((0 : Nat) : Int)) t0 t1 t2 1] = _
    rw [f0, f1]; rfl
  · show [3 + ((1 : Nat) : Int)] ++ [coinF (3 + ((1 : Nat) : Int)) t0 t1 t2 0, coinF (3 + ((1 : Nat) : Int)) t0 t1 t2 1, coinF (3 + ((1 : Nat) : Int)) t0 t1 t2 2] = _
    rw [f0, f1, f2]; rfl
/-- a check over all the coins -/
noncomputable def allCo (P : List Int → Bool) : Bool := (List.range 2).all fun p => (List.range 3).all fun a => (List.range 3).all fun b => (List.range 3).all fun c => P (coBy p a b c)
theorem allCo_at {P : List Int → Bool} (h : allCo P = true) {p a b c : Nat} (hp : p < 2) (ha : a < 3) (hb : b < 3) (hc : c < 3) : P (coBy p a b c) = true := by
  unfold allCo at h
  simp only [List.all_eq_true, List.mem_range] at h
  exact h p hp a ha b hb c hc
theorem co_small : allCo (fun co => decide (co.length ≤ 4) && co.all fun c => decide (1 ≤ c)) = true := by decide +kernel
noncomputable def paidBy (co : List Int) : List Bool := paidTo co 24
/-- the numbers from 1 to 24 that pass -/
noncomputable def numsBy (f : Int → Bool) : List Int := ((List.range 24).map fun (k : Nat) => 1 + (k : Int)).filter f
noncomputable def sumsOf (bs : List Bool) : List Int := numsBy fun n => bs.getD n.toNat false
noncomputable def gapsOf (bs : List Bool) : List Int := numsBy fun n => !(bs.getD n.toNat false)
noncomputable def leastOk (bs : List Bool) (f : Int) : Bool := (List.range f.toNat).all fun r => match leastOf bs f (0 + (r : Int)) with
  | [] => false
  | l :: _ => decide (1 ≤ l) && decide (l ≤ 24)
set_option maxRecDepth 100000 in
theorem co_least : allCo (fun co => leastOk (paidBy co) (co.headD 0)) = true := by decide +kernel
set_option maxRecDepth 100000 in
theorem co_marks : allCo (fun co => (marksTo (paidBy co) (co.headD 0) (co.headD 0).toNat).isPerm (sumsOf (paidBy co))) = true := by decide +kernel
noncomputable def flagsOf (bs : List Bool) : Nat := ((gapsOf bs).map fun n => 2 ^ (n - 1).toNat).sum
set_option maxRecDepth 100000 in
theorem co_gaps : allCo (fun co => decide (1 ≤ (gapsOf (paidBy co)).length) && (decide ((gapsOf (paidBy co)).length ≤ 11) && (decide (0 < flagsOf (paidBy co)) && (decide (flagsOf (paidBy co) < 2048) && ((gapsOf (paidBy co)).all fun n => decide (1 ≤ n) && decide (n ≤ 11)))))) = true := by decide +kernel
set_option maxRecDepth 100000 in
theorem co_names : allCo (fun co => decide (pfNames (flagsOf (paidBy co)) 11 = (gapsOf (paidBy co)).map nameOf)) = true := by decide +kernel
/-- the codes of one piece: its dress (0, 1, 2) and whether it opens -/
noncomputable def pc (p : Nat × Bool) : List Nat := (if p.1 = 1 then [34, 41, 34] else if p.1 = 2 then [92, 40] else []) ++ [if p.2 then 40 else 41]
/-- the same with what stands in quotation marks gone -/
noncomputable def uc (p : Nat × Bool) : List Nat := (if p.1 = 2 then [92, 40] else []) ++ [if p.2 then 40 else 41]
theorem join_cps (l : List Str) : (Txt.join (Str.ofString "") l).cps.toList = l.flatMap fun y => y.cps.toList := by
  have go : ∀ (l : List Str) (acc : Array Nat), (l.foldl (fun acc p => acc ++ (Str.ofString "").cps ++ p.cps) acc).toList = acc.toList ++ l.flatMap fun y => y.cps.toList := by
    intro l
    induction l with
    | nil => intro acc; simp
    | cons y l ih =>
      intro acc
      rw [List.foldl_cons, ih]
      have : (Str.ofString "").cps = #[] := by decide
      simp [this]
  show ((l.drop 1).foldl (fun acc p => acc ++ (Str.ofString "").cps ++ p.cps) (l.headD Str.empty).cps).toList = _
  rw [go]
  cases l with
  | nil => decide
  | cons y l => simp
theorem quote_is : Str.ofString "\"" = ⟨#[34]⟩ := by decide
theorem esc_app (p : Nat × Bool) (i : Nat) (t : List Nat) : ∃ toks : List (Nat × List Nat), escOf i false (pc p ++ t) = toks ++ escOf (i + (pc p).length) false t ∧
    toks = (if p.1 = 1 then [(i, [34]), (i + 1, [41]), (i + 2, [34]), (i + 3, [if p.2 then 40 else 41])] else if p.1 = 2 then [(i + 1, [92, 40]), (i + 2, [if p.2 then 40 else 41])] else [(i, [if p.2 then 40 else 41])]) := by
  refine ⟨_, ?_, rfl⟩
  obtain ⟨d, o⟩ := p
  unfold pc
  by_cases h1 : d = 1
  · subst h1; cases o <;> simp [escOf]
  · by_cases h2 : d = 2
    · subst h2; cases o <;> simp [escOf]
    · cases o <;> simp [escOf, h1, h2]
/-- what the strip machine holds behind i codes, of which the stripped ones are `done` -/
noncomputable def StripOk (T done : List Nat) (i : Nat) (S : Strip) : Prop :=
  S.op = none ∧ 0 ≤ S.start ∧ S.start ≤ (i : Int) ∧ (S.res.flatMap fun y => y.cps.toList) ++ (T.drop S.start.toNat).take (i - S.start.toNat) = done
theorem stq_plain {x : Str} {S : Strip} {i : Nat} {c : List Nat} (h : c ≠ [34]) : stripStep x S (i, c) = S := by
  unfold stripStep
  rw [if_neg]
  intro e
  have : (⟨c.toArray⟩ : Str) = Str.ofString "\"" := by simpa using e
  rw [quote_is] at this
  have h2 : c.toArray = #[34] := congrArg Str.cps this
  exact h (by simpa using congrArg Array.toList h2)
theorem stq_open {x : Str} {S : Strip} {i : Nat} (h : S.op = none) : stripStep x S (i, [34]) = { S with op := some (i : Nat) } := by
  unfold stripStep
  rw [if_pos (by show ((⟨#[34]⟩ : Str) == Str.ofString "\"") = true; decide), h]
theorem stq_close {x : Str} {S : Strip} {i : Nat} {q : Int} (h : S.op = some q) : stripStep x S (i, [34]) = { start := (i : Nat) + 1, op := none, res := if S.start = q then S.res else S.res ++ [Txt.slice x (some S.start) (some q)] } := by
  unfold stripStep
  rw [if_pos (by show ((⟨#[34]⟩ : Str) == Str.ofString "\"") = true; decide), h]
theorem drop_take_grow {T A B : List Nat} {i st : Nat} (h : T.drop i = A ++ B) (hs : st ≤ i) (hi : i ≤ T.length) : (T.drop st).take (i + A.length - st) = (T.drop st).take (i - st) ++ A := by
  have e : T.drop st = (T.drop st).take (i - st) ++ (A ++ B) := by
    have := (List.take_append_drop (i - st) (T.drop st)).symm
    rw [List.drop_drop, show st + (i - st) = i from by omega, h] at this
    exact this
  have l1 : ((T.drop st).take (i - st)).length = i - st := by
    rw [List.length_take, List.length_drop]; omega
  conv => lhs; rw [e]
  rw [List.take_append, List.take_of_length_le (by omega), l1, show i + A.length - st - (i - st) = A.length from by omega, List.take_append]
  simp
theorem strip_go (x : Str) : ∀ (ps : List (Nat × Bool)) (i : Nat) (S : Strip) (done : List Nat), x.cps.toList.drop i = ps.flatMap pc → i ≤ x.cps.toList.length → StripOk x.cps.toList done i S →
    StripOk x.cps.toList (done ++ ps.flatMap uc) (i + (ps.flatMap pc).length) ((escOf i false (ps.flatMap pc)).foldl (stripStep x) S) := by
  intro ps
  induction ps with
  | nil => intro i S done _ _ h; simpa [escOf] using h
  | cons p ps ih =>
    intro i S done hT hi h
    obtain ⟨toks, e, et⟩ := esc_app p i (ps.flatMap pc)
    rw [List.flatMap_cons] at hT
    rw [List.flatMap_cons, List.flatMap_cons, e, List.foldl_append]
    have hlen : (x.cps.toList.drop i).length = (pc p ++ ps.flatMap pc).length := by rw [hT]
    rw [List.length_drop, List.length_append] at hlen
    have hdrop : x.cps.toList.drop (i + (pc p).length) = ps.flatMap pc := by
      rw [← List.drop_drop, hT, List.drop_left]
    have key : StripOk x.cps.toList (done ++ uc p) (i + (pc p).length) (toks.foldl (stripStep x) S) := by
      obtain ⟨h1, h2, h3, h4⟩ := h
      rw [et]
      by_cases d1 : p.1 = 1
      · have e1 : pc p = [34, 41, 34] ++ [if p.2 then 40 else 41] := by unfold pc; rw [if_pos d1]
        have e2 : uc p = [if p.2 then 40 else 41] := by unfold uc; rw [if_neg (by omega)]; rfl
        rw [if_pos d1, e1, e2]
        have hc : ([if p.2 then 40 else 41] : List Nat) ≠ [34] := by cases p.2 <;> decide
        simp only [List.foldl_cons, List.foldl_nil]
        rw [stq_open h1, stq_plain (i := i + 1) (c := [41]) (by decide), stq_close (q := (i : Int)) rfl, stq_plain hc]
        refine ⟨rfl, by simp only []; omega, by simp; omega, ?_⟩
        have hst : ((((i + 2 : Nat) : Int) + 1)).toNat = i + 3 := by omega
        simp only [hst]
        have hd3 : x.cps.toList.drop (i + 3) = (if p.2 then 40 else 41) :: ps.flatMap pc := by
          rw [← List.drop_drop, hT, e1]; rfl
        have t1 : (x.cps.toList.drop (i + 3)).take (i + ([34, 41, 34] ++ [if p.2 then 40 else 41]).length - (i + 3)) = [if p.2 then 40 else 41] := by
          rw [hd3]
          show List.take (i + 4 - (i + 3)) _ = _
          rw [show i + 4 - (i + 3) = 1 from by omega]; rfl
        rw [t1]
        congr 1
        rw [← h4]
        by_cases hq : S.start = (i : Int)
        · rw [if_pos hq, hq]
          simp
        · rw [if_neg hq, List.flatMap_append]
          congr 1
          have := StrLaws.sliceText_plain (x := x) (i := S.start) (j := (i : Int)) ⟨h2, by omega, by omega⟩
          have e9 : Txt.slice x (some S.start) (some (i : Int)) = ⟨((x.cps.toList.drop S.start.toNat).take ((i : Int) - S.start).toNat).toArray⟩ := this
          simp only [List.flatMap_cons, List.flatMap_nil, List.append_nil, e9]
          rw [ar8 h2 (by omega)]
      · have same : uc p = pc p := by unfold uc pc; rw [if_neg d1]
        have hS : ∀ tk ∈ (if p.1 = 2 then [(i + 1, [92, 40]), (i + 2, [if p.2 then 40 else 41])] else [(i, [if p.2 then 40 else 41])] : List (Nat × List Nat)), tk.2 ≠ [34] := by
          have hc : ([if p.2 then 40 else 41] : List Nat) ≠ [34] := by cases p.2 <;> decide
          intro tk htk
          split at htk
          · rcases List.mem_cons.mp htk with rfl | htk
            · show ([92, 40] : List Nat) ≠ [34]; decide
            · rw [List.mem_singleton] at htk; subst htk; exact hc
          · rw [List.mem_singleton] at htk; subst htk; exact hc
        have stay : ∀ (l : List (Nat × List Nat)), (∀ tk ∈ l, tk.2 ≠ [34]) → l.foldl (stripStep x) S = S := by
          intro l
          induction l with
          | nil => intro _; rfl
          | cons tk l ihl =>
            intro hl
            rw [List.foldl_cons]
            obtain ⟨k, c⟩ := tk
            rw [stq_plain (hl _ (.head _))]
            exact ihl fun q hq => hl q (.tail _ hq)
        rw [if_neg d1, stay _ hS, same]
        refine ⟨h1, h2, by omega, ?_⟩
        rw [drop_take_grow hT (by omega) hi, ← List.append_assoc, h4]
    have := ih (i + (pc p).length) _ _ hdrop (by omega) key
    rw [List.append_assoc] at this
    rw [List.length_append, ← Nat.add_assoc]
    exact this
theorem strip_is {x : Str} {ps : List (Nat × Bool)} (h : x.cps.toList = ps.flatMap pc) : (stripOf x).cps.toList = ps.flatMap uc := by
  have hs := strip_go x ps 0 ⟨0, none, []⟩ [] (by rw [List.drop_zero, h]) (Nat.zero_le _) ⟨rfl, Int.le_refl _, Int.le_refl _, by simp⟩
  unfold stripOf
  split
  · next hz =>
    have hno : 34 ∉ x.cps.toList := by
      have f1 := StrLaws.found_one x 34
      rw [quote_is] at hz
      rw [hz] at f1
      simpa using f1.symm
    rw [h] at hno ⊢
    have : ∀ ps : List (Nat × Bool), 34 ∉ ps.flatMap pc → ps.flatMap pc = ps.flatMap uc := by
      intro ps
      induction ps with
      | nil => intro _; rfl
      | cons p ps ih =>
        intro hn
        rw [List.flatMap_cons, List.mem_append, not_or] at hn
        rw [List.flatMap_cons, List.flatMap_cons, ih hn.2]
        congr 1
        unfold pc uc
        by_cases d1 : p.1 = 1
        · exact absurd (by unfold pc; rw [if_pos d1]; simp) hn.1
        · rw [if_neg d1]
    exact this ps hno
  · simp only []
    rw [show stripTo x (escOf 0 false x.cps.toList) (escOf 0 false x.cps.toList).length = (escOf 0 false (ps.flatMap pc)).foldl (stripStep x) ⟨0, none, []⟩ from by unfold stripTo; rw [List.take_length, h]]
    generalize (escOf 0 false (ps.flatMap pc)).foldl (stripStep x) ⟨0, none, []⟩ = S at hs
    obtain ⟨_, h2, h3, h4⟩ := hs
    rw [Nat.zero_add, ← h] at h3 h4
    rw [List.nil_append] at h4
    rw [← h4, join_cps]
    have hl : (x.length : Int) = (x.cps.toList.length : Nat) := by simp [Str.length]
    split
    · have e9 : Txt.slice x (some S.start) none = ⟨((x.cps.toList.drop S.start.toNat).take ((x.cps.toList.length : Int) - S.start).toNat).toArray⟩ := StrLaws.sliceText_from (x := x) ⟨h2, h3⟩
      rw [List.flatMap_append, e9]
      simp only [List.flatMap_cons, List.flatMap_nil, List.append_nil]
      rw [ar8 h2 h3]
    · have : x.cps.toList.length - S.start.toNat = 0 := by omega
      rw [this]; simp
noncomputable def chkB : List Bool → Int → Bool
  | [], o => decide (o = 0)
  | true :: t, o => chkB t (o + 1)
  | false :: t, o => if o - 1 < 0 then false else chkB t (o - 1)
theorem ckq_open (i : Nat) (t : List (Nat × List Nat)) (o : Int) : chkL ((i, [40]) :: t) o = chkL t (o + 1) := by
  show (if ((⟨#[40]⟩ : Str) == Str.ofString "(") = true then _ else _) = _
  rw [if_pos (by decide)]
theorem ckq_shut (i : Nat) (t : List (Nat × List Nat)) (o : Int) : chkL ((i, [41]) :: t) o = if o - 1 < 0 then false else chkL t (o - 1) := by
  show (if ((⟨#[41]⟩ : Str) == Str.ofString "(") = true then _ else if ((⟨#[41]⟩ : Str) == Str.ofString ")") = true then _ else _) = _
  rw [if_neg (by decide), if_pos (by decide)]
theorem ckq_skip (i : Nat) (t : List (Nat × List Nat)) (o : Int) : chkL ((i, [92, 40]) :: t) o = chkL t o := by
  show (if ((⟨#[92, 40]⟩ : Str) == Str.ofString "(") = true then _ else if ((⟨#[92, 40]⟩ : Str) == Str.ofString ")") = true then _ else _) = _
  rw [if_neg (by decide), if_neg (by decide)]
theorem chk_is : ∀ (ps : List (Nat × Bool)) (i : Nat) (o : Int), chkL (escOf i false (ps.flatMap uc)) o = chkB (ps.map (·.2)) o := by
  intro ps
  induction ps with
  | nil => intro i o; rfl
  | cons p ps ih =>
    intro i o
    rw [List.flatMap_cons]
    obtain ⟨d, b⟩ := p
    by_cases h2 : d = 2
    · subst h2
      cases b
      · show chkL (escOf i false (92 :: 40 :: 41 :: ps.flatMap uc)) o = chkB (false :: ps.map (·.2)) o
        simp only [escOf, if_pos]
        rw [ckq_skip]
        show chkL ((i + 1 + 1, [41]) :: _) o = _
        rw [ckq_shut, ih]; rfl
      · show chkL (escOf i false (92 :: 40 :: 40 :: ps.flatMap uc)) o = chkB (true :: ps.map (·.2)) o
        simp only [escOf, if_pos]
        rw [ckq_skip]
        show chkL ((i + 1 + 1, [40]) :: _) o = _
        rw [ckq_open, ih]; rfl
    · have e : ∀ b, uc (d, b) = [if b then 40 else 41] := fun b => by unfold uc; rw [if_neg h2]; rfl
      rw [e]
      cases b
      · show chkL ((i, [41]) :: escOf (i + 1) false (ps.flatMap uc)) o = chkB (false :: ps.map (·.2)) o
        rw [ckq_shut, ih]; rfl
      · show chkL ((i, [40]) :: escOf (i + 1) false (ps.flatMap uc)) o = chkB (true :: ps.map (·.2)) o
        rw [ckq_open, ih]; rfl
theorem end_app (p : Nat × Bool) (t : List Nat) : escEnd false (pc p ++ t) = escEnd false t ∧ escEnd false (uc p ++ t) = escEnd false t := by
  obtain ⟨d, b⟩ := p
  unfold pc uc
  by_cases h1 : d = 1
  · subst h1; cases b <;> exact ⟨rfl, rfl⟩
  · by_cases h2 : d = 2
    · subst h2; cases b <;> exact ⟨rfl, rfl⟩
    · simp only [if_neg h1, if_neg h2]; cases b <;> exact ⟨rfl, rfl⟩
theorem end_is : ∀ ps : List (Nat × Bool), escEnd false (ps.flatMap pc) = false ∧ escEnd false (ps.flatMap uc) = false
  | [] => ⟨rfl, rfl⟩
  | p :: ps => by rw [List.flatMap_cons, List.flatMap_cons, (end_app p _).1, (end_app p _).2]; exact end_is ps
theorem small_pc (p : Nat × Bool) : (∀ c ∈ pc p, c < 128) ∧ (∀ c ∈ uc p, c < 128) ∧ (pc p).length ≤ 4 := by
  obtain ⟨d, b⟩ := p
  unfold pc uc
  by_cases h1 : d = 1
  · subst h1; cases b <;> decide
  · by_cases h2 : d = 2
    · subst h2; cases b <;> decide
    · simp only [if_neg h1, if_neg h2]; clear h1 h2; cases b <;> simp
theorem small_all : ∀ ps : List (Nat × Bool), (∀ c ∈ ps.flatMap pc, c < 128) ∧ (∀ c ∈ ps.flatMap uc, c < 128) ∧ (ps.flatMap pc).length ≤ 4 * ps.length
  | [] => ⟨by simp, by simp, by simp⟩
  | p :: ps => by
    have h := small_all ps
    have q := small_pc p
    rw [List.flatMap_cons, List.flatMap_cons]
    refine ⟨fun c hc => ?_, fun c hc => ?_, ?_⟩
    · rcases List.mem_append.mp hc with hc | hc
      · exact q.1 c hc
      · exact h.1 c hc
    · rcases List.mem_append.mp hc with hc | hc
      · exact q.2.1 c hc
      · exact h.2.1 c hc
    · rw [List.length_append, List.length_cons]; omega
theorem ascii_of {x : Str} (h : ∀ c ∈ x.cps.toList, c < 128) : strIterType x = "str_ascii_iterator" := by
  unfold strIterType
  rw [if_pos]
  rw [Array.all_eq_true]
  intro i hi
  have := h (x.cps[i]) (Array.getElem_mem_toList hi)
  simpa using this
/-- what the check of a joined text wants and gives -/
theorem text_ok {x : Str} {ps : List (Nat × Bool)} (h : x.cps.toList = ps.flatMap pc) (hn : ps.length ≤ 100) :
    strIterType x = "str_ascii_iterator" ∧ escEnd false x.cps.toList = false ∧ x.length ≤ 1000 ∧ strIterType (stripOf x) = "str_ascii_iterator" ∧ escEnd false (stripOf x).cps.toList = false ∧ chkOf x = chkB (ps.map (·.2)) 0 := by
  have hs := strip_is h
  have sm := small_all ps
  refine ⟨ascii_of (by rw [h]; exact sm.1), by rw [h]; exact (end_is ps).1, ?_, ascii_of (by rw [hs]; exact sm.2.1), by rw [hs]; exact (end_is ps).2, ?_⟩
  · have e : x.length = x.cps.toList.length := by simp [Str.length]
    rw [e, h]; omega
  · unfold chkOf; rw [hs]; exact chk_is ps 0 0
noncomputable def dressOf (d n : Int) : Nat := ((d.fdiv (3 ^ n.toNat)).fmod 3).toNat
theorem piece_cps (ns : List Int) (d n : Int) : (pieceOf ns d n).cps.toList = pc (dressOf d n, ns.any (· == n)) := by
  have h1 := Int.fmod_nonneg_of_pos (d.fdiv (3 ^ n.toNat)) (b := 3) (by decide)
  have h2 := Int.fmod_lt_of_pos (d.fdiv (3 ^ n.toNat)) (b := 3) (by decide)
  unfold pieceOf aheadOf dressOf pc
  have h3 : ((d.fdiv (3 ^ n.toNat)).fmod 3).toNat = 0 ∨ ((d.fdiv (3 ^ n.toNat)).fmod 3).toNat = 1 ∨ ((d.fdiv (3 ^ n.toNat)).fmod 3).toNat = 2 := by omega
  generalize ((d.fdiv (3 ^ n.toNat)).fmod 3).toNat = q at h3
  cases ns.any (· == n) <;> rcases h3 with rfl | rfl | rfl <;> decide
noncomputable def psOf (ns : List Int) (d : Int) (i : Nat) : List (Nat × Bool) := (List.range i).map fun (k : Nat) => (dressOf d (1 + (k : Int)), ns.any (· == 1 + (k : Int)))
theorem pieces_cps (ns : List Int) (d : Int) (i : Nat) : (piecesTo ns d i).map (fun y => y.cps.toList) = (psOf ns d i).map pc := by
  unfold piecesTo psOf
  rw [List.map_map, List.map_map]
  exact List.map_congr_left fun k _ => piece_cps ns d _
theorem join_ps {l : List Str} {ps : List (Nat × Bool)} (h : l.map (fun y => y.cps.toList) = ps.map pc) : (Txt.join (Str.ofString "") l).cps.toList = ps.flatMap pc := by
  rw [join_cps, List.flatMap_def, List.flatMap_def, h]
noncomputable def brOf (bs : List Bool) : List Bool := (List.range (2 * (gapsOf bs).length)).map fun (k : Nat) => (gapsOf bs).any (· == 1 + (k : Int))
noncomputable def mirOf (bs : List Bool) (n : Nat) : Bool := decide (((List.range (n + 1)).filter fun x => bs.getD x false == bs.getD (n - x) false) = [])
set_option maxRecDepth 100000 in
theorem co_brack : allCo (fun co => chkB (brOf (paidBy co)) 0 && (!(chkB (brOf (paidBy co)).reverse 0) && (List.range (2 * (gapsOf (paidBy co)).length)).all fun k => chkB ((brOf (paidBy co)).take k) 0 == mirOf (paidBy co) (k + 1))) = true := by decide +kernel
noncomputable def lastOf (bs : List Bool) : Nat := ((gapsOf bs).getLastD 0).toNat
noncomputable def wordOf (bs : List Bool) : Str := ⟨((List.range (lastOf bs + 1)).map fun x => if bs.getD x false then 115 else 83).toArray⟩
noncomputable def turnOf (bs : List Bool) : Str := ⟨((List.range (lastOf bs + 1)).map fun x => if bs.getD (lastOf bs - x) false then 83 else 115).toArray⟩
noncomputable def sOf (bs : List Bool) : Str := ⟨(List.replicate (lastOf bs + 1) 115).toArray⟩
noncomputable def dueA (bs : List Bool) : Int := (gapsOf bs).length
noncomputable def dueB (bs : List Bool) : Int := 2 * ((gapsOf bs).length : Int) - (lastOf bs : Int) - 1
set_option maxRecDepth 100000 in
theorem co_last : allCo (fun co => decide (lastOf (paidBy co) ≤ 22) && decide (((lastOf (paidBy co) : Nat) : Int) = (gapsOf (paidBy co)).getLastD 0)) = true := by decide +kernel
noncomputable def levOk (bs : List Bool) : Bool := (List.range 3).all fun e =>
  (decide (levOf (wordOf bs) (sOf bs) (dueA bs - 1 + e) = dueA bs) && decide (levOf (sOf bs) (wordOf bs) (dueA bs - 1 + e) = dueA bs)) &&
  (decide (levOf (wordOf bs) (turnOf bs) (dueB bs - 1 + e) = dueB bs) && decide (levOf (turnOf bs) (wordOf bs) (dueB bs - 1 + e) = dueB bs))
theorem all2 {f : Nat → Bool} (h0 : f 0 = true) (h1 : f 1 = true) : (List.range 2).all f = true := by
  rw [List.all_eq_true]; intro x hx
  have := List.mem_range.mp hx
  match x, this with
  | 0, _ => exact h0
  | 1, _ => exact h1
theorem all3 {f : Nat → Bool} (h0 : f 0 = true) (h1 : f 1 = true) (h2 : f 2 = true) : (List.range 3).all f = true := by
  rw [List.all_eq_true]; intro x hx
  have := List.mem_range.mp hx
  match x, this with
  | 0, _ => exact h0
  | 1, _ => exact h1
  | 2, _ => exact h2
noncomputable def levC (p a b : Nat) : Bool := (List.range 3).all fun c => levOk (paidBy (coBy p a b c))
set_option maxRecDepth 100000 in
theorem lv000 : levC 0 0 0 = true := by decide +kernel
set_option maxRecDepth 100000 in
theorem lv001 : levC 0 0 1 = true := by decide +kernel
set_option maxRecDepth 100000 in
theorem lv002 : levC 0 0 2 = true := by decide +kernel
set_option maxRecDepth 100000 in
theorem lv010 : levC 0 1 0 = true := by decide +kernel
set_option maxRecDepth 100000 in
theorem lv011 : levC 0 1 1 = true := by decide +kernel
set_option maxRecDepth 100000 in
theorem lv012 : levC 0 1 2 = true := by decide +kernel
set_option maxRecDepth 100000 in
theorem lv020 : levC 0 2 0 = true := by decide +kernel
set_option maxRecDepth 100000 in
theorem lv021 : levC 0 2 1 = true := by decide +kernel
set_option maxRecDepth 100000 in
theorem lv022 : levC 0 2 2 = true := by decide +kernel
set_option maxRecDepth 100000 in
theorem lv100 : levC 1 0 0 = true := by decide +kernel
set_option maxRecDepth 100000 in
theorem lv101 : levC 1 0 1 = true := by decide +kernel
set_option maxRecDepth 100000 in
theorem lv102 : levC 1 0 2 = true := by decide +kernel
set_option maxRecDepth 100000 in
theorem lv110 : levC 1 1 0 = true := by decide +kernel
set_option maxRecDepth 100000 in
theorem lv111 : levC 1 1 1 = true := by decide +kernel
set_option maxRecDepth 100000 in
theorem lv112 : levC 1 1 2 = true := by decide +kernel
set_option maxRecDepth 100000 in
theorem lv120 : levC 1 2 0 = true := by decide +kernel
set_option maxRecDepth 100000 in
theorem lv121 : levC 1 2 1 = true := by decide +kernel
set_option maxRecDepth 100000 in
theorem lv122 : levC 1 2 2 = true := by decide +kernel
theorem co_lev : allCo (fun co => levOk (paidBy co)) = true :=
  all2 (f := fun p => (List.range 3).all fun a => (List.range 3).all fun b => levC p a b) (all3 (all3 lv000 lv001 lv002) (all3 lv010 lv011 lv012) (all3 lv020 lv021 lv022)) (all3 (all3 lv100 lv101 lv102) (all3 lv110 lv111 lv112) (all3 lv120 lv121 lv122))
theorem ints_three {vs : List Value} {ts : List Int} (h : IntsAre vs ts) (hl : ts.length = 3) : ∃ t0 t1 t2 k0 k1 k2, ts = [t0, t1, t2] ∧ vs = [.int t0 k0, .int t1 k1, .int t2 k2] := by
  match ts, hl with
  | [a, b, c], _ =>
    obtain ⟨t7, ys, rfl, hys⟩ := IntsAre.cons_inv h
    obtain ⟨t8, ys', rfl, hys'⟩ := IntsAre.cons_inv hys
    obtain ⟨t9, ys'', rfl, hys''⟩ := IntsAre.cons_inv hys'
    cases hys''
    exact ⟨_, _, _, _, _, _, rfl, rfl⟩
theorem told3 {w : World} {mean : ExcName → Option Value} {mg mb : Str → Option Value} {dp un : Nat} {gd : Option (List Code)} {cn : Str} {cs : Scope} {a : Addr} {ccd : Value} {cl : List (Str × Addr)} {outer : List Env} {A₀ : Around} {base h₀ : Heap} {L : Addr} {m : Str → Option Value} {news : List (Addr × Obj)} {s : Shared} {Q E : Value → Shared → Prop}
   (B : Below A₀ base outer h₀) (F : Fr h₀ L s.heap m) (X : (hd.heap_39 w.params).In h₀) (N : News h₀ L s.heap news) (T : TopH mean mg mb h₀) (hk : cs.kind = .function)
   {l : Addr} {vs : List Value} {ns : List Int} (hl : base.IsList l vs.toArray) (hi : IntsAre vs ns) (hn : ns.length ≤ 63) (hdp : dp + 2 < recursionLimit) (_hun : un + 200 < cLine)
   (hret : ∀ t0 t1 t2 k0 k1 k2 n l' h' tk', (0 ≤ t0 ∧ t0 ≤ 63000061) → (0 ≤ t1 ∧ t1 ≤ 63000061) → (0 ≤ t2 ∧ t2 ≤ 63000061) → Fr h₀ L h' m → News h₀ L h' ((l', listOf #[.int t0 k0, .int t1 k1, .int t2 k2] n) :: news) → AllLt l' news → Q (.ref l') { s with heap := h', toks := tk' }) :
   wpAny (model PySem.Challenge.rw_sw0038_01.row.prog w) (ktrTop dp un gd cn cs L a ccd cl outer) (call (.ref 71) [.ref l]) Q E s := by
  refine told_ctr B F X N T hk hl hi hn hdp _hun fun ts vs' n l' h' tk' hi' hl' hb F' N' lt => ?_
  obtain ⟨t0, t1, t2, k0, k1, k2, rfl, rfl⟩ := ints_three hi' hl'
  exact hret t0 t1 t2 k0 k1 k2 n l' h' tk' (hb t0 (by simp)) (hb t1 (by simp)) (hb t2 (by simp)) F' N' lt
theorem marks3 {lp : Addr} {bs : List Bool} {np : Nat} {f : Int} {tf : Tok} {wr : Bool} {w : World} {mean : ExcName → Option Value} {mg mb : Str → Option Value} {dp un : Nat} {gd : Option (List Code)} {cn : Str} {cs : Scope} {a : Addr} {ccd : Value} {cl : List (Str × Addr)} {outer : List Env} {A₀ : Around} {base h₀ : Heap} {L : Addr} {m : Str → Option Value} {news : List (Addr × Obj)} {s : Shared} {Q E : Value → Shared → Prop}
   (B : Below A₀ base outer h₀) (F : Fr h₀ L s.heap m) (X : (hd.heap_39 w.params).In h₀) (N : News h₀ L s.heap ((lp, listOf (bs.map Value.bool).toArray np) :: news)) (T : TopH mean mg mb h₀) (hk : cs.kind = .function)
   (hbs : bs.length = 25) (hf : f = 3 ∨ f = 4) (hleast : leastOk bs f = true) (hperm : (marksTo bs f f.toNat).isPerm (sumsOf bs) = true) (hdp : dp + 4 < recursionLimit) (_hun : un + 200 < cLine)
   (hret : ∀ vs' n l' h' tk' g', IntsAre vs' (sumsOf bs) → Fr h₀ L h' m → News h₀ L h' ((l', listOf vs'.toArray n) :: (lp, listOf (bs.map Value.bool).toArray np) :: news) → AllLt l' ((lp, listOf (bs.map Value.bool).toArray np) :: news) → (AllBare s.gens → AllBare g') → Q (.ref l') { s with heap := h', toks := tk', gens := g' }) :
   wpAny (model PySem.Challenge.rw_sw0038_01.row.prog w) (ktrTop dp un gd cn cs L a ccd cl outer) (call (.ref 86) [.ref lp, .int f tf, .bool wr]) Q E s := by
  have hl : ∀ r : Nat, (r : Int) < f → ∃ l tl, leastOf bs f (0 + (r : Int)) = l :: tl ∧ 1 ≤ l ∧ l ≤ 24 := by
    intro r hr
    have h := List.all_eq_true.mp hleast r (List.mem_range.mpr (by omega))
    cases e : leastOf bs f (0 + (r : Int)) with
    | nil => rw [e] at h; simp at h
    | cons l tl => rw [e] at h; simp at h; exact ⟨l, tl, rfl, h.1, h.2⟩
  have hs : ∀ ns' : List Int, ns'.Perm (marksTo bs f f.toNat) → ns'.Pairwise (· ≤ ·) → ns' = sumsOf bs := by
    intro ns' hp hw
    have hsorted : (sumsOf bs).Pairwise (· ≤ ·) := by
      unfold sumsOf numsBy
      refine List.Pairwise.filter _ ?_
      decide
    exact (hp.trans (List.isPerm_iff.mp hperm)).eq_of_pairwise (fun a b _ _ h1 h2 => Int.le_antisymm h1 h2) hw hsorted
  cases wr with
  | false => exact marks_ctrF B F X N T hk hbs hf hl hdp _hun fun vs' ns' n l' h' tk' g' hi hp hw F' N' lt hg => hret vs' n l' h' tk' g' (hs ns' hp hw ▸ hi) F' N' lt hg
  | true => exact marks_ctrT B F X N T hk hbs hf hl hdp _hun fun vs' ns' n l' h' tk' g' hi hp hw F' N' lt hg => hret vs' n l' h' tk' g' (hs ns' hp hw ▸ hi) F' N' lt hg
noncomputable def CoOk (t2 : Int) (co : List Int) : Prop := ∃ p a b c : Nat, p < 2 ∧ a < 3 ∧ b < 3 ∧ c < 3 ∧ t2.fmod 2 = p ∧ co = coBy p a b c
noncomputable def Coined (t2 : Int) (co : List Int) (bs : List Bool) : Prop := CoOk t2 co ∧ bs = paidBy co
theorem co_get {P : List Int → Bool} (H : allCo P = true) {t2 : Int} {co : List Int} (h : CoOk t2 co) : P co = true := by
  obtain ⟨p, a, b, c, hp, ha, hb, hc, _, e⟩ := h; subst e
  exact allCo_at H hp ha hb hc
theorem cd_get {P : List Bool → Bool} (H : allCo (fun co => P (paidBy co)) = true) {t2 : Int} {co : List Int} {bs : List Bool} (h : Coined t2 co bs) : P bs = true := by
  have e := h.2
  rw [e]
  exact co_get (P := fun co => P (paidBy co)) H h.1
theorem cd_f {t2 : Int} {co : List Int} {bs : List Bool} (h : Coined t2 co bs) : co.getD 0 0 = 3 ∨ co.getD 0 0 = 4 := by
  obtain ⟨p, a, b, c, hp, _, _, _, _, e⟩ := h.1
  rw [e]
  show 3 + (p : Int) = 3 ∨ 3 + (p : Int) = 4
  omega
theorem cd_len {t2 : Int} {co : List Int} {bs : List Bool} (h : Coined t2 co bs) : bs.length = 25 := by
  have e := h.2
  rw [e]
  exact paidTo_length co 24
theorem co_head {t2 : Int} {co : List Int} (h : CoOk t2 co) : co.headD 0 = co.getD 0 0 := by
  obtain ⟨p, a, b, c, _, _, _, _, _, e⟩ := h
  rw [e]; rfl
theorem cd_least {t2 : Int} {co : List Int} {bs : List Bool} (h : Coined t2 co bs) : leastOk bs (co.getD 0 0) = true := by
  have e := h.2
  rw [e, ← co_head h.1]
  exact co_get (P := fun co => leastOk (paidBy co) (co.headD 0)) co_least h.1
theorem cd_perm {t2 : Int} {co : List Int} {bs : List Bool} (h : Coined t2 co bs) : (marksTo bs (co.getD 0 0) (co.getD 0 0).toNat).isPerm (sumsOf bs) = true := by
  have e := h.2
  rw [e, ← co_head h.1]
  exact co_get (P := fun co => (marksTo (paidBy co) (co.headD 0) (co.headD 0).toNat).isPerm (sumsOf (paidBy co))) co_marks h.1
set_option maxRecDepth 100000 in
theorem co_gaps2 : allCo (fun co => decide (numsBy (fun n => !((sumsOf (paidBy co)).any (· == n))) = gapsOf (paidBy co))) = true := by decide +kernel
theorem cd_gaps2 {t2 : Int} {co : List Int} {bs : List Bool} (h : Coined t2 co bs) : numsBy (fun n => !((sumsOf bs).any (· == n))) = gapsOf bs :=
  of_decide_eq_true (cd_get (P := fun bs => decide (numsBy (fun n => !((sumsOf bs).any (· == n))) = gapsOf bs)) co_gaps2 h)
theorem cd_names {t2 : Int} {co : List Int} {bs : List Bool} (h : Coined t2 co bs) : pfNames (flagsOf bs) 11 = (gapsOf bs).map nameOf :=
  of_decide_eq_true (cd_get (P := fun bs => decide (pfNames (flagsOf bs) 11 = (gapsOf bs).map nameOf)) co_names h)
theorem cd_gaps {t2 : Int} {co : List Int} {bs : List Bool} (h : Coined t2 co bs) : 1 ≤ (gapsOf bs).length ∧ (gapsOf bs).length ≤ 11 ∧ 0 < flagsOf bs ∧ flagsOf bs < 2048 ∧ ∀ n ∈ gapsOf bs, 1 ≤ n ∧ n ≤ 11 := by
  have := cd_get (P := fun bs => decide (1 ≤ (gapsOf bs).length) && (decide ((gapsOf bs).length ≤ 11) && (decide (0 < flagsOf bs) && (decide (flagsOf bs < 2048) && ((gapsOf bs).all fun n => decide (1 ≤ n) && decide (n ≤ 11)))))) co_gaps h
  simp only [Bool.and_eq_true, decide_eq_true_eq, List.all_eq_true] at this
  exact this
theorem cd_brack {t2 : Int} {co : List Int} {bs : List Bool} (h : Coined t2 co bs) : chkB (brOf bs) 0 = true ∧ chkB (brOf bs).reverse 0 = false ∧ ∀ k, k < 2 * (gapsOf bs).length → chkB ((brOf bs).take k) 0 = mirOf bs (k + 1) := by
  have := cd_get (P := fun bs => chkB (brOf bs) 0 && (!(chkB (brOf bs).reverse 0) && (List.range (2 * (gapsOf bs).length)).all fun k => chkB ((brOf bs).take k) 0 == mirOf bs (k + 1))) co_brack h
  simp only [Bool.and_eq_true, Bool.not_eq_true', List.all_eq_true, List.mem_range, beq_iff_eq] at this
  exact this
theorem cd_last {t2 : Int} {co : List Int} {bs : List Bool} (h : Coined t2 co bs) : lastOf bs ≤ 22 ∧ ((lastOf bs : Nat) : Int) = (gapsOf bs).getLastD 0 := by
  have := cd_get (P := fun bs => decide (lastOf bs ≤ 22) && decide (((lastOf bs : Nat) : Int) = (gapsOf bs).getLastD 0)) co_last h
  simp only [Bool.and_eq_true, decide_eq_true_eq] at this
  exact this
theorem cd_lev {t2 : Int} {co : List Int} {bs : List Bool} (h : Coined t2 co bs) {e : Int} (h0 : 0 ≤ e) (h3 : e < 3) :
    levOf (wordOf bs) (sOf bs) (dueA bs - 1 + e) = dueA bs ∧ levOf (sOf bs) (wordOf bs) (dueA bs - 1 + e) = dueA bs ∧ levOf (wordOf bs) (turnOf bs) (dueB bs - 1 + e) = dueB bs ∧ levOf (turnOf bs) (wordOf bs) (dueB bs - 1 + e) = dueB bs := by
  have q := cd_get (P := levOk) co_lev h
  unfold levOk at q
  have q2 := List.all_eq_true.mp q e.toNat (List.mem_range.mpr (by omega))
  rw [show ((e.toNat : Nat) : Int) = e from by omega] at q2
  simp only [Bool.and_eq_true, decide_eq_true_eq] at q2
  exact ⟨q2.1.1, q2.1.2, q2.2.1, q2.2.2⟩
theorem coins3 {lt : Addr} {t0 t1 t2 : Int} {k0 k1 k2 : Tok} {n0 : Nat} {w : World} {mean : ExcName → Option Value} {mg mb : Str → Option Value} {dp un : Nat} {gd : Option (List Code)} {cn : Str} {cs : Scope} {a : Addr} {ccd : Value} {cl : List (Str × Addr)} {outer : List Env} {A₀ : Around} {base h₀ : Heap} {L : Addr} {m : Str → Option Value} {news : List (Addr × Obj)} {s : Shared} {Q E : Value → Shared → Prop}
   (B : Below A₀ base outer h₀) (F : Fr h₀ L s.heap m) (X : (hd.heap_39 w.params).In h₀) (N : News h₀ L s.heap ((lt, listOf #[.int t0 k0, .int t1 k1, .int t2 k2] n0) :: news)) (T : TopH mean mg mb h₀) (hk : cs.kind = .function)
   (hb0 : 0 ≤ t0 ∧ t0 ≤ 63000061) (hb1 : 0 ≤ t1 ∧ t1 ≤ 63000061) (hb2 : 0 ≤ t2 ∧ t2 ≤ 63000061) (hdp : dp + 2 < recursionLimit) (_hun : un + 200 < cLine)
   (hret : ∀ co vs' n l' h' tk', CoOk t2 co → IntsAre vs' co → Fr h₀ L h' m → News h₀ L h' ((l', listOf vs'.toArray n) :: (lt, listOf #[.int t0 k0, .int t1 k1, .int t2 k2] n0) :: news) → AllLt l' ((lt, listOf #[.int t0 k0, .int t1 k1, .int t2 k2] n0) :: news) → Q (.ref l') { s with heap := h', toks := tk' }) :
   wpAny (model PySem.Challenge.rw_sw0038_01.row.prog w) (ktrTop dp un gd cn cs L a ccd cl outer) (call (.ref 76) [.ref lt]) Q E s := by
  refine coins_ctr B F X N T hk hb0 hb1 hb2 hdp _hun fun vs' n l' h' tk' hi F' N' lt => ?_
  obtain ⟨p, a, b, c, hp, ha, hb, hc, ep, e⟩ := coins_by t0 t1 t2
  exact hret _ vs' n l' h' tk' ⟨p, a, b, c, hp, ha, hb, hc, ep, e⟩ hi F' N' lt
theorem paid3 {t2 : Int} {lc : Addr} {co : List Int} {vc : List Value} {nc : Nat} {w : World} {mean : ExcName → Option Value} {mg mb : Str → Option Value} {dp un : Nat} {gd : Option (List Code)} {cn : Str} {cs : Scope} {a : Addr} {ccd : Value} {cl : List (Str × Addr)} {outer : List Env} {A₀ : Around} {base h₀ : Heap} {L : Addr} {m : Str → Option Value} {news : List (Addr × Obj)} {s : Shared} {Q E : Value → Shared → Prop}
   (B : Below A₀ base outer h₀) (F : Fr h₀ L s.heap m) (X : (hd.heap_39 w.params).In h₀) (N : News h₀ L s.heap ((lc, listOf vc.toArray nc) :: news)) (T : TopH mean mg mb h₀) (hk : cs.kind = .function)
   (hi : IntsAre vc co) (ho : CoOk t2 co) (hdp : dp + 2 < recursionLimit) (_hun : un + 200 < cLine)
   (hret : ∀ bs n l' h' tk', Coined t2 co bs → Fr h₀ L h' m → News h₀ L h' ((l', listOf (bs.map Value.bool).toArray n) :: (lc, listOf vc.toArray nc) :: news) → AllLt l' ((lc, listOf vc.toArray nc) :: news) → Q (.ref l') { s with heap := h', toks := tk' }) :
   wpAny (model PySem.Challenge.rw_sw0038_01.row.prog w) (ktrTop dp un gd cn cs L a ccd cl outer) (call (.ref 81) [.ref lc]) Q E s := by
  have hs := co_get co_small ho
  simp only [Bool.and_eq_true, decide_eq_true_eq, List.all_eq_true] at hs
  exact paid_ctr B F X N T hk hi hs.1 hs.2 hdp _hun fun n l' h' tk' F' N' lt => hret (paidBy co) n l' h' tk' ⟨ho, rfl⟩ F' N' lt
noncomputable def powOf (n : Int) : Int := 2 ^ (n - 1).toNat
theorem ints_powd {ys : List Value} {ns : List Int} {i : Nat} {c : Int} {t : Tok} (h : IntsAre ys ((ns.take i).map powOf)) (hc : ns[i]? = some c) : IntsAre (ys ++ [.int (2 ^ (c - 1).toNat) t]) ((ns.take (i + 1)).map powOf) := by
  rw [take_snoc hc, List.map_append]; exact h.append (.cons _ _ .nil)
theorem pow_sum (l : List Int) : (l.map powOf).sum = (((l.map fun n => 2 ^ (n - 1).toNat).sum : Nat) : Int) := by
  induction l with
  | nil => rfl
  | cons n l ih => simp only [List.map_cons, List.sum_cons, ih, powOf]; push_cast; rfl
theorem flags_sum (bs : List Bool) : ((gapsOf bs).map powOf).sum = ((flagsOf bs : Nat) : Int) := pow_sum _
theorem names3 {lg : Addr} {vs : List Value} {ns : List Int} {n0 : Nat} {w : World} {mean : ExcName → Option Value} {mg mb : Str → Option Value} {dp un : Nat} {gd : Option (List Code)} {cn : Str} {cs : Scope} {a : Addr} {ccd : Value} {cl : List (Str × Addr)} {outer : List Env} {A₀ : Around} {base h₀ : Heap} {L : Addr} {m : Str → Option Value} {news : List (Addr × Obj)} {s : Shared} {Q E : Value → Shared → Prop}
   (B : Below A₀ base outer h₀) (F : Fr h₀ L s.heap m) (X : (hd.heap_39 w.params).In h₀) (N : News h₀ L s.heap news) (T : TopH mean mg mb h₀) (hk : cs.kind = .function)
   (hm : (lg, listOf vs.toArray n0) ∈ news) (hi : IntsAre vs ns) (hr : ∀ n ∈ ns, 1 ≤ n ∧ n ≤ 11) (hlen : ns.length ≤ 63)
   (hdp : dp + 2 < recursionLimit) (_hun : un + 200 < cLine)
   (hret : ∀ h' t' tk', Fr h₀ L h' m → News h₀ L h' news → Q (.str (Txt.join (Str.ofString ", ") (ns.map nameOf)) t') { s with heap := h', toks := tk' }) :
   wpAny (model PySem.Challenge.rw_sw0038_01.row.prog w) (ktrTop dp un gd cn cs L a ccd cl outer) (call (.ref 91) [.ref lg]) Q E s := by
  refine names_ctr B F X (cb_drop N (List.forall_mem_cons.mpr ⟨hm, fun p hp => hp⟩)) T hk hi hr hlen hdp _hun fun h' t' tk' F' N' => hret h' t' tk' F' (cb_drop N' fun p hp => .tail _ hp)
theorem pieces3 {lg : Addr} {vg : List Value} {ns : List Int} {n0 : Nat} {d : Int} {td : Tok} {w : World} {mean : ExcName → Option Value} {mg mb : Str → Option Value} {dp un : Nat} {gd : Option (List Code)} {cn : Str} {cs : Scope} {a : Addr} {ccd : Value} {cl : List (Str × Addr)} {outer : List Env} {A₀ : Around} {base h₀ : Heap} {L : Addr} {m : Str → Option Value} {news : List (Addr × Obj)} {s : Shared} {Q E : Value → Shared → Prop}
   (B : Below A₀ base outer h₀) (F : Fr h₀ L s.heap m) (X : (hd.heap_39 w.params).In h₀) (N : News h₀ L s.heap news) (T : TopH mean mg mb h₀) (hk : cs.kind = .function)
   (hm : (lg, listOf vg.toArray n0) ∈ news) (hi : IntsAre vg ns) (hlen : ns.length ≤ 63) (hd0 : 0 ≤ d ∧ d < 1000)
   (hdp : dp + 2 < recursionLimit) (_hun : un + 200 < cLine)
   (hret : ∀ vs' n l' h' tk', StrsAre vs' (piecesTo ns d (2 * ns.length)) → Fr h₀ L h' m → News h₀ L h' ((l', listOf vs'.toArray n) :: news) → AllLt l' news → Q (.ref l') { s with heap := h', toks := tk' }) :
   wpAny (model PySem.Challenge.rw_sw0038_01.row.prog w) (ktrTop dp un gd cn cs L a ccd cl outer) (call (.ref 98) [.ref lg, .int d td]) Q E s := by
  refine pieces_ctr B F X (cb_drop N (List.forall_mem_cons.mpr ⟨hm, fun p hp => hp⟩)) T hk hi hlen hd0 hdp _hun fun vs' n l' h' tk' hs F' N' lt => hret vs' n l' h' tk' hs F' (cb_drop N' (List.forall_mem_cons.mpr ⟨.head _, fun p hp => .tail _ (.tail _ hp)⟩)) lt.2
theorem pretty3 {t2 : Int} {co : List Int} {bs : List Bool} {t9 : Tok} (hC : Coined t2 co bs) {w : World} {mean : ExcName → Option Value} {mg mb : Str → Option Value} {dp un : Nat} {gd : Option (List Code)} {cn : Str} {cs : Scope} {a : Addr} {ccd : Value} {cl : List (Str × Addr)} {outer : List Env} {A₀ : Around} {base h₀ : Heap} {L : Addr} {m : Str → Option Value} {news : List (Addr × Obj)} {s : Shared} {Q E : Value → Shared → Prop}
   (B : Below A₀ base outer h₀) (F : Fr h₀ L s.heap m) (X : (hd.heap_39 w.params).In h₀) (N : News h₀ L s.heap news) (T : TopH mean mg mb h₀) (hk : cs.kind = .function)
   (hdp : dp + 2 < recursionLimit) (_hun : un + 200 < cLine)
   (hret : ∀ h' t' tk', Fr h₀ L h' m → News h₀ L h' news → Q (.str (Txt.join (Str.ofString ", ") ((gapsOf bs).map nameOf)) t') { s with heap := h', toks := tk' }) :
   wpAny (model PySem.Challenge.rw_sw0038_01.row.prog w) (ktrTop dp un gd cn cs L a ccd cl outer) (call (.ref 43) [.int (flagsOf bs : Nat) t9]) Q E s := by
  refine pretty_ctr B F X N T hk ⟨(cd_gaps hC).2.2.1, (cd_gaps hC).2.2.2.1⟩ hdp _hun fun h' t' tk' F' N' => ?_
  rw [cd_names hC]; exact hret h' t' tk' F' N'
theorem gaps_take {t2 : Int} {co : List Int} {bs : List Bool} {ys : List Value} (hC : Coined t2 co bs) (h : IntsAre ys ((((List.range 24).map fun (k : Nat) => 1 + (k : Int)).take 24).filter fun n => !((sumsOf bs).any (· == n)))) : IntsAre ys (gapsOf bs) := by
  rw [List.take_of_length_le (by simp)] at h; rw [← cd_gaps2 hC]; exact h
theorem sums_take {bs : List Bool} {ys : List Value} (h : IntsAre ys ((((List.range 24).map fun (k : Nat) => 1 + (k : Int)).take 24).filter fun n => bs.getD n.toNat false)) : IntsAre ys (sumsOf bs) := by
  rw [List.take_of_length_le (by simp)] at h; exact h
theorem co_pos {t2 : Int} {co : List Int} (h : CoOk t2 co) : (0 : Int) < (co.length : Int) := by
  obtain ⟨p, a, b, c, _, _, _, _, _, e⟩ := h
  rw [e]; unfold coBy; rw [List.length_append]; simp; omega
section
variable {prog : Program} {w : World} {A : Around} {E : Value → Shared → Prop} {s : Shared} {h₀ : Heap} {L : Addr} {news : List (Addr × Obj)}
theorem item_ints_led {value slice : PySem.Expr} {l : Addr} {vs : List Value} {ns : List Int} {n : Nat} {k : Int} {u : Tok} {Q : Value → Shared → Prop} (N : News h₀ L s.heap news) (hm : (l, listOf vs.toArray n) ∈ news) (hi : IntsAre vs ns) (h0 : 0 ≤ k) (h1 : k < (ns.length : Int)) (hfit : k < 2 ^ 63) (h : ∀ t, Q (.int (ns.getD k.toNat 0) t) s)
    (hs : subscripted slice false (.ref l) (.int k u) = operate [.ref l, .int k u] (getItem (.ref l) (.int k u)) := by with_unfolding_all rfl) (hg : ∀ r, letTemporaryGo value (.ref l) r = pure () := by intro _; with_unfolding_all rfl) :
    wpAny (model prog w) A (subscriptTail value slice (.ref l) (.int k u)) Q E s :=
  item_list_ints ⟨_, (N _ hm).1, rfl, _, rfl⟩ hi h0 h1 hfit h hs hg
end
theorem strs_rev : ∀ {vs : List Value} {ss : List Str}, StrsAre vs ss → StrsAre vs.reverse ss.reverse
  | _, _, .nil => .nil
  | _, _, .cons y t h => by rw [List.reverse_cons, List.reverse_cons]; exact strs_snoc (strs_rev h) y t
theorem pieces_take (ns : List Int) (d : Int) {i n : Nat} (h : i ≤ n) : (piecesTo ns d n).take i = piecesTo ns d i := by
  unfold piecesTo; rw [← List.map_take, List.take_range, Nat.min_eq_left h]
theorem pieces_len (ns : List Int) (d : Int) (n : Nat) : (piecesTo ns d n).length = n := by unfold piecesTo; rw [List.length_map, List.length_range]
theorem piece_le (ns : List Int) (d n : Int) : (pieceOf ns d n).length ≤ 1000 := by
  have h := congrArg List.length (piece_cps ns d n)
  have h2 := (small_pc (dressOf d n, ns.any (· == n))).2.2
  rw [Array.length_toList] at h
  show (pieceOf ns d n).cps.size ≤ 1000
  omega
theorem pieces_weight {ns : List Int} {d : Int} {n : Nat} (h : n ≤ 1000) : ((piecesTo ns d n).map (·.length)).sum + (piecesTo ns d n).length ≤ 1048576 := by
  refine weight_of (by rw [pieces_len]; omega) fun y hy => ?_
  unfold piecesTo at hy
  obtain ⟨k, _, rfl⟩ := List.mem_map.mp hy
  exact piece_le _ _ _
theorem pieces_weightR {ns : List Int} {d : Int} {n : Nat} (h : n ≤ 1000) : ((piecesTo ns d n).reverse.map (·.length)).sum + (piecesTo ns d n).reverse.length ≤ 1048576 := by
  refine weight_of (by rw [List.length_reverse, pieces_len]; omega) fun y hy => ?_
  rw [List.mem_reverse] at hy
  unfold piecesTo at hy
  obtain ⟨k, _, rfl⟩ := List.mem_map.mp hy
  exact piece_le _ _ _
theorem ps_len (ns : List Int) (d : Int) (n : Nat) : (psOf ns d n).length = n := by unfold psOf; rw [List.length_map, List.length_range]
theorem ps_br {bs : List Bool} {d : Int} {i : Nat} (h : i ≤ 2 * (gapsOf bs).length) : (psOf (gapsOf bs) d i).map (·.2) = (brOf bs).take i := by
  unfold psOf brOf
  rw [← List.map_take, List.take_range, Nat.min_eq_left h, List.map_map]; rfl
theorem chk3 {l : List Str} {ps : List (Nat × Bool)} {r : Bool} {t : Tok} (hl : l.map (fun y => y.cps.toList) = ps.map pc) (hn : ps.length ≤ 100) (hr : chkB (ps.map (·.2)) 0 = r) {w : World} {mean : ExcName → Option Value} {mg mb : Str → Option Value} {dp un : Nat} {gd : Option (List Code)} {cn : Str} {cs : Scope} {a : Addr} {ccd : Value} {cl : List (Str × Addr)} {outer : List Env} {A₀ : Around} {base h₀ : Heap} {L : Addr} {m : Str → Option Value} {news : List (Addr × Obj)} {s : Shared} {Q E : Value → Shared → Prop}
   (B : Below A₀ base outer h₀) (F : Fr h₀ L s.heap m) (X : (hd.heap_39 w.params).In h₀) (N : News h₀ L s.heap news) (T : TopH mean mg mb h₀) (hk : cs.kind = .function)
   (hdp : dp + 5 < recursionLimit) (_hun : un + 300 < cLine)
   (hret : ∀ h' tk' g', Fr h₀ L h' m → News h₀ L h' news → (AllBare s.gens → AllBare g') → Q (.bool r) { s with heap := h', toks := tk', gens := g' }) :
   wpAny (model PySem.Challenge.rw_sw0038_01.row.prog w) (ktrTop dp un gd cn cs L a ccd cl outer) (call (.ref 35) [.str (Txt.join (Str.ofString "") l) t]) Q E s := by
  obtain ⟨a1, a2, a3, a4, a5, a6⟩ := text_ok (join_ps hl) hn
  refine check_ctr B F X N T hk a1 a2 a3 a4 a5 hdp _hun fun h' tk' g' F' N' hg => ?_
  rw [a6, hr]
  exact hret h' tk' g' F' N' hg
theorem chk_part {t2 : Int} {co : List Int} {bs : List Bool} {d : Int} {i : Nat} {t : Tok} (hC : Coined t2 co bs) (hi : i < 2 * (gapsOf bs).length) {w : World} {mean : ExcName → Option Value} {mg mb : Str → Option Value} {dp un : Nat} {gd : Option (List Code)} {cn : Str} {cs : Scope} {a : Addr} {ccd : Value} {cl : List (Str × Addr)} {outer : List Env} {A₀ : Around} {base h₀ : Heap} {L : Addr} {m : Str → Option Value} {news : List (Addr × Obj)} {s : Shared} {Q E : Value → Shared → Prop}
   (B : Below A₀ base outer h₀) (F : Fr h₀ L s.heap m) (X : (hd.heap_39 w.params).In h₀) (N : News h₀ L s.heap news) (T : TopH mean mg mb h₀) (hk : cs.kind = .function)
   (hdp : dp + 5 < recursionLimit) (_hun : un + 300 < cLine)
   (hret : ∀ h' tk' g', Fr h₀ L h' m → News h₀ L h' news → (AllBare s.gens → AllBare g') → Q (.bool (mirOf bs (i + 1))) { s with heap := h', toks := tk', gens := g' }) :
   wpAny (model PySem.Challenge.rw_sw0038_01.row.prog w) (ktrTop dp un gd cn cs L a ccd cl outer) (call (.ref 35) [.str (Txt.join (Str.ofString "") (piecesTo (gapsOf bs) d i)) t]) Q E s := by
  refine chk3 (pieces_cps (gapsOf bs) d i) (by have := (cd_gaps hC).2.1; rw [ps_len]; omega) ?_ B F X N T hk hdp _hun hret
  rw [ps_br (Nat.le_of_lt hi)]; exact (cd_brack hC).2.2 i hi
theorem chk_whole {t2 : Int} {co : List Int} {bs : List Bool} {d : Int} {t : Tok} (hC : Coined t2 co bs) {w : World} {mean : ExcName → Option Value} {mg mb : Str → Option Value} {dp un : Nat} {gd : Option (List Code)} {cn : Str} {cs : Scope} {a : Addr} {ccd : Value} {cl : List (Str × Addr)} {outer : List Env} {A₀ : Around} {base h₀ : Heap} {L : Addr} {m : Str → Option Value} {news : List (Addr × Obj)} {s : Shared} {Q E : Value → Shared → Prop}
   (B : Below A₀ base outer h₀) (F : Fr h₀ L s.heap m) (X : (hd.heap_39 w.params).In h₀) (N : News h₀ L s.heap news) (T : TopH mean mg mb h₀) (hk : cs.kind = .function)
   (hdp : dp + 5 < recursionLimit) (_hun : un + 300 < cLine)
   (hret : ∀ h' tk' g', Fr h₀ L h' m → News h₀ L h' news → (AllBare s.gens → AllBare g') → Q (.bool true) { s with heap := h', toks := tk', gens := g' }) :
   wpAny (model PySem.Challenge.rw_sw0038_01.row.prog w) (ktrTop dp un gd cn cs L a ccd cl outer) (call (.ref 35) [.str (Txt.join (Str.ofString "") (piecesTo (gapsOf bs) d (2 * (gapsOf bs).length))) t]) Q E s := by
  refine chk3 (pieces_cps (gapsOf bs) d _) (by have := (cd_gaps hC).2.1; rw [ps_len]; omega) ?_ B F X N T hk hdp _hun hret
  rw [ps_br (Nat.le_refl _), List.take_of_length_le (by unfold brOf; rw [List.length_map, List.length_range]; exact Nat.le_refl _)]; exact (cd_brack hC).1
theorem chk_back {t2 : Int} {co : List Int} {bs : List Bool} {d : Int} {t : Tok} (hC : Coined t2 co bs) {w : World} {mean : ExcName → Option Value} {mg mb : Str → Option Value} {dp un : Nat} {gd : Option (List Code)} {cn : Str} {cs : Scope} {a : Addr} {ccd : Value} {cl : List (Str × Addr)} {outer : List Env} {A₀ : Around} {base h₀ : Heap} {L : Addr} {m : Str → Option Value} {news : List (Addr × Obj)} {s : Shared} {Q E : Value → Shared → Prop}
   (B : Below A₀ base outer h₀) (F : Fr h₀ L s.heap m) (X : (hd.heap_39 w.params).In h₀) (N : News h₀ L s.heap news) (T : TopH mean mg mb h₀) (hk : cs.kind = .function)
   (hdp : dp + 5 < recursionLimit) (_hun : un + 300 < cLine)
   (hret : ∀ h' tk' g', Fr h₀ L h' m → News h₀ L h' news → (AllBare s.gens → AllBare g') → Q (.bool false) { s with heap := h', toks := tk', gens := g' }) :
   wpAny (model PySem.Challenge.rw_sw0038_01.row.prog w) (ktrTop dp un gd cn cs L a ccd cl outer) (call (.ref 35) [.str (Txt.join (Str.ofString "") (piecesTo (gapsOf bs) d (2 * (gapsOf bs).length)).reverse) t]) Q E s := by
  refine chk3 (ps := (psOf (gapsOf bs) d (2 * (gapsOf bs).length)).reverse) (by rw [List.map_reverse, List.map_reverse, pieces_cps]) (by have := (cd_gaps hC).2.1; rw [List.length_reverse, ps_len]; omega) ?_ B F X N T hk hdp _hun hret
  rw [List.map_reverse, ps_br (Nat.le_refl _), List.take_of_length_le (by unfold brOf; rw [List.length_map, List.length_range]; exact Nat.le_refl _)]; exact (cd_brack hC).2.1
theorem pick_take (vs : List Value) {x : Int} {i : Nat} (hx : x = (i : Int)) (h : i ≤ vs.length) : kms_pick vs.toArray.toList none (some x) = vs.take i := by
  subst hx
  unfold kms_pick kms_lo kms_hi
  simp only [if_neg (show ¬ ((i : Int) < 0) by omega)]
  rw [List.drop_zero, show min (i : Int).toNat vs.length - 0 = i from by rw [Int.toNat_natCast, Nat.min_eq_left h, Nat.sub_zero]]
theorem rng0_at {j n : Nat} (h : j < n) : ((List.range n).map fun (k : Nat) => 0 + (k : Int))[j]? = some (0 + (j : Int)) := by simp [h]
theorem pieces_slice {ns : List Int} {d : Int} {n i : Nat} {vs : List Value} (h : StrsAre vs (piecesTo ns d n)) (hi : i ≤ n) : StrsAre (vs.take i) (piecesTo ns d i) := by
  have := StrsAre.take' h i
  rw [pieces_take ns d hi] at this; exact this
theorem len_pcs {ns : List Int} {d : Int} {n : Nat} {vs : List Value} (h : StrsAre vs (piecesTo ns d (2 * n))) : ((vs.toArray.size : Nat) : Int) = 2 * (n : Int) := by
  rw [List.size_toArray, strs_len h, pieces_len]; omega
theorem len_ints {ns : List Int} {vs : List Value} (h : IntsAre vs ns) : ((vs.toArray.size : Nat) : Int) = (ns.length : Int) := by
  rw [List.size_toArray, IntsAre.length h]
theorem it1 {j n : Nat} (hj : j < 24) (hl : n = 25) : 0 ≤ 1 + (j : Int) ∧ 1 + (j : Int) < 2 ^ 63 ∧ (1 + (j : Int)).toNat < n := ⟨by omega, by omega, by omega⟩
theorem it2 {i j g n : Nat} (hj : j < (1 + (i : Int) + 1 - 0).toNat) (hi : i < 2 * g) (hg : g ≤ 11) (hl : n = 25) : 0 ≤ 0 + (j : Int) ∧ 0 + (j : Int) < 2 ^ 63 ∧ (0 + (j : Int)).toNat < n := ⟨by omega, by omega, by omega⟩
theorem it3 {i j g n : Nat} (hj : j < (1 + (i : Int) + 1 - 0).toNat) (hi : i < 2 * g) (hg : g ≤ 11) (hl : n = 25) : 0 ≤ 1 + (i : Int) - (0 + (j : Int)) ∧ 1 + (i : Int) - (0 + (j : Int)) < 2 ^ 63 ∧ (1 + (i : Int) - (0 + (j : Int))).toNat < n := ⟨by omega, by omega, by omega⟩
theorem it4 {j lo n : Nat} (hj : j < ((lo : Int) + 1 - 0).toNat) (hg : lo ≤ 22) (hl : n = 25) : 0 ≤ 0 + (j : Int) ∧ 0 + (j : Int) < 2 ^ 63 ∧ (0 + (j : Int)).toNat < n := ⟨by omega, by omega, by omega⟩
theorem it5 {j lo n : Nat} (hj : j < ((lo : Int) + 1 - 0).toNat) (hg : lo ≤ 22) (hl : n = 25) : 0 ≤ (lo : Int) - (0 + (j : Int)) ∧ (lo : Int) - (0 + (j : Int)) < 2 ^ 63 ∧ ((lo : Int) - (0 + (j : Int))).toNat < n := ⟨by omega, by omega, by omega⟩
theorem sm2 {i g : Nat} (hi : i < 2 * g) (hg : g ≤ 11) : Builtin.Range.small 0 (1 + (i : Int) + 1) 1 = true ∧ (1 + (i : Int) + 1 - 0).toNat ≤ sizeLine := ⟨small_one (by decide) (by decide) (by omega) (by omega), by rw [sizeLine_eq]; omega⟩
theorem sm4 {lo : Nat} (hg : lo ≤ 22) : Builtin.Range.small 0 ((lo : Int) + 1) 1 = true ∧ ((lo : Int) + 1 - 0).toNat ≤ sizeLine ∧ ((lo : Int) + 1 - 0).toNat ≤ 100 := ⟨small_one (by decide) (by decide) (by omega) (by omega), by rw [sizeLine_eq]; omega, by omega⟩
theorem sl3 {i g : Nat} (hi : i < 2 * g) : 1 + (i : Int) - 1 = (i : Int) ∧ i ≤ 2 * g := by omega
theorem le22 {g : Nat} (hg : g ≤ 11) : 2 * g ≤ 1000 ∧ 2 * g ≤ sizeLine ∧ 2 * (g : Int) < 2 ^ 63 ∧ (g : Int) < 2 ^ 63 := by rw [sizeLine_eq]; omega
theorem i22 {i g : Nat} (hi : i < 2 * g) (hg : g ≤ 11) : i ≤ 1000 := by omega
noncomputable def mirL (bs : List Bool) (i : Nat) : List Int := ((List.range (1 + (i : Int) + 1 - 0).toNat).map fun (k : Nat) => 0 + (k : Int)).filter fun x => bs.getD x.toNat false == bs.getD (1 + (i : Int) - x).toNat false
theorem mir_take {bs : List Bool} {i : Nat} {ys : List Value} (h : IntsAre ys ((((List.range (1 + (i : Int) + 1 - 0).toNat).map fun (k : Nat) => 0 + (k : Int)).take (1 + (i : Int) + 1 - 0).toNat).filter fun x => bs.getD x.toNat false == bs.getD (1 + (i : Int) - x).toNat false)) : IntsAre ys (mirL bs i) := by
  rw [List.take_of_length_le (by simp)] at h; exact h
theorem mir_is (bs : List Bool) (i : Nat) : decide (mirL bs i = []) = mirOf bs (i + 1) := by
  unfold mirL mirOf
  rw [List.filter_map, show (1 + (i : Int) + 1 - 0).toNat = i + 1 + 1 from by omega]
  have e : ∀ x ∈ List.range (i + 1 + 1), ((fun x : Int => bs.getD x.toNat false == bs.getD (1 + (i : Int) - x).toNat false) ∘ fun (k : Nat) => 0 + (k : Int)) x = (bs.getD x false == bs.getD (i + 1 - x) false) := by
    intro x hx
    have := List.mem_range.mp hx
    show (bs.getD (0 + (x : Int)).toNat false == bs.getD (1 + (i : Int) - (0 + (x : Int))).toNat false) = _
    rw [show (0 + (x : Int)).toNat = x from by omega, show (1 + (i : Int) - (0 + (x : Int))).toNat = i + 1 - x from by omega]
  rw [List.filter_congr e]
  simp only [List.map_eq_nil_iff]
abbrev lawM (m : Str → Option Value) (lt lg lp : Addr) : Str → Option Value := fun y => if y = Str.ofString "told" then some (.ref lt) else if y = Str.ofString "gaps" then some (.ref lg) else if y = Str.ofString "pieces" then some (.ref lp) else m y
theorem lawM_eq {m : Str → Option Value} {lt lg lp : Addr} (h1 : m (Str.ofString "told") = some (.ref lt)) (h2 : m (Str.ofString "gaps") = some (.ref lg)) (h3 : m (Str.ofString "pieces") = some (.ref lp)) : ∀ y, m y = lawM m lt lg lp y := by
  intro y; unfold lawM
  split
  · next q => rw [q]; exact h1
  · split
    · next q => rw [q]; exact h2
    · split
      · next q => rw [q]; exact h3
      · rfl
section
variable {prog : Program} {w : World} {A : Around} {E : Value → Shared → Prop} {s : Shared} {h₀ : Heap} {L : Addr} {m : Str → Option Value} {env : Env}
theorem law_loop {x : Str} {body : List Stmt} {Q : Flow → Shared → Prop} {r : Addr} {t u v : Tok} {rest : List (Addr × Obj)} {an lt lg lp : Addr} {c0 : Obj} {v0 : Option Value} {g9 : Nat} {b : Int}
    (hh : A.handled = none) (F : Fr h₀ L s.heap (lawM m lt lg lp)) (N : News h₀ L s.heap ((an, c0) :: rest)) (hr : IsRange s.heap r 1 b 1 t u v) (hb : b = 2 * (g9 : Int) + 1) (hlen : g9 ≤ 11) (hG : AllBare s.gens) (hc : c0.data = Data.cell v0) (ho : LCg.Off1 an rest)
    (turn : ∀ (i : Nat) mm c cv g I oI h tk t', i < 2 * g9 → c.data = Data.cell cv → AllBare g → LCg.Off1 an rest → LCg.Off1 I ((an, c) :: rest) → Fr h₀ L h (lawM mm lt lg lp) → News h₀ L h ((I, oI) :: (an, c) :: rest) →
      wpAny (model prog w) A (storeName env x (.int (1 + (i : Int)) t')) (fun _ s₂ => wpAny (model prog w) A (execs body env) (StepEnd h₀ L s I oI (fun m' news' g' => AllBare g' ∧ ∃ mm c cv, m' = lawM mm lt lg lp ∧ c.data = Data.cell cv ∧ news' = (an, c) :: rest) Q) (fun _ _ => False) s₂) (fun _ _ => False) { s with heap := h, toks := tk, gens := g })
    (done : ∀ mm c cv g h tk, c.data = Data.cell cv → AllBare g → Fr h₀ L h (lawM mm lt lg lp) → News h₀ L h ((an, c) :: rest) → Q .next { s with heap := h, toks := tk, gens := g }) :
    RLoop prog w A h₀ L env x body Q (.ref r) s := by
  subst hb
  refine RLoop.intro (n := (2 * (g9 : Int) + 1 - 1).toNat) (fun i m' news' g' => AllBare g' ∧ ∃ mm c cv, m' = lawM mm lt lg lp ∧ c.data = Data.cell cv ∧ news' = (an, c) :: rest) hh F N hr (small_one (by decide) (by decide) (by omega) (by omega)) (rangeSize_nat _ _) ⟨hG, m, c0, v0, rfl, hc, rfl⟩ ?_ ?_
  · rintro i m₁ news₁ g₁ I oI h tk t' hi ⟨hG', mm, c, cv, rfl, hcv, rfl⟩ o F₁ N₁
    exact turn i mm c cv g₁ I oI h tk t' (by omega) hcv hG' ho o F₁ N₁
  · rintro m' news' g' h tk ⟨hG', mm, c, cv, rfl, hcv, rfl⟩ F₁ N₁
    exact done mm c cv g' h tk hcv hG' F₁ N₁
noncomputable def JoinEnd (h₀ : Heap) (L : Addr) (s : Shared) (m : Str → Option Value) (news : List (Addr × Obj)) (x : Str) (r : Int) (f : Flow) (s' : Shared) : Prop :=
  f = .next ∧ ∃ h' tk' t, s' = { s with heap := h', toks := tk' } ∧ Fr h₀ L h' (fun y => if y = x then some (.int r t) else m y) ∧ News h₀ L h' news
theorem JoinEnd.mk {news : List (Addr × Obj)} {x : Str} {r : Int} {h' : Heap} {tk' : Nat} {t : Tok} (F : Fr h₀ L h' (fun y => if y = x then some (.int r t) else m y)) (N : News h₀ L h' news) : JoinEnd h₀ L s m news x r .next { s with heap := h', toks := tk' } := ⟨rfl, _, _, _, rfl, F, N⟩
theorem If_join {test : PySem.Expr} {body orelse : List Stmt} {pos : Pos} {news : List (Addr × Obj)} {Q : Flow → Shared → Prop} {E : Value → Shared → Prop} (x : Str) (r : Int) (_F : Fr h₀ L s.heap m) (_N : News h₀ L s.heap news)
    (h : wpAny (model prog w) A (isTrue test env (eval test env)) (fun b s₂ => if b then wpAny (model prog w) A (execs body env) (JoinEnd h₀ L s m news x r) (fun _ _ => False) s₂ else wpAny (model prog w) A (execs orelse env) (JoinEnd h₀ L s m news x r) (fun _ _ => False) s₂) (fun _ _ => False) s)
    (k : ∀ h' tk' t, Fr h₀ L h' (fun y => if y = x then some (.int r t) else m y) → News h₀ L h' news → Q .next { s with heap := h', toks := tk' }) :
    wpAny (model prog w) A (exec (.If test body orelse pos) env) Q E s :=
  wpAny_mono (wpAny_If h) (fun f s' hf => by obtain ⟨rfl, h', tk', t, rfl, F', N'⟩ := hf; exact k h' tk' t F' N') fun _ _ e => e.elim
theorem truthy_ne {b : Bool} {Q : Bool → Shared → Prop} {E : Value → Shared → Prop} (h : wpAny (model prog w) A (truthy (.bool false)) Q E s) : wpAny (model prog w) A (truthy (.bool (b != b))) Q E s := by rw [bne_self_eq_false]; exact h
theorem law_end {h' : Heap} {m' : Str → Option Value} {an lt lg lp I : Addr} {oI c : Obj} {cv : Option Value} {tk' : Nat} {g' : Array GenState} {rest : List (Addr × Obj)} {Q : Flow → Shared → Prop} (F : Fr h₀ L h' m')
    (h1 : m' (Str.ofString "told") = some (.ref lt)) (h2 : m' (Str.ofString "gaps") = some (.ref lg)) (h3 : m' (Str.ofString "pieces") = some (.ref lp))
    (N : News h₀ L h' ((I, oI) :: (an, c) :: rest)) (off : LCg.Off1 I ((an, c) :: rest)) (hc : c.data = Data.cell cv) (hG : AllBare g') :
    StepEnd h₀ L s I oI (fun m' news' g' => AllBare g' ∧ ∃ mm c cv, m' = lawM mm lt lg lp ∧ c.data = Data.cell cv ∧ news' = (an, c) :: rest) Q .next { s with heap := h', toks := tk', gens := g' } :=
  StepEnd.next _ (fr_eq F (lawM_eq h1 h2 h3)) N off ⟨hG, _, _, _, rfl, hc, rfl⟩
end
theorem last_at {t2 : Int} {co : List Int} {bs : List Bool} (hC : Coined t2 co bs) : (gapsOf bs).getD (-1 + ((gapsOf bs).length : Int)).toNat 0 = ((lastOf bs : Nat) : Int) := by
  rw [(cd_last hC).2, show (-1 + ((gapsOf bs).length : Int)).toNat = (gapsOf bs).length - 1 from by omega, List.getLastD_eq_getLast?, List.getLast?_eq_getElem?, List.getD_eq_getElem?_getD]
noncomputable def wl (bs : List Bool) (x : Nat) : Str := if bs.getD x false then Str.ofString "s" else Str.ofString "S"
noncomputable def tl (bs : List Bool) (x : Nat) : Str := if bs.getD (lastOf bs - x) false then Str.ofString "S" else Str.ofString "s"
theorem strs_mapd {ys : List Value} {f : Nat → Str} {j : Nat} {y : Str} {t : Tok} (h : StrsAre ys ((List.range j).map f)) (e : f j = y) : StrsAre (ys ++ [.str y t]) ((List.range (j + 1)).map f) := by
  rw [List.range_succ, List.map_append, ← e]; exact strs_snoc h _ _
theorem word_yes {ys : List Value} {bs : List Bool} {j : Nat} {t : Tok} (h : StrsAre ys ((List.range j).map (wl bs))) (hy : bs.getD (0 + (j : Int)).toNat false = true) : StrsAre (ys ++ [.str (Str.ofString "s") t]) ((List.range (j + 1)).map (wl bs)) := by
  rw [show (0 + (j : Int)).toNat = j from by omega] at hy
  exact strs_mapd h (by unfold wl; rw [hy]; rfl)
theorem word_no {ys : List Value} {bs : List Bool} {j : Nat} {t : Tok} (h : StrsAre ys ((List.range j).map (wl bs))) (hy : bs.getD (0 + (j : Int)).toNat false = false) : StrsAre (ys ++ [.str (Str.ofString "S") t]) ((List.range (j + 1)).map (wl bs)) := by
  rw [show (0 + (j : Int)).toNat = j from by omega] at hy
  exact strs_mapd h (by unfold wl; rw [hy]; rfl)
theorem turn_yes {ys : List Value} {bs : List Bool} {j : Nat} {t : Tok} (h : StrsAre ys ((List.range j).map (tl bs))) (hy : bs.getD (((lastOf bs : Nat) : Int) - (0 + (j : Int))).toNat false = true) : StrsAre (ys ++ [.str (Str.ofString "S") t]) ((List.range (j + 1)).map (tl bs)) := by
  rw [show (((lastOf bs : Nat) : Int) - (0 + (j : Int))).toNat = lastOf bs - j from by rw [Int.zero_add, Int.toNat_sub]] at hy
  exact strs_mapd h (by unfold tl; rw [hy]; rfl)
theorem turn_no {ys : List Value} {bs : List Bool} {j : Nat} {t : Tok} (h : StrsAre ys ((List.range j).map (tl bs))) (hy : bs.getD (((lastOf bs : Nat) : Int) - (0 + (j : Int))).toNat false = false) : StrsAre (ys ++ [.str (Str.ofString "s") t]) ((List.range (j + 1)).map (tl bs)) := by
  rw [show (((lastOf bs : Nat) : Int) - (0 + (j : Int))).toNat = lastOf bs - j from by rw [Int.zero_add, Int.toNat_sub]] at hy
  exact strs_mapd h (by unfold tl; rw [hy]; rfl)
theorem str_eq {x y : Str} (h : x.cps.toList = y.cps.toList) : x = y := by
  obtain ⟨a⟩ := x; obtain ⟨b⟩ := y
  have : a = b := by cases a; cases b; simpa using h
  rw [this]
theorem wl_cps (bs : List Bool) (x : Nat) : (wl bs x).cps.toList = [if bs.getD x false then 115 else 83] := by
  unfold wl; split
  · decide
  · decide
theorem tl_cps (bs : List Bool) (x : Nat) : (tl bs x).cps.toList = [if bs.getD (lastOf bs - x) false then 83 else 115] := by
  unfold tl; split
  · decide
  · decide
theorem flat_one {α β : Type} (f : α → List β) (g : α → β) : ∀ (l : List α), (∀ x, f x = [g x]) → l.flatMap f = l.map g
  | [], _ => rfl
  | a :: l, h => by rw [List.flatMap_cons, h a, flat_one f g l h]; rfl
theorem word_is (bs : List Bool) : Txt.join (Str.ofString "") ((List.range (((lastOf bs : Nat) : Int) + 1 - 0).toNat).map (wl bs)) = wordOf bs := by
  refine str_eq ?_
  rw [join_cps, List.flatMap_map, show (((lastOf bs : Nat) : Int) + 1 - 0).toNat = lastOf bs + 1 from by omega]
  exact flat_one _ _ _ (wl_cps bs)
theorem turn_is (bs : List Bool) : Txt.join (Str.ofString "") ((List.range (((lastOf bs : Nat) : Int) + 1 - 0).toNat).map (tl bs)) = turnOf bs := by
  refine str_eq ?_
  rw [join_cps, List.flatMap_map, show (((lastOf bs : Nat) : Int) + 1 - 0).toNat = lastOf bs + 1 from by omega]
  exact flat_one _ _ _ (tl_cps bs)
theorem wl_weight (bs : List Bool) {n : Nat} (h : n ≤ 100) : (((List.range n).map (wl bs)).map (·.length)).sum + ((List.range n).map (wl bs)).length ≤ 1048576 := by
  refine weight_of (by rw [List.length_map, List.length_range]; omega) fun y hy => ?_
  obtain ⟨x, _, rfl⟩ := List.mem_map.mp hy
  have h := congrArg List.length (wl_cps bs x)
  rw [Array.length_toList] at h
  show (wl bs x).cps.size ≤ 1000
  rw [h]; exact Nat.le_of_ble_eq_true rfl
theorem tl_weight (bs : List Bool) {n : Nat} (h : n ≤ 100) : (((List.range n).map (tl bs)).map (·.length)).sum + ((List.range n).map (tl bs)).length ≤ 1048576 := by
  refine weight_of (by rw [List.length_map, List.length_range]; omega) fun y hy => ?_
  obtain ⟨x, _, rfl⟩ := List.mem_map.mp hy
  have h := congrArg List.length (tl_cps bs x)
  rw [Array.length_toList] at h
  show (tl bs x).cps.size ≤ 1000
  rw [h]; exact Nat.le_of_ble_eq_true rfl
theorem word_lets (bs : List Bool) : Lets (wordOf bs) ∧ Lets (turnOf bs) ∧ Lets (sOf bs) := by
  refine ⟨fun c hc => ?_, fun c hc => ?_, fun c hc => ?_⟩
  · obtain ⟨x, _, rfl⟩ := List.mem_map.mp (show c ∈ (List.range (lastOf bs + 1)).map _ from hc)
    split
    · exact .inl rfl
    · exact .inr rfl
  · obtain ⟨x, _, rfl⟩ := List.mem_map.mp (show c ∈ (List.range (lastOf bs + 1)).map _ from hc)
    split
    · exact .inr rfl
    · exact .inl rfl
  · exact .inl (List.eq_of_mem_replicate (show c ∈ List.replicate (lastOf bs + 1) 115 from hc))
theorem word_len {t2 : Int} {co : List Int} {bs : List Bool} (hC : Coined t2 co bs) : (wordOf bs).length ≤ 24 ∧ (turnOf bs).length ≤ 24 ∧ (sOf bs).length ≤ 24 := by
  have h := (cd_last hC).1
  refine ⟨?_, ?_, ?_⟩
  · show ((List.range (lastOf bs + 1)).map _).toArray.size ≤ 24
    rw [List.size_toArray, List.length_map, List.length_range]; omega
  · show ((List.range (lastOf bs + 1)).map _).toArray.size ≤ 24
    rw [List.size_toArray, List.length_map, List.length_range]; omega
  · show (List.replicate (lastOf bs + 1) 115).toArray.size ≤ 24
    rw [List.size_toArray, List.length_replicate]; omega

theorem mul_is (bs : List Bool) : Txt.mul (Str.ofString "s") (((lastOf bs : Nat) : Int) + 1) = sOf bs := by
  refine str_eq ?_
  rw [show Str.ofString "s" = ⟨#[115]⟩ from by decide, mul_one_list, show (((lastOf bs : Nat) : Int) + 1).toNat = lastOf bs + 1 from by omega]
  rfl
theorem levA1 {t2 : Int} {co : List Int} {bs : List Bool} {y : Str} {t u v : Tok} (hC : Coined t2 co bs) (hy : y = sOf bs) {w : World} {mean : ExcName → Option Value} {mg mb : Str → Option Value} {dp un : Nat} {gd : Option (List Code)} {cn : Str} {cs : Scope} {a : Addr} {ccd : Value} {cl : List (Str × Addr)} {outer : List Env} {A₀ : Around} {base h₀ : Heap} {L : Addr} {m : Str → Option Value} {news : List (Addr × Obj)} {s : Shared} {Q E : Value → Shared → Prop}
   (B : Below A₀ base outer h₀) (F : Fr h₀ L s.heap m) (X : (hd.heap_39 w.params).In h₀) (N : News h₀ L s.heap news) (T : TopH mean mg mb h₀) (hk : cs.kind = .function)
   (hdp : dp + 4 < recursionLimit) (_hun : un + 300 < cLine)
   (hret : ∀ h' t' tk', Fr h₀ L h' m → News h₀ L h' news → Q (.int (((gapsOf bs).length : Int)) t') { s with heap := h', toks := tk' }) :
   wpAny (model PySem.Challenge.rw_sw0038_01.row.prog w) (ktrTop dp un gd cn cs L a ccd cl outer) (call (.ref 64) [.str (wordOf bs) t, .str y u, .int (((gapsOf bs).length : Int) - 1 + t2.fmod 3) v]) Q E s := by
  subst hy
  have hl := word_len hC
  have hw := word_lets bs
  have e : levOf (wordOf bs) (sOf bs) (((gapsOf bs).length : Int) - 1 + t2.fmod 3) = ((gapsOf bs).length : Int) := And.left (cd_lev hC (Int.fmod_nonneg_of_pos t2 (b := 3) (by decide)) (Int.fmod_lt_of_pos t2 (b := 3) (by decide)))
  refine lev_ctr B F X N T hk hl.1 hl.2.2 hw.1 hw.2.2 hdp _hun fun h' t' tk' F' N' => ?_
  rw [e]
  exact hret h' t' tk' F' N'
theorem levA2 {t2 : Int} {co : List Int} {bs : List Bool} {y : Str} {t u v : Tok} (hC : Coined t2 co bs) (hy : y = sOf bs) {w : World} {mean : ExcName → Option Value} {mg mb : Str → Option Value} {dp un : Nat} {gd : Option (List Code)} {cn : Str} {cs : Scope} {a : Addr} {ccd : Value} {cl : List (Str × Addr)} {outer : List Env} {A₀ : Around} {base h₀ : Heap} {L : Addr} {m : Str → Option Value} {news : List (Addr × Obj)} {s : Shared} {Q E : Value → Shared → Prop}
   (B : Below A₀ base outer h₀) (F : Fr h₀ L s.heap m) (X : (hd.heap_39 w.params).In h₀) (N : News h₀ L s.heap news) (T : TopH mean mg mb h₀) (hk : cs.kind = .function)
   (hdp : dp + 4 < recursionLimit) (_hun : un + 300 < cLine)
   (hret : ∀ h' t' tk', Fr h₀ L h' m → News h₀ L h' news → Q (.int (((gapsOf bs).length : Int)) t') { s with heap := h', toks := tk' }) :
   wpAny (model PySem.Challenge.rw_sw0038_01.row.prog w) (ktrTop dp un gd cn cs L a ccd cl outer) (call (.ref 64) [.str y t, .str (wordOf bs) u, .int (((gapsOf bs).length : Int) - 1 + t2.fmod 3) v]) Q E s := by
  subst hy
  have hl := word_len hC
  have hw := word_lets bs
  have e : levOf (sOf bs) (wordOf bs) (((gapsOf bs).length : Int) - 1 + t2.fmod 3) = ((gapsOf bs).length : Int) := (fun h => h.2.1) (cd_lev hC (Int.fmod_nonneg_of_pos t2 (b := 3) (by decide)) (Int.fmod_lt_of_pos t2 (b := 3) (by decide)))
  refine lev_ctr B F X N T hk hl.2.2 hl.1 hw.2.2 hw.1 hdp _hun fun h' t' tk' F' N' => ?_
  rw [e]
  exact hret h' t' tk' F' N'
theorem levB1 {t2 : Int} {co : List Int} {bs : List Bool} {y : Str} {t u v : Tok} (hC : Coined t2 co bs) (hy : y = turnOf bs) {w : World} {mean : ExcName → Option Value} {mg mb : Str → Option Value} {dp un : Nat} {gd : Option (List Code)} {cn : Str} {cs : Scope} {a : Addr} {ccd : Value} {cl : List (Str × Addr)} {outer : List Env} {A₀ : Around} {base h₀ : Heap} {L : Addr} {m : Str → Option Value} {news : List (Addr × Obj)} {s : Shared} {Q E : Value → Shared → Prop}
   (B : Below A₀ base outer h₀) (F : Fr h₀ L s.heap m) (X : (hd.heap_39 w.params).In h₀) (N : News h₀ L s.heap news) (T : TopH mean mg mb h₀) (hk : cs.kind = .function)
   (hdp : dp + 4 < recursionLimit) (_hun : un + 300 < cLine)
   (hret : ∀ h' t' tk', Fr h₀ L h' m → News h₀ L h' news → Q (.int (2 * ((gapsOf bs).length : Int) - ((lastOf bs : Nat) : Int) - 1) t') { s with heap := h', toks := tk' }) :
   wpAny (model PySem.Challenge.rw_sw0038_01.row.prog w) (ktrTop dp un gd cn cs L a ccd cl outer) (call (.ref 64) [.str (wordOf bs) t, .str y u, .int (2 * ((gapsOf bs).length : Int) - ((lastOf bs : Nat) : Int) - 1 - 1 + t2.fmod 3) v]) Q E s := by
  subst hy
  have hl := word_len hC
  have hw := word_lets bs
  have e : levOf (wordOf bs) (turnOf bs) (2 * ((gapsOf bs).length : Int) - ((lastOf bs : Nat) : Int) - 1 - 1 + t2.fmod 3) = 2 * ((gapsOf bs).length : Int) - ((lastOf bs : Nat) : Int) - 1 := (fun h => h.2.2.1) (cd_lev hC (Int.fmod_nonneg_of_pos t2 (b := 3) (by decide)) (Int.fmod_lt_of_pos t2 (b := 3) (by decide)))
  refine lev_ctr B F X N T hk hl.1 hl.2.1 hw.1 hw.2.1 hdp _hun fun h' t' tk' F' N' => ?_
  rw [e]
  exact hret h' t' tk' F' N'
theorem levB2 {t2 : Int} {co : List Int} {bs : List Bool} {y : Str} {t u v : Tok} (hC : Coined t2 co bs) (hy : y = turnOf bs) {w : World} {mean : ExcName → Option Value} {mg mb : Str → Option Value} {dp un : Nat} {gd : Option (List Code)} {cn : Str} {cs : Scope} {a : Addr} {ccd : Value} {cl : List (Str × Addr)} {outer : List Env} {A₀ : Around} {base h₀ : Heap} {L : Addr} {m : Str → Option Value} {news : List (Addr × Obj)} {s : Shared} {Q E : Value → Shared → Prop}
   (B : Below A₀ base outer h₀) (F : Fr h₀ L s.heap m) (X : (hd.heap_39 w.params).In h₀) (N : News h₀ L s.heap news) (T : TopH mean mg mb h₀) (hk : cs.kind = .function)
   (hdp : dp + 4 < recursionLimit) (_hun : un + 300 < cLine)
   (hret : ∀ h' t' tk', Fr h₀ L h' m → News h₀ L h' news → Q (.int (2 * ((gapsOf bs).length : Int) - ((lastOf bs : Nat) : Int) - 1) t') { s with heap := h', toks := tk' }) :
   wpAny (model PySem.Challenge.rw_sw0038_01.row.prog w) (ktrTop dp un gd cn cs L a ccd cl outer) (call (.ref 64) [.str y t, .str (wordOf bs) u, .int (2 * ((gapsOf bs).length : Int) - ((lastOf bs : Nat) : Int) - 1 - 1 + t2.fmod 3) v]) Q E s := by
  subst hy
  have hl := word_len hC
  have hw := word_lets bs
  have e : levOf (turnOf bs) (wordOf bs) (2 * ((gapsOf bs).length : Int) - ((lastOf bs : Nat) : Int) - 1 - 1 + t2.fmod 3) = 2 * ((gapsOf bs).length : Int) - ((lastOf bs : Nat) : Int) - 1 := (fun h => h.2.2.2) (cd_lev hC (Int.fmod_nonneg_of_pos t2 (b := 3) (by decide)) (Int.fmod_lt_of_pos t2 (b := 3) (by decide)))
  refine lev_ctr B F X N T hk hl.2.1 hl.1 hw.2.1 hw.1 hdp _hun fun h' t' tk' F' N' => ?_
  rw [e]
  exact hret h' t' tk' F' N'
section
variable {prog : Program} {w : World} {A : Around}
theorem truthy_neI {b : Int} {s : Shared} {Q : Bool → Shared → Prop} {E : Value → Shared → Prop} (h : wpAny (model prog w) A (truthy (.bool false)) Q E s) : wpAny (model prog w) A (truthy (.bool (b != b))) Q E s := by rw [bne_self_eq_false]; exact h
end
theorem law_good {cl : Str → Option Addr} {mean : ExcName → Option Value} {ns : List Int} {s₁ s' : Shared} {L : Addr} {m : Str → Option Value} (F : Fr s₁.heap L s'.heap m) (hos : s'.os = s₁.os) (hg : AllBare s'.gens) :
    GoodWG PySem.Challenge.rw_sw0038_01.row.claim cl mean [ofPy (PyData.list (List.map PyData.int ns))] s₁ (.ok (.ret (.bool true))) s' := by
  refine ⟨.inl ⟨.bool true, ofPy (.bool true), [], rfl, fun _ => ?_, readsW_of_reads (Reads.bool true), ?_, fun _ => ⟨List.nodup_nil, fun a h => nomatch h⟩⟩, .of_keep F.keep, hos, hg⟩
  · rfl
  · refine postW_of (by wrow_shape) (by wtm_val) ?_
    rfl
noncomputable def LawEnd (s₁ : Shared) (f : Flow) (s' : Shared) : Prop := f = .ret (.bool true) ∧ ∃ L m, Fr s₁.heap L s'.heap m ∧ s'.os = s₁.os ∧ AllBare s'.gens
theorem LawEnd.mk {s₁ s' : Shared} {L : Addr} {m : Str → Option Value} (F : Fr s₁.heap L s'.heap m) (hos : s'.os = s₁.os) (hg : AllBare s'.gens) : LawEnd s₁ (.ret (.bool true)) s' := ⟨rfl, L, m, F, hos, hg⟩
theorem law_abs {M : Model} {A : Around} {c : Sem Flow} {Q : Flow → Shared → Prop} {E : Value → Shared → Prop} {s : Shared} (s₁ : Shared) (h : wpAny M A c (LawEnd s₁) (fun _ _ => False) s) (k : ∀ f s', LawEnd s₁ f s' → Q f s') : wpAny M A c Q E s :=
  wpAny_mono h k fun _ _ e => e.elim
end Mine
open Mine
local macro_rules | `(tactic| walk_at $s:str) => `(tactic| k_extra $s)
local macro_rules | `(tactic| k_all) => `(tactic| first | exact neAll_of_lt (by assumption) (by omega) | exact off1_all (by assumption))
local macro_rules | `(tactic| k_ne) => `(tactic| (refine neN ?_; (try dsimp only); first | with_reducible assumption | omega))
local macro_rules | `(tactic| ktn_open) => `(tactic| first | assumption | exact List.Mem.head _ | (refine List.Mem.tail _ ?_; ktn_open))
local macro_rules | `(tactic| ktr_unf) => `(tactic| first | exact List.forall_mem_nil _ | (refine List.forall_mem_cons.mpr ⟨by ktn_open, ?_⟩; ktr_unf) | (intro p9 hp9; ktn_open))
set_option maxRecDepth 100000 in
set_option maxHeartbeats 40000000 in
theorem PySem.Challenge.cw_sw0038_01_holds : PySem.Challenge.rw_sw0038_01.Holds := by
  k_with_none
  k_with "execs cons" => (with_reducible refine toks_step (fun tk0 => ?_))
  refine hd ?_
  k_fill
  intro w s₀ s₁ mg mb G Y fa o pm cd doc dV kV ho hd hcd hD hmg hg args vals as hpre hlay hrd hwl hlo
  have KX := kIn_of Y
  have X := (Ground.X G).1
  have V := (Ground.X G).2
  try w_nolog (first | (have GL := glob_more (Ground.glob G (by first | k_qdec | decide +kernel) (by first | k_qdec | decide +kernel)) V) | (have GL := glob_more (Ground.glob G (by decide +kernel)) V))
  refine Ground.open G ?_
  intro T B D TE TW
  try (refine guard_noD D (by decide +kernel) ?_; clear D)
  obtain ⟨_, _, M⟩ := bmod_of_top T
  have TA := at_of_top T
  try (obtain ⟨_, _, he, B0⟩ := based_of_top T rfl hmg ho hd; have he' : cd = _ := he; subst he'; clear he)
  clear hmg
  wrow_args hpre hlay hrd hwl hlo
  first | refine callC_kw (enter_call ?_) | refine enter_call ?_ | refine callC_kw (enter_callW ?_) | refine enter_callW ?_ | w_how
  w_top on
  have K0 : Below callerA s₁.heap [] s₁.heap := below_caller (Top.heap T)
  w_call any ho hd hcd hD T F
  clear hd TA
  k_drop
  rename_i c4 c3 c2 c1 e4 e3 e2 e1 N0 X0
  clear X0
  obtain ⟨v4, d4⟩ : ∃ v, c4.data = Data.cell v := ⟨_, e4⟩
  clear e4
  obtain ⟨v3, d3⟩ : ∃ v, c3.data = Data.cell v := ⟨_, e3⟩
  clear e3
  obtain ⟨v2, d2⟩ : ∃ v, c2.data = Data.cell v := ⟨_, e2⟩
  clear e2
  obtain ⟨v1, d1⟩ : ∃ v, c1.data = Data.cell v := ⟨_, e1⟩
  clear e1
  replace F := fr_eq F (m' := fun y => if y = Str.ofString "script" then some (.ref _) else none) (fun y => rfl)
  clear hD
  clear hcd
  w_top off
  refine law_abs s₁ ?_ (fun f s' hf => by obtain ⟨rfl, L9, m9, F9, ho9, hg9⟩ := hf; exact law_good F9 ho9 hg9)
  k_with "call ref" => (k_dflt ((with_reducible show wpAny _ _ (call (Value.ref 71) _) _ _ _); (refine' told3 ?qB ?qF ?qX ?qN ?qT ?qK ?ql ?qi ?qn ?qd ?qu ?_; (case qB => k_asm); (case qF => k_asm); (case qX => k_asm); (case qN => k_asm); (case qT => k_asm); (case qK => rfl); (case ql => assumption); (case qi => assumption); (case qn => omega); (case qd => ktr_room); (case qu => ktr_units)); intro t0 t1 t2 k0 k1 k2 n1 l1 h' tk' hb0 hb1 hb2 F' N' ltA; (try simp only [AllLt, and_true] at ltA); (try simp only [AllLt, and_true] at ltB); (try simp only [AllLt, and_true] at ltC); (try simp only [AllLt, and_true] at ltD); (try simp only [AllLt, and_true] at ltE)))
  k_with "call ref" => (k_dflt ((with_reducible show wpAny _ _ (call (Value.ref 76) _) _ _ _); (refine' coins3 ?qB ?qF ?qX ?qN ?qT ?qK ?q1 ?q2 ?q3 ?qd ?qu ?_; (case qB => k_asm); (case qF => k_asm); (case qX => k_asm); (case qN => k_asm); (case qT => k_asm); (case qK => rfl); (case q1 => assumption); (case q2 => assumption); (case q3 => assumption); (case qd => ktr_room); (case qu => ktr_units)); intro co vs2 n2 l2 h' tk' hO hi2 F' N' ltB; (try simp only [AllLt, and_true] at ltA); (try simp only [AllLt, and_true] at ltB); (try simp only [AllLt, and_true] at ltC); (try simp only [AllLt, and_true] at ltD); (try simp only [AllLt, and_true] at ltE)))
  k_with "call ref" => (k_dflt ((with_reducible show wpAny _ _ (call (Value.ref 81) _) _ _ _); (refine' paid3 ?qB ?qF ?qX ?qN ?qT ?qK ?q1 ?q2 ?qd ?qu ?_; (case qB => k_asm); (case qF => k_asm); (case qX => k_asm); (case qN => k_asm); (case qT => k_asm); (case qK => rfl); (case q1 => assumption); (case q2 => assumption); (case qd => ktr_room); (case qu => ktr_units)); intro bs n3 l3 h' tk' hC F' N' ltC; (try simp only [AllLt, and_true] at ltA); (try simp only [AllLt, and_true] at ltB); (try simp only [AllLt, and_true] at ltC); (try simp only [AllLt, and_true] at ltD); (try simp only [AllLt, and_true] at ltE)))
  k_with "call ref" => (k_dflt ((with_reducible show wpAny _ _ (call (Value.ref 86) _) _ _ _); (refine' marks3 ?qB ?qF ?qX ?qN ?qT ?qK ?q1 ?q2 ?q3 ?q4 ?qd ?qu ?_; (case qB => k_asm); (case qF => k_asm); (case qX => k_asm); (case qN => k_asm); (case qT => k_asm); (case qK => rfl); (case q1 => exact cd_len hC); (case q2 => exact cd_f hC); (case q3 => exact cd_least hC); (case q4 => exact cd_perm hC); (case qd => ktr_room); (case qu => ktr_units)); intro vs4 n4 l4 h' tk' g4 hi4 F' N' ltD hg4; (try simp only [AllLt, and_true] at ltA); (try simp only [AllLt, and_true] at ltB); (try simp only [AllLt, and_true] at ltC); (try simp only [AllLt, and_true] at ltD); (try simp only [AllLt, and_true] at ltE)))
  k_with "eval ListComp" => (k_here; (with_reducible show wpAny _ _ (eval (Expr.ListComp _ [⟨_, _, [_], _⟩] _ _) _) _ _ _); k_dflt (refine LCt.ListComp_T (F₀ := by k_asm) (by with_unfolding_all rfl) (by decide) (by rfl) (by decide) (by rfl) ?_))
  k_with "CompSrcT" => (k_dflt (have := hC; (refine' LCt.CompSrcT.range (n := 24) ?qh ?qF ?qN ?qr ?qs ?qt ?qz ?_); (case qh => rfl); (case qF => k_asm); (case qN => k_asm); (case qr => assumption); (case qs => decide); (case qt => decide); (case qz => exact Nat.le_of_ble_eq_true rfl); (intro g'); (refine' compT_inv (fun j ys => IntsAre ys ((((List.range 24).map fun (k : Nat) => 1 + (k : Int)).take j).filter fun n => bs.getD n.toNat false)) _ trivial ?q0 ?_ ?_); (case q0 => exact IntsAre.nil); (all_goals (first | (intro j ys v I2 oI2 C oC D m₂ h tk hj hR hP hC2 hx F N off2 ne; obtain ⟨t8, rfl⟩ := hP; have hc := rng_at hj) | (intro ys hys; replace hys := sums_take hys)))))
  k_with "CompSrcT" => (k_dflt (have := hys; (refine' LCt.CompSrcT.range (n := 24) ?qh ?qF ?qN ?qr ?qs ?qt ?qz ?_); (case qh => rfl); (case qF => k_asm); (case qN => k_asm); (case qr => assumption); (case qs => decide); (case qt => decide); (case qz => exact Nat.le_of_ble_eq_true rfl); (intro g'); (refine' compT_inv (fun j ys => IntsAre ys ((((List.range 24).map fun (k : Nat) => 1 + (k : Int)).take j).filter fun n => !((sumsOf bs).any (· == n)))) _ trivial ?q0 ?_ ?_); (case q0 => exact IntsAre.nil); (all_goals (first | (intro j ys v I2 oI2 C oC D m₂ h tk hj hR hP hC2 hx F N off2 ne; obtain ⟨t8, rfl⟩ := hP; have hc := rng_at hj) | (intro zs hzs; replace hzs := gaps_take hC hzs)))))
  k_with "compareOp NotIn int ref" => (k_dflt ((refine' notin_list_ints ?ql hi4 ?_); (case ql => is_list)))
  k_with "subscriptTail Name Name ref int" => (k_dflt ((refine' item_led ?qa ?qb ?qc ?qd ?qe ?_); (case qa => k_asm); (case qb => ktn_open); (case qc => exact (it1 hj (cd_len hC)).1); (case qd => exact (it1 hj (cd_len hC)).2.1); (case qe => exact bools_at (it1 hj (cd_len hC)).2.2)))
  k_with "Exists" => (k_dflt ((refine ⟨_, _, rfl, by k_asm, by k_asm, ?_⟩); (first | exact ints_skip hR hc (by simp_all) | exact ints_keep hR hc (by simp_all))))
  k_with "call type:range" => (k_dflt (first | (with_reducible show wpAny _ _ (call _ [_, _]) _ _ _; refine' range2_rows ?qF ?qN ?_; (case qF => k_asm); (case qN => k_asm); intro h' tk t₁ u₁ v₁ rg F' N' kp) | (with_reducible show wpAny _ _ (call _ [_]) _ _ _; refine' range1_rows ?qF ?qN ?_; (case qF => k_asm); (case qN => k_asm); intro h' tk t₁ u₁ v₁ rg F' N' kp)))
  k_with "binaryOp FloorDiv int int" => (k_dflt (refine floordiv_int (by omega) ?_ (Or.inl (PyProof.noPylong_small (by omega)))))
  k_with "subscriptTail Name Constant ref int" => (k_dflt (refine' item_ints_led ?qa ?qb hi2 ?qc ?qd ?qe ?_; (case qa => k_asm); (case qb => ktn_open); (case qc => decide); (case qd => exact co_pos hO); (case qe => decide); intro u9))
  k_with "subscriptTail Name Constant ref int" => (k_dflt (have := hC; refine' item_led (vs := #[.int t0 k0, .int t1 k1, .int t2 k2]) (n := n1) (v := .int t2 k2) ?qa ?qb ?qc ?qd ?qe ?_; (case qa => k_asm); (case qb => ktn_open); (case qc => decide); (case qd => decide); (case qe => exact rfl)))
  k_with "subscriptTail Name Constant ref int" => (k_dflt (have := hC; refine' item_led (vs := #[.int t0 k0, .int t1 k1, .int t2 k2]) (n := n1) (v := .int t0 k0) ?qa ?qb ?qc ?qd ?qe ?_; (case qa => k_asm); (case qb => ktn_open); (case qc => decide); (case qd => decide); (case qe => exact rfl)))
  k_with "compareOp NotEq ref ref" => (k_dflt (have h9 := hys; (refine' ne_intsK ?k1 hi4 ?k3 hys ?k5 ?_); (case k1 => is_list); (case k3 => is_list); (case k5 => ktr_units); (clear h9); (rw [show (!decide (sumsOf bs = sumsOf bs)) = false from by simp])))
  k_with "eval ListComp" => (k_here; (with_reducible show wpAny _ _ (eval (Expr.ListComp _ [⟨_, _, [], _⟩] _ _) _) _ _ _); k_dflt (refine LCg.ListComp_U (F₀ := by k_asm) (by with_unfolding_all rfl) (by decide) (by rfl) (by decide) (by rfl) ?_))
  k_with "CompSrc" => (k_dflt (have := hzs; (refine' LCg.CompSrc.ledger ?qh ?qF ?qN ?qm ?qz ?_); (case qh => rfl); (case qF => k_asm); (case qN => k_asm); (case qm => ktn_open); (case qz => (rw [List.size_toArray, IntsAre.length hzs, sizeLine_eq]; exact Nat.le_trans (cd_gaps hC).2.1 (by decide))); (intro g'); (refine' compU_inv (fun (j : Nat) (ys : List Value) => IntsAre ys (((gapsOf bs).take j).map powOf)) _ ?qS ?q0 ?_ ?_); (case q0 => exact IntsAre.nil); (case qS => exact Or.inr ⟨_, by ktn_open, rfl, _, rfl⟩); (all_goals (first | (intro j ys v I2 oI2 C oC D m₂ h tk hj hR hP hC2 hx F N off2 ne; obtain ⟨c, t8, rfl, hc⟩ := hzs.at j v (by simpa using hP); have hc1 := (cd_gaps hC).2.2.2.2 c (List.mem_of_getElem? hc)) | (intro ts hts; rw [List.size_toArray, IntsAre.length hzs, List.take_length] at hts)))))
  k_with "binaryOp Pow int int" => (k_dflt (have := hc1; (refine pow_int_small (by omega) (by omega) (by decide) ?_)))
  k_with "Exists" => (k_dflt (have := hc1; (refine ⟨_, _, rfl, by k_asm, by k_asm, ?_⟩); (exact ints_powd hR hc)))
  k_with "call builtin:sum" => (k_dflt (have := hts; (refine' LSm.sum_ints ?yF ?yN rfl ?yl hts ?_); (case yF => k_asm); (case yN => k_asm); (case yl => is_list); (intro h' tk t' F' N'); (rw [flags_sum])))
  k_with "call ref" => (k_dflt ((with_reducible show wpAny _ _ (call (Value.ref 43) _) _ _ _); (refine' pretty3 hC ?qB ?qF ?qX ?qN ?qT ?qK  ?qd ?qu ?_; (case qB => k_asm); (case qF => k_asm); (case qX => k_asm); (case qN => k_asm); (case qT => k_asm); (case qK => rfl); skip; (case qd => ktr_room); (case qu => ktr_units)); intro h' t9 tk' F' N'; (try simp only [AllLt, and_true] at ltA); (try simp only [AllLt, and_true] at ltB); (try simp only [AllLt, and_true] at ltC); (try simp only [AllLt, and_true] at ltD); (try simp only [AllLt, and_true] at ltE)))
  k_with "call ref" => (k_dflt ((with_reducible show wpAny _ _ (call (Value.ref 91) _) _ _ _); (refine' names3 ?qB ?qF ?qX ?qN ?qT ?qK ?q1 ?q2 ?q3 ?q4 ?qd ?qu ?_; (case qB => k_asm); (case qF => k_asm); (case qX => k_asm); (case qN => k_asm); (case qT => k_asm); (case qK => rfl); (case q1 => ktn_open); (case q2 => exact hzs); (case q3 => exact (cd_gaps hC).2.2.2.2); (case q4 => exact Nat.le_trans (cd_gaps hC).2.1 (by decide)); (case qd => ktr_room); (case qu => ktr_units)); intro h' t9 tk' F' N'; (try simp only [AllLt, and_true] at ltA); (try simp only [AllLt, and_true] at ltB); (try simp only [AllLt, and_true] at ltC); (try simp only [AllLt, and_true] at ltD); (try simp only [AllLt, and_true] at ltE)))
  k_with "call ref" => (k_dflt ((with_reducible show wpAny _ _ (call (Value.ref 98) _) _ _ _); (refine' pieces3 ?qB ?qF ?qX ?qN ?qT ?qK ?q1 ?q2 ?q3 ?q4 ?qd ?qu ?_; (case qB => k_asm); (case qF => k_asm); (case qX => k_asm); (case qN => k_asm); (case qT => k_asm); (case qK => rfl); (case q1 => ktn_open); (case q2 => exact hzs); (case q3 => exact Nat.le_trans (cd_gaps hC).2.1 (by decide)); (case q4 => exact ⟨Int.fmod_nonneg_of_pos _ (by decide), Int.lt_trans (Int.fmod_lt_of_pos _ (by decide)) (by decide)⟩); (case qd => ktr_room); (case qu => ktr_units)); intro vs5 n5 l5 h' tk' hps F' N' ltE; (try simp only [AllLt, and_true] at ltA); (try simp only [AllLt, and_true] at ltB); (try simp only [AllLt, and_true] at ltC); (try simp only [AllLt, and_true] at ltD); (try simp only [AllLt, and_true] at ltE)))
  k_with "compareOp NotEq str str" => (k_dflt (have := hts; (refine ne_str ?_); (simp only [bne_self_eq_false, beq_self_eq_true, Bool.not_true])))
  k_with "exec For Name Call cons nil" => (k_here; k_dflt (refine For_R (by k_asm) ?_))
  k_with "call builtin:len" => (k_dflt (refine' len_list (items := vs5.toArray) ?ql ?qf ?_; (case ql => is_list); (case qf => (rw [len_pcs hps]; exact (le22 (cd_gaps hC).2.1).2.2.1)); rw [len_pcs hps]))
  k_with "call builtin:len" => (k_dflt (refine' len_list (items := zs.toArray) ?ql ?qf ?_; (case ql => is_list); (case qf => (rw [len_ints hzs]; exact (le22 (cd_gaps hC).2.1).2.2.2)); rw [len_ints hzs]))
  k_with "RLoop" => (k_dflt (((with_reducible rename _ ≠ _ ∧ _ => hw9); clear hw9; (with_reducible rename _ ≠ _ ∧ _ => hz9); have gz := neNat hz9.2.2.2.2.2.1.symm); (refine' law_loop (g9 := (gapsOf bs).length) (v0 := v3) (c0 := c3) ?qh ?qF ?qN ?qr ?qb ?ql ?qG ?qc ?qo ?_ ?_); (case qh => rfl); (case qN => exact cb_drop (news := [(s₁.heap.objs.size + 1 + 1 + 1, c3), (l5, _), (_, LCg.lst zs), (l3, _), (l1, _), (s₁.heap.objs.size + 1 + 1 + 1 + 1, c4), (s₁.heap.objs.size + 1, _)]) (by k_asm) (by ktr_unf)); (case qF => exact fr_eq (by k_asm) (lawM_eq rfl rfl rfl)); (case qr => assumption); (case qb => exact rfl); (case ql => exact (cd_gaps hC).2.1); (case qG => exact hg4 (AllBare.of_eq hg)); (case qc => exact d3); (case qo => exact ⟨Nat.ne_of_gt ltE.2.2.2.2.2.2.2.2.1, hz9.2.2.2.2.2.2.1.symm, Nat.ne_of_gt ltC.2.2.2.1, Nat.ne_of_gt ltA.2.1, Nat.succ_ne_self _, Nat.ne_of_lt (Nat.lt_succ_of_lt (Nat.lt_succ_self _)), trivial⟩); (clear hz9); (all_goals (first | (intro i mm c cv g5 I oI h tk t' hi9 hcv hG5 hof off F N; have hg11 := (cd_gaps hC).2.1; simp only [LCg.Off1, and_true] at off; have gI := neNat off.1.symm) | (intro mm c cv g5 h tk hcv hG5 F N)))))
  k_with "CompSrcT" => (k_dflt (have := hi9; (refine' LCt.CompSrcT.range (n := (1 + (i : Int) + 1 - 0).toNat) ?qh ?qF ?qN ?qr ?qs ?qt ?qz ?_); (case qh => rfl); (case qF => k_asm); (case qN => k_asm); (case qr => assumption); (case qs => exact (sm2 hi9 hg11).1); (case qt => exact rangeSize_nat _ _); (case qz => exact (sm2 hi9 hg11).2); (intro g'); (refine' compT_inv (fun j ys => IntsAre ys ((((List.range (1 + (i : Int) + 1 - 0).toNat).map fun (k : Nat) => 0 + (k : Int)).take j).filter fun x => bs.getD x.toNat false == bs.getD (1 + (i : Int) - x).toNat false)) _ trivial ?q0 ?_ ?_); (case q0 => exact IntsAre.nil); (all_goals (first | (intro j ys v I2 oI2 C oC D m₂ h tk hj hR hP hC2 hx F N off2 ne; obtain ⟨t8, rfl⟩ := hP; have hc := rng0_at hj) | (intro ms hms; replace hms := mir_take hms)))))
  k_with "subscriptTail Name Name ref int" => (k_dflt (have h8 := hi9; clear h8; (refine' item_led ?qa ?qb ?qc ?qd ?qe ?_); (case qa => k_asm); (case qb => ktn_open); (case qc => exact (it2 hj hi9 hg11 (cd_len hC)).1); (case qd => exact (it2 hj hi9 hg11 (cd_len hC)).2.1); (case qe => exact bools_at (it2 hj hi9 hg11 (cd_len hC)).2.2)))
  k_with "subscriptTail Name BinOp ref int" => (k_dflt (have h8 := hi9; clear h8; (refine' item_led ?qa ?qb ?qc ?qd ?qe ?_); (case qa => k_asm); (case qb => ktn_open); (case qc => exact (it3 hj hi9 hg11 (cd_len hC)).1); (case qd => exact (it3 hj hi9 hg11 (cd_len hC)).2.1); (case qe => exact bools_at (it3 hj hi9 hg11 (cd_len hC)).2.2)))
  k_with "Exists" => (k_dflt (have := hi9; (refine ⟨_, _, rfl, by k_asm, by k_asm, ?_⟩); (first | exact ints_skip hR hc (by simp_all) | exact ints_keep hR hc (by simp_all))))
  k_with "compareOp Eq ref ref" => (k_dflt (have := hms; (refine' eq_intsK (vs := ms) (us := []) ?qa hms ?qc .nil ?qe ?_); (case qa => is_list); (case qc => is_list); (case qe => ktr_units); (rw [mir_is])))
  k_with "newList" => (k_dflt ((k_here); (refine' newList_K ?k1 ?k2 ?_); (case k1 => k_asm); (case k2 => k_asm); (k_whole); (intro l' h' F' N' l1); (have l1w := l1); (try k_lt l1); (try k_sweep)))
  k_with "subscriptTail Name Slice ref ref" => (k_dflt (have := hi9; (refine' kms_slice_lit (zs := vs5.take i) ?zF ?zN ?zl ?zp ?zq ?ze ?_ ?zs ?zt ?zz); (case zF => k_asm); (case zN => k_asm); (case zl => is_list); (case zp => exact IsPart.none); (case zq => exact IsPart.int _ _); (case ze => exact pick_take vs5 (sl3 hi9).1 (by rw [strs_len hps, pieces_len]; exact (sl3 hi9).2)); (case zs => with_unfolding_all rfl); (case zt => (intro _; with_unfolding_all rfl)); (case zz => (rw [List.size_toArray, strs_len hps, pieces_len]; exact (le22 (cd_gaps hC).2.1).2.1)); (intro D' h' F' N' l1); (have hpt := pieces_slice hps (Nat.le_of_lt hi9)); (try k_lt l1); (try k_sweep)))
  k_with "call builtin:str.join" => (k_dflt (have := hps; (refine' join_listW ?qa ?qb ?qc ?qd ?_); (case qa => is_list); (case qb => exact hps); (case qc => decide); (case qd => exact pieces_weight (le22 (cd_gaps hC).2.1).1); (intro t7 k7)))
  k_with "call builtin:str.join" => (k_dflt (have := hrv; (refine' join_listW ?qa ?qb ?qc ?qd ?_); (case qa => is_list); (case qb => exact hrv); (case qc => decide); (case qd => exact pieces_weightR (le22 (cd_gaps hC).2.1).1); (intro t7 k7)))
  k_with "call builtin:str.join" => (k_dflt (have := hpt; (refine' join_listW ?qa ?qb ?qc ?qd ?_); (case qa => is_list); (case qb => exact hpt); (case qc => decide); (case qd => exact pieces_weight (i22 hi9 hg11)); (intro t7 k7)))
  k_with "call ref" => (k_dflt ((with_reducible show wpAny _ _ (call (Value.ref 35) _) _ _ _); (refine' chk_whole hC ?qB ?qF ?qX ?qN ?qT ?qK  ?qd ?qu ?_; (case qB => k_asm); (case qF => k_asm); (case qX => k_asm); (case qN => k_asm); (case qT => k_asm); (case qK => rfl); skip; (case qd => ktr_room); (case qu => ktr_units)); intro h' tk' g6 F' N' hg6; (try simp only [AllLt, and_true] at ltA); (try simp only [AllLt, and_true] at ltB); (try simp only [AllLt, and_true] at ltC); (try simp only [AllLt, and_true] at ltD); (try simp only [AllLt, and_true] at ltE)))
  k_with "call ref" => (k_dflt (have h8 := hrv; clear h8; (with_reducible show wpAny _ _ (call (Value.ref 35) _) _ _ _); (refine' chk_back hC ?qB ?qF ?qX ?qN ?qT ?qK  ?qd ?qu ?_; (case qB => k_asm); (case qF => k_asm); (case qX => k_asm); (case qN => k_asm); (case qT => k_asm); (case qK => rfl); skip; (case qd => ktr_room); (case qu => ktr_units)); intro h' tk' g7 F' N' hg7; (try simp only [AllLt, and_true] at ltA); (try simp only [AllLt, and_true] at ltB); (try simp only [AllLt, and_true] at ltC); (try simp only [AllLt, and_true] at ltD); (try simp only [AllLt, and_true] at ltE)))
  k_with "call ref" => (k_dflt ((with_reducible show wpAny _ _ (call (Value.ref 35) _) _ _ _); (refine' chk_part hC hi9 ?qB ?qF ?qX ?qN ?qT ?qK  ?qd ?qu ?_; (case qB => k_asm); (case qF => k_asm); (case qX => k_asm); (case qN => k_asm); (case qT => k_asm); (case qK => rfl); skip; (case qd => ktr_room); (case qu => ktr_units)); intro h' tk' g6 F' N' hg6; (try simp only [AllLt, and_true] at ltA); (try simp only [AllLt, and_true] at ltB); (try simp only [AllLt, and_true] at ltC); (try simp only [AllLt, and_true] at ltD); (try simp only [AllLt, and_true] at ltE)))
  k_with "StepEnd" => (k_dflt ((exact law_end (by k_asm) rfl rfl rfl (cb_drop (by k_asm) (by ktr_unf)) (by simp only [LCg.Off1, and_true]; exact off) (by assumption) (hg6 hG5))))
  k_with "truthy bool" => (k_dflt (have h8 := hg6; clear h8; refine truthy_ne ?_))
  k_with "subscriptTail Name Slice ref ref" => (k_dflt (have h8 := hg6; clear h8; (refine' krv_lit (zs := vs5.reverse) ?zF ?zN ?zl ?zk ?ze ?_ ?zs ?zt ?zz); (case zF => k_asm); (case zN => k_asm); (case zl => is_list); (case zk => exact IsPart.int _ _); (case ze => exact rfl); (case zs => with_unfolding_all rfl); (case zt => (intro _; with_unfolding_all rfl)); (case zz => (rw [List.size_toArray, strs_len hps, pieces_len]; exact (le22 (cd_gaps hC).2.1).2.1)); (intro D' h' F' N' l1); (have hrv := strs_rev hps); (try k_lt l1); (try k_sweep)))
  k_with "subscriptTail Name UnaryOp ref int" => (k_dflt (have h8 := hg7; clear h8; (refine' item_list_ints_negR ?za hzs ?zb ?zc ?zd ?_); (case za => is_list); (case zb => decide); (case zc => (have := (cd_gaps hC).1; omega)); (case zd => decide); (intro u8); (rw [last_at hC]); (have hl22 := (cd_last hC).1)))
  k_with "CompSrc" => (k_dflt (have h8 := u8; clear h8; (refine' LCg.CompSrc.range (n := (((lastOf bs : Nat) : Int) + 1 - 0).toNat) ?zh ?zf ?zn ?zr ?zs (rangeSize_nat _ _) ?zz ?_); (case zh => rfl); (case zf => k_asm); (case zn => k_asm); (case zr => assumption); (case zs => exact (sm4 hl22).1); (case zz => exact (sm4 hl22).2.1); (intro g'); (refine' compU_inv (fun j ys => StrsAre ys ((List.range j).map (wl bs))) _ trivial .nil ?_ ?_); (all_goals (first | (intro j ys v I2 oI2 C oC D m₂ h tk hj hR hP hC2 hx F N off2 ne; obtain ⟨t8, rfl⟩ := hP) | (intro xs hws)))))
  k_with "CompSrc" => (k_dflt (have h8 := hws; clear h8; (refine' LCg.CompSrc.range (n := (((lastOf bs : Nat) : Int) + 1 - 0).toNat) ?zh ?zf ?zn ?zr ?zs (rangeSize_nat _ _) ?zz ?_); (case zh => rfl); (case zf => k_asm); (case zn => k_asm); (case zr => assumption); (case zs => exact (sm4 hl22).1); (case zz => exact (sm4 hl22).2.1); (intro g'); (refine' compU_inv (fun j ys => StrsAre ys ((List.range j).map (tl bs))) _ trivial .nil ?_ ?_); (all_goals (first | (intro j ys v I2 oI2 C oC D m₂ h tk hj hR hP hC2 hx F N off2 ne; obtain ⟨t8, rfl⟩ := hP) | (intro xs htw)))))
  k_with "subscriptTail Name BinOp ref int" => (k_dflt (have h8 := u8; clear h8; (refine' item_led ?qa ?qb ?qc ?qd ?qe ?_); (case qa => k_asm); (case qb => ktn_open); (case qc => exact (it5 hj hl22 (cd_len hC)).1); (case qd => exact (it5 hj hl22 (cd_len hC)).2.1); (case qe => exact bools_at (it5 hj hl22 (cd_len hC)).2.2)))
  k_with "subscriptTail Name Name ref int" => (k_dflt (have h8 := u8; clear h8; (refine' item_led ?qa ?qb ?qc ?qd ?qe ?_); (case qa => k_asm); (case qb => ktn_open); (case qc => exact (it4 hj hl22 (cd_len hC)).1); (case qd => exact (it4 hj hl22 (cd_len hC)).2.1); (case qe => exact bools_at (it4 hj hl22 (cd_len hC)).2.2)))
  k_with "Exists" => (k_dflt (have h8 := u8; clear h8; (refine ⟨_, _, rfl, by k_asm, by k_asm, ?_⟩); (first | exact word_yes hR (by first | assumption | simp_all) | exact word_no hR (by first | assumption | simp_all) | exact turn_yes hR (by first | assumption | simp_all) | exact turn_no hR (by first | assumption | simp_all))))
  k_with "call builtin:str.join" => (k_dflt (have := hws; (refine' join_listW ?qa ?qb ?qc ?qd ?_); (case qa => is_list); (case qb => exact hws); (case qc => decide); (case qd => exact wl_weight bs (sm4 hl22).2.2); (intro t7 k7; rw [word_is])))
  k_with "call builtin:str.join" => (k_dflt (have := htw; (refine' join_listW ?qa ?qb ?qc ?qd ?_); (case qa => is_list); (case qb => exact htw); (case qc => decide); (case qd => exact tl_weight bs (sm4 hl22).2.2); (intro t7 k7; rw [turn_is])))
  k_with "call ref" => (k_dflt ((with_reducible show wpAny _ _ (call (Value.ref 64) [Value.str (wordOf bs) _, Value.str (Txt.mul _ _) _, _]) _ _ _); (refine' levA1 hC (mul_is bs) ?qB ?qF ?qX ?qN ?qT ?qK  ?qd ?qu ?_; (case qB => k_asm); (case qF => k_asm); (case qX => k_asm); (case qN => k_asm); (case qT => k_asm); (case qK => rfl); skip; (case qd => ktr_room); (case qu => ktr_units)); intro h' u6 tk' F' N'; (try simp only [AllLt, and_true] at ltA); (try simp only [AllLt, and_true] at ltB); (try simp only [AllLt, and_true] at ltC); (try simp only [AllLt, and_true] at ltD); (try simp only [AllLt, and_true] at ltE)))
  k_with "call ref" => (k_dflt ((with_reducible show wpAny _ _ (call (Value.ref 64) [Value.str (Txt.mul _ _) _, Value.str (wordOf bs) _, _]) _ _ _); (refine' levA2 hC (mul_is bs) ?qB ?qF ?qX ?qN ?qT ?qK  ?qd ?qu ?_; (case qB => k_asm); (case qF => k_asm); (case qX => k_asm); (case qN => k_asm); (case qT => k_asm); (case qK => rfl); skip; (case qd => ktr_room); (case qu => ktr_units)); intro h' u6 tk' F' N'; (try simp only [AllLt, and_true] at ltA); (try simp only [AllLt, and_true] at ltB); (try simp only [AllLt, and_true] at ltC); (try simp only [AllLt, and_true] at ltD); (try simp only [AllLt, and_true] at ltE)))
  k_with "call ref" => (k_dflt ((with_reducible show wpAny _ _ (call (Value.ref 64) [Value.str (wordOf bs) _, Value.str (turnOf bs) _, _]) _ _ _); (refine' levB1 hC rfl ?qB ?qF ?qX ?qN ?qT ?qK  ?qd ?qu ?_; (case qB => k_asm); (case qF => k_asm); (case qX => k_asm); (case qN => k_asm); (case qT => k_asm); (case qK => rfl); skip; (case qd => ktr_room); (case qu => ktr_units)); intro h' u6 tk' F' N'; (try simp only [AllLt, and_true] at ltA); (try simp only [AllLt, and_true] at ltB); (try simp only [AllLt, and_true] at ltC); (try simp only [AllLt, and_true] at ltD); (try simp only [AllLt, and_true] at ltE)))
  k_with "call ref" => (k_dflt ((with_reducible show wpAny _ _ (call (Value.ref 64) [Value.str (turnOf bs) _, Value.str (wordOf bs) _, _]) _ _ _); (refine' levB2 hC rfl ?qB ?qF ?qX ?qN ?qT ?qK  ?qd ?qu ?_; (case qB => k_asm); (case qF => k_asm); (case qX => k_asm); (case qN => k_asm); (case qT => k_asm); (case qK => rfl); skip; (case qd => ktr_room); (case qu => ktr_units)); intro h' u6 tk' F' N'; (try simp only [AllLt, and_true] at ltA); (try simp only [AllLt, and_true] at ltB); (try simp only [AllLt, and_true] at ltC); (try simp only [AllLt, and_true] at ltD); (try simp only [AllLt, and_true] at ltE)))
  k_with "truthy bool" => (k_dflt (have h8 := u7; clear h8; refine truthy_neI ?_))
  k_with "exec If" => (k_dflt (have h8 := htw; clear h8; (with_reducible show wpAny _ _ (exec (Stmt.If _ [Stmt.Assign _ _ _] [Stmt.Assign _ _ _] _) _) _ _ _); (refine' If_join (Str.ofString "distance") ((gapsOf bs).length : Int) ?jF ?jN ?_ ?_); (case jF => k_asm); (case jN => k_asm); (all_goals (first | (intro h' tk' u7 F' N') | skip))))
  k_with "exec If" => (k_dflt (have h8 := u7; clear h8; have h8 := htw; clear h8; (with_reducible show wpAny _ _ (exec (Stmt.If _ [Stmt.Assign _ _ _] [Stmt.Assign _ _ _] _) _) _ _ _); (refine' If_join (Str.ofString "distance") (2 * ((gapsOf bs).length : Int) - ((lastOf bs : Nat) : Int) - 1) ?jF ?jN ?_ ?_); (case jF => k_asm); (case jN => k_asm); (all_goals (first | (intro h' tk' u7 F' N') | skip))))
  k_with "LawEnd" => (k_dflt ((exact LawEnd.mk (by k_asm) rfl (hg7 (hg6 hG5)))))
  k_with "JoinEnd" => (k_dflt ((exact JoinEnd.mk (by k_asm) (by k_asm))))
  all_goals try k_fold
  k_steps
