import PyProof.Rows.All
import Wide.All
import OpenK.AllK
import Wide.FinOn
import PySem.Challenge.RW_sn0016_01
set_option Elab.async false
set_option maxRecDepth 100000
section
open PySem PySem.W PyProof.Rows
namespace Mine
set_option maxRecDepth 100000 in
set_option maxHeartbeats 8000000 in
open_top hd for PySem.Challenge.rw_sn0016_01
end Mine
end
section -- Lem
open PySem PySem.W PyProof.Rows
namespace Mine
section
variable {prog : Program} {w : World} {A : Around} {E : Value → Shared → Prop} {Q : Flow → Shared → Prop} {s : Shared} {env : Env} {h₀ : Heap} {L : Addr}

theorem while_up {i : Str} {test : Expr} {body : List Stmt} {pos : Pos} {m : Str → Option Value} {news : List (Addr × Obj)} {k₀ K : Int} {t₀ : Tok} {c : Int → Bool}
    (F : Fr h₀ L s.heap m) (Nw : News h₀ L s.heap news) (hmi : m i = some (.int k₀ t₀)) (stop : k₀ ≤ K ∧ c K = false)
    (gtest : ∀ k t h₁ tk₁, k₀ ≤ k → k ≤ K → Fr h₀ L h₁ (bindM m i (some (.int k t))) → News h₀ L h₁ news →
      wpAny (model prog w) A (isTrue test env (eval test env)) (fun b s₂ => KJoinC (c k) h₀ L (bindM m i (some (.int k t))) news { s with heap := h₁, toks := tk₁ } b s₂) E { s with heap := h₁, toks := tk₁ })
    (gturn : ∀ k t h₁ tk₁, k₀ ≤ k → k < K → c k = true → Fr h₀ L h₁ (bindM m i (some (.int k t))) → News h₀ L h₁ news →
      wpAny (model prog w) A (execs body env) (CntStep h₀ L s m i news (k + 1)) E { s with heap := h₁, toks := tk₁ })
    (done : ∀ k t h' tk, k₀ ≤ k → k ≤ K → (∀ j, k₀ ≤ j → j < k → c j = true) → c k = false → Fr h₀ L h' (bindM m i (some (.int k t))) → News h₀ L h' news → Q .next { s with heap := h', toks := tk })
    (hE : PassesOwn (model prog w) A env E := by passes_own) :
    wpAny (model prog w) A (exec (.While test body [] pos) env) Q E s := by
  have hm0 : m = bindM m i (some (.int k₀ t₀)) := by rw [← hmi]; exact bindM_start m i
  refine While_inv (fun n m₁ news₁ => ∃ k t, k₀ ≤ k ∧ k ≤ K ∧ (∀ j, k₀ ≤ j → j < k → c j = true) ∧ m₁ = bindM m i (some (.int k t)) ∧ news = news₁ ∧ n = (K - k).toNat)
    F Nw ⟨k₀, t₀, Int.le_refl _, stop.1, fun j h1 h2 => absurd h2 (by omega), hm0, rfl, rfl⟩ ?_ hE
  rintro n m₁ news₁ h₁ tk₁ F₁ N₁ ⟨k, t, hk, hkK, hall, rfl, rfl, rfl⟩
  refine wpAny_mono (gtest k t h₁ tk₁ hk hkK F₁ N₁) (fun b s₂ h₂ => ?_) fun _ _ e => e
  obtain ⟨rfl, ⟨h', tk, rfl, F₂, N₂⟩⟩ := h₂
  cases hc : c k with
  | true =>
    rw [if_pos rfl]
    have hne : k ≠ K := fun e => by rw [e, stop.2] at hc; cases hc
    refine wpAny_mono (gturn k t h' tk hk (by omega) hc F₂ N₂) (fun f s₃ h₃ => ?_) fun _ _ e => e
    obtain ⟨rfl, h'', tk'', t', rfl, F₃, N₃⟩ := h₃
    refine WhileStep.intro F₃ N₃ (n' := (K - (k + 1)).toNat) (by omega) ⟨k + 1, t', by omega, by omega, fun j h1 h2 => ?_, rfl, rfl, rfl⟩
    by_cases hj : j < k
    · exact hall j h1 hj
    · have e : j = k := by omega
      rw [e]; exact hc
  | false =>
    rw [if_neg (by simp)]
    exact done k t h' tk hk hkK hall hc F₂ N₂

theorem while_down {i : Str} {test : Expr} {body : List Stmt} {pos : Pos} {m : Str → Option Value} {news : List (Addr × Obj)} {k₀ K : Int} {t₀ : Tok} {c : Int → Bool}
    (F : Fr h₀ L s.heap m) (Nw : News h₀ L s.heap news) (hmi : m i = some (.int k₀ t₀)) (stop : K ≤ k₀ ∧ c K = false)
    (gtest : ∀ k t h₁ tk₁, k ≤ k₀ → K ≤ k → Fr h₀ L h₁ (bindM m i (some (.int k t))) → News h₀ L h₁ news →
      wpAny (model prog w) A (isTrue test env (eval test env)) (fun b s₂ => KJoinC (c k) h₀ L (bindM m i (some (.int k t))) news { s with heap := h₁, toks := tk₁ } b s₂) E { s with heap := h₁, toks := tk₁ })
    (gturn : ∀ k t h₁ tk₁, k ≤ k₀ → K < k → c k = true → Fr h₀ L h₁ (bindM m i (some (.int k t))) → News h₀ L h₁ news →
      wpAny (model prog w) A (execs body env) (CntStep h₀ L s m i news (k - 1)) E { s with heap := h₁, toks := tk₁ })
    (done : ∀ k t h' tk, k ≤ k₀ → K ≤ k → (∀ j, k < j → j ≤ k₀ → c j = true) → c k = false → Fr h₀ L h' (bindM m i (some (.int k t))) → News h₀ L h' news → Q .next { s with heap := h', toks := tk })
    (hE : PassesOwn (model prog w) A env E := by passes_own) :
    wpAny (model prog w) A (exec (.While test body [] pos) env) Q E s := by
  have hm0 : m = bindM m i (some (.int k₀ t₀)) := by rw [← hmi]; exact bindM_start m i
  refine While_inv (fun n m₁ news₁ => ∃ k t, k ≤ k₀ ∧ K ≤ k ∧ (∀ j, k < j → j ≤ k₀ → c j = true) ∧ m₁ = bindM m i (some (.int k t)) ∧ news = news₁ ∧ n = (k - K).toNat)
    F Nw ⟨k₀, t₀, Int.le_refl _, stop.1, fun j h1 h2 => absurd h2 (by omega), hm0, rfl, rfl⟩ ?_ hE
  rintro n m₁ news₁ h₁ tk₁ F₁ N₁ ⟨k, t, hk, hkK, hall, rfl, rfl, rfl⟩
  refine wpAny_mono (gtest k t h₁ tk₁ hk hkK F₁ N₁) (fun b s₂ h₂ => ?_) fun _ _ e => e
  obtain ⟨rfl, ⟨h', tk, rfl, F₂, N₂⟩⟩ := h₂
  cases hc : c k with
  | true =>
    rw [if_pos rfl]
    have hne : k ≠ K := fun e => by rw [e, stop.2] at hc; cases hc
    refine wpAny_mono (gturn k t h' tk hk (by omega) hc F₂ N₂) (fun f s₃ h₃ => ?_) fun _ _ e => e
    obtain ⟨rfl, h'', tk'', t', rfl, F₃, N₃⟩ := h₃
    refine WhileStep.intro F₃ N₃ (n' := (k - 1 - K).toNat) (by omega) ⟨k - 1, t', by omega, by omega, fun j h1 h2 => ?_, rfl, rfl, rfl⟩
    by_cases hj : k < j
    · exact hall j hj h2
    · have e : j = k := by omega
      rw [e]; exact hc
  | false =>
    rw [if_neg (by simp)]
    exact done k t h' tk hk hkK hall hc F₂ N₂
end
structure JoinStr (X : Str) (h₀ : Heap) (L : Addr) (m : Str → Option Value) (news : List (Addr × Obj)) (s : Shared) (v : Value) (s' : Shared) : Prop where
  val : ∃ t : Tok, v = .str X t
  here : KJoinAt h₀ L m news s s'
section
variable {M : Model} {A : Around} {E : Value → Shared → Prop} {s : Shared} {h₀ : Heap} {L : Addr} {m : Str → Option Value} {news : List (Addr × Obj)}
theorem join_str {X : Str} {t : Sem Value} {Q : Value → Shared → Prop} (_F : Fr h₀ L s.heap m) (_N : News h₀ L s.heap news)
    (h : wpAny M A t (fun v s' => JoinStr X h₀ L m news s v s') E s)
    (k : ∀ u h' tk', Fr h₀ L h' m → News h₀ L h' news → Q (.str X u) { s with heap := h', toks := tk' }) : wpAny M A t Q E s :=
  wpAny_mono h (fun v s' ⟨⟨u, e⟩, ⟨⟨h', tk', e', F', N'⟩⟩⟩ => by subst e; subst e'; exact k u h' tk' F' N') fun _ _ e => e
theorem JoinStr.mk' {X Y : Str} {t : Tok} {h' : Heap} {tk' : Nat} (e : Y = X) (F : Fr h₀ L h' m) (N : News h₀ L h' news) : JoinStr X h₀ L m news s (.str Y t) { s with heap := h', toks := tk' } :=
  ⟨⟨t, by rw [e]⟩, ⟨⟨h', tk', rfl, F, N⟩⟩⟩
end
structure JoinAB (x y : Str) (X Y : Str) (h₀ : Heap) (L : Addr) (m : Str → Option Value) (news : List (Addr × Obj)) (s : Shared) (f : Flow) (s' : Shared) : Prop where
  next : f = .next
  here : ∃ t u : Tok, KJoinAt h₀ L (fun z => if z = x then some (.str X t) else if z = y then some (.str Y u) else m z) news s s'
section
variable {M : Model} {A : Around} {E : Value → Shared → Prop} {s : Shared} {h₀ : Heap} {L : Addr} {m : Str → Option Value} {news : List (Addr × Obj)}
theorem join_ab (x y : Str) {X Y : Str} {t : Sem Flow} {Q : Flow → Shared → Prop} (_F : Fr h₀ L s.heap m) (_N : News h₀ L s.heap news)
    (h : wpAny M A t (fun f s' => JoinAB x y X Y h₀ L m news s f s') E s)
    (k : ∀ u v h' tk', Fr h₀ L h' (fun z => if z = x then some (.str X u) else if z = y then some (.str Y v) else m z) → News h₀ L h' news → Q .next { s with heap := h', toks := tk' }) : wpAny M A t Q E s :=
  wpAny_mono h (fun v s' ⟨e, ⟨t, u, ⟨⟨h', tk', e', F', N'⟩⟩⟩⟩ => by subst e; subst e'; exact k t u h' tk' F' N') fun _ _ e => e
theorem JoinAB.mk' {x y X Y : Str} {t u : Tok} {m' : Str → Option Value} {news' : List (Addr × Obj)} {h' : Heap} {tk' : Nat} (F : Fr h₀ L h' m') (N : News h₀ L h' news') (hm : m' x = some (.str X t) ∧ m' y = some (.str Y u) ∧ ∀ z, z ≠ x → z ≠ y → m' z = m z) (hs : ∀ p ∈ news, p ∈ news') :
    JoinAB x y X Y h₀ L m news s .next { s with heap := h', toks := tk' } := by
  refine ⟨rfl, t, u, ⟨⟨h', tk', rfl, ?_, fun p hp => N p (hs p hp)⟩⟩⟩
  have e : (fun z => if z = x then some (.str X t) else if z = y then some (.str Y u) else m z) = m' := by
    funext z
    by_cases h1 : z = x
    · rw [if_pos h1, h1, hm.1]
    · rw [if_neg h1]
      by_cases h2 : z = y
      · rw [if_pos h2, h2, hm.2.1]
      · rw [if_neg h2, hm.2.2 z h1 h2]
  rw [e]
  exact F
end
abbrev MyRet (h₀ : Heap) (L : Addr) (m : Str → Option Value) (news : List (Addr × Obj)) (s : Shared) (Q : Value → Shared → Prop) (R : Tok → Value) : Prop :=
  ∀ (t : Tok) (h' : Heap) (tk' : Nat), Fr h₀ L h' m → News h₀ L h' news → Q (R t) { s with heap := h', toks := tk' }
abbrev MyClaim (depth units : Nat) (prog : Program) (w : World) (K : Frag) (p : Program) (loose : List Str) (mean : PySem.ExcName → Option Value) (mg mb : Str → Option Value) (f : Addr) (vs : List Value) (R : Tok → Value) : Prop :=
  ∀ (dp un : Nat) (gd : Option (List Code)) (cn : Str) (cs : Scope) (a : Addr) (ccd : Value) (cl : List (Str × Addr)) (outer : List Env) (A₀ : Around) (base h₀ : Heap) (L : Addr) (m : Str → Option Value) (news : List (Addr × Obj)) (s : Shared) (Q E : Value → Shared → Prop),
    Below A₀ base outer h₀ → Fr h₀ L s.heap m → K.In h₀ → News h₀ L s.heap news → Top p loose mean mg mb h₀ → cs.kind = .function → dp + depth < recursionLimit → un + units < cLine → MyRet h₀ L m news s Q R →
      wpAny (model prog w) (ktrTop dp un gd cn cs L a ccd cl outer) (call (.ref f) vs) Q E s
section
variable {prog : Program} {w : World} {A : Around} {h₀ : Heap} {L : Addr} {m : Str → Option Value} {env : Env} {elt : Expr} {x : Str} {scope : Scope} {cl : List (Str × Addr)} {s : Shared} {S : List (Addr × Obj) → Prop} {P : Nat → Value → Prop} {Fin : List Value → List (Addr × Obj) → Prop} {news : List (Addr × Obj)}
theorem comp_rest {n : Nat} (R : Nat → Value → Prop)
    (turn : ∀ i v I oI C oC D m₂ ys h tk (E' : Value → Shared → Prop), i < n → P i v → LCg.NsObj oC m₂ → m₂ x = some v → Fr h₀ L h m → News h₀ L h ((I, oI) :: (C, oC) :: (D, LCg.lst ys) :: news) → LCg.Off3 I C D news → ((@Ne Nat I C) ∧ (@Ne Nat I D) ∧ (@Ne Nat C D)) →
      wpAny (model prog w) A (eval elt (compEnvC scope cl C env)) (LCg.CompEnd h₀ L m { s with heap := h, toks := tk } I oI C oC D (LCg.lst ys) S (fun y news' => news' = news ∧ R i y)) E' { s with heap := h, toks := tk })
    (fin : ∀ ys : List Value, ys.length = n → (∀ (i : Nat) (v : Value), ys[i]? = some v → R i v) → Fin ys news) : LCg.CompRest prog w A h₀ L m env elt x scope cl s S P Fin n 0 [] news := by
  have key : ∀ (j i : Nat) (ys : List Value), i + j = n → ys.length = i → (∀ (i : Nat) (v : Value), ys[i]? = some v → R i v) → LCg.CompRest prog w A h₀ L m env elt x scope cl s S P Fin j i ys news := by
    intro j
    induction j with
    | zero =>
      intro i ys hi hl hR
      exact LCg.CompRest.zero (fin ys (by omega) hR)
    | succ j ih =>
      intro i ys hi hl hR
      refine LCg.CompRest.succ ?_
      intro v I oI C oC D m₂ h tk E' hv hC hx F N off ne
      refine wpAny_mono (turn i v I oI C oC D m₂ ys h tk E' (by omega) hv hC hx F N off ne) (fun y s₂ hq => ?_) fun _ _ e => e
      obtain ⟨h', tk', nw, e, F', N', off', hS, hn, hy⟩ := hq
      rw [hn] at N' off' hS
      refine ⟨h', tk', news, e, F', N', off', hS, ?_⟩
      refine ih (i + 1) _ (by omega) (by rw [List.length_append, hl]; rfl) ?_
      intro q z hz
      rcases Nat.lt_trichotomy q ys.length with h1 | h1 | h1
      · rw [List.getElem?_append_left h1] at hz
        exact hR q z hz
      · subst h1
        rw [List.getElem?_append_right (Nat.le_refl _), Nat.sub_self] at hz
        cases hz
        rw [hl]
        exact hy
      · rw [List.getElem?_eq_none (by rw [List.length_append, List.length_singleton]; omega)] at hz
        cases hz
  exact key n 0 [] (by omega) rfl (fun _ _ h => by simp at h)
theorem list8 {ys : List Value} (h : ys.length = 8) : ∃ a b c d e f g i, ys = [a, b, c, d, e, f, g, i] := by
  match ys, h with
  | [a, b, c, d, e, f, g, i], _ => exact ⟨a, b, c, d, e, f, g, i, rfl⟩
end
theorem news_keep {h₀ h : Heap} {L : Addr} {q : Addr × Obj} {rest news : List (Addr × Obj)} (N : News h₀ L h (q :: rest)) (hs : ∀ p ∈ news, p ∈ rest) : News h₀ L h (q :: news) :=
  cb_drop N fun p hp => (List.mem_cons.mp hp).elim (fun e => e ▸ List.mem_cons_self) fun hp => List.mem_cons_of_mem _ (hs p hp)
end Mine
end
section -- Pure
open PySem PySem.W PyProof.Rows
namespace Mine
def ofL (l : List Nat) : Str := ⟨l.toArray⟩
theorem ofL_toList (x : Str) : ofL x.cps.toList = x := by
  unfold ofL
  rw [Array.toArray_toList]
theorem ofL_len (l : List Nat) : (ofL l).length = l.length := by simp [ofL, Str.length]
theorem ofL_inj {a b : List Nat} (h : ofL a = ofL b) : a = b := by
  have := congrArg (fun s : Str => s.cps.toList) h
  simpa [ofL] using this
theorem ofL_beq (a b : List Nat) : (ofL a == ofL b) = (a == b) := by
  by_cases h : a = b
  · subst h; simp
  · have h2 : ofL a ≠ ofL b := fun e => h (ofL_inj e)
    rw [beq_eq_false_iff_ne.mpr h, beq_eq_false_iff_ne.mpr h2]
theorem ofL_append (a b : List Nat) : ofL a ++ ofL b = ofL (a ++ b) := by
  refine Str.ext' ?_
  rw [Str.cps_append]
  simp [ofL]
theorem slice_from (l : List Nat) {k : Int} (h0 : 0 ≤ k) (h1 : k ≤ l.length) : Txt.slice (ofL l) (some k) none = ofL (l.drop k.toNat) := by
  rw [slice_from_eq (x := ofL l) (b := l.length) h0 (by rw [ofL_len]; exact h1) (by rw [ofL_len])]
  show Str.mk _ = Str.mk _
  congr 2
  show (l.drop k.toNat).take _ = _
  rw [List.take_of_length_le]
  rw [List.length_drop]
  omega
theorem slice_to (l : List Nat) {k : Int} (h0 : 0 ≤ k) (h1 : k ≤ l.length) : Txt.slice (ofL l) none (some k) = ofL (l.take k.toNat) := by
  have := eq_of_beq (slice_closes_toL (x := ofL l) (j := k) h0 (by rw [ofL_len]; exact h1))
  rw [this]
  show Str.mk _ = Str.mk _
  congr 2
  show (l.drop (0 : Int).toNat).take _ = _
  simp
theorem slice_toNeg (l : List Nat) {k : Int} (h0 : k < 0) (h1 : -(l.length : Int) ≤ k) : Txt.slice (ofL l) none (some k) = ofL (l.take (l.length + k).toNat) := by
  rw [slice_to_neg h0, ofL_len]
  have e : max 0 ((l.length : Int) + k) = (l.length : Int) + k := by omega
  rw [e, slice_to l (by omega) (by omega)]
theorem slice_all (l : List Nat) : Txt.slice (ofL l) none none = ofL l := by
  have h := slice_to l (k := l.length) (by omega) (by omega)
  have e : Builtin.Str.strSliceIndices none (some (l.length : Int)) 1 (ofL l).length = Builtin.Str.strSliceIndices none none 1 (ofL l).length := by
    rw [ofL_len]
    have h1 : ¬ ((l.length : Int) < 0) := by omega
    simp [Builtin.Str.strSliceIndices, h1]
  have h2 : Txt.slice (ofL l) none none = Txt.slice (ofL l) none (some (l.length : Int)) := by
    show StrLaws.sliceText (ofL l) none none = StrLaws.sliceText (ofL l) none (some (l.length : Int))
    unfold StrLaws.sliceText
    rw [e]
  rw [h2, h]
  simp
theorem item_pos (l : List Nat) {k : Int} (h0 : 0 ≤ k) (h1 : k < l.length) : Txt.item (ofL l) k = ofL [l.getD k.toNat 0] := by
  rw [item_at (x := ofL l) h0 (by rw [ofL_len]; exact h1) rfl]
  have : (ofL l).cps.getD k.toNat 0 = l.getD k.toNat 0 := by
    simp [ofL, Array.getD_eq_getD_getElem?, List.getD_eq_getElem?_getD]
  rw [this]
  rfl
theorem item_neg (l : List Nat) {k : Int} (h0 : k < 0) (h1 : -(l.length : Int) ≤ k) : Txt.item (ofL l) k = ofL [l.getD (l.length + k).toNat 0] := by
  have := eq_of_beq (item_closes_neg (x := ofL l) (i := k) (j := l.length + k) h0 (by rw [ofL_len]; exact h1) (by rw [ofL_len]; omega))
  rw [this]
  have : (ofL l).cps.getD ((l.length : Int) + k).toNat 0 = l.getD ((l.length : Int) + k).toNat 0 := by
    simp [ofL, Array.getD_eq_getD_getElem?, List.getD_eq_getElem?_getD]
  rw [this]
  rfl

/-- common prefix length -/
def lcp : List Nat → List Nat → Nat
  | a :: as, b :: bs => if a = b then lcp as bs + 1 else 0
  | _, _ => 0
theorem lcp_le1 : ∀ a b : List Nat, lcp a b ≤ a.length
  | [], b => by simp [lcp]
  | x :: xs, [] => by simp [lcp]
  | x :: xs, y :: ys => by
    simp only [lcp]
    split
    · have := lcp_le1 xs ys; simp; omega
    · simp
theorem lcp_le2 : ∀ a b : List Nat, lcp a b ≤ b.length
  | [], b => by simp [lcp]
  | x :: xs, [] => by simp [lcp]
  | x :: xs, y :: ys => by
    simp only [lcp]
    split
    · have := lcp_le2 xs ys; simp; omega
    · simp
/-- the first place where a test falls is lcp -/
theorem lcp_unique : ∀ (a b : List Nat) (k : Nat), (∀ j, j < k → j < a.length ∧ j < b.length ∧ a.getD j 0 = b.getD j 0) → ¬ (k < a.length ∧ k < b.length ∧ a.getD k 0 = b.getD k 0) → k = lcp a b
  | [], b, k, h, _ => by
    cases k with
    | zero => simp [lcp]
    | succ k => exact absurd (h 0 (by omega)).1 (by simp)
  | x :: xs, [], k, h, _ => by
    cases k with
    | zero => simp [lcp]
    | succ k => exact absurd (h 0 (by omega)).2.1 (by simp)
  | x :: xs, y :: ys, k, h, hn => by
    cases k with
    | zero =>
      have : ¬ x = y := fun e => hn ⟨by simp, by simp, by simpa using e⟩
      simp [lcp, this]
    | succ k =>
      have e : x = y := by simpa using (h 0 (by omega)).2.2
      simp only [lcp, e, if_true]
      rw [lcp_unique xs ys k (fun j hj => by simpa using h (j + 1) (by omega)) (fun hc => hn (by simpa using hc))]

def preC (a b : List Nat) (k : Int) : Bool := decide (k < a.length) && (decide (k < b.length) && (a.getD k.toNat 0 == b.getD k.toNat 0))
theorem preC_lcp {a b : List Nat} {k : Int} (h0 : 0 ≤ k) (hall : ∀ j, 0 ≤ j → j < k → preC a b j = true) (hn : preC a b k = false) : k = lcp a b := by
  have := lcp_unique a b k.toNat (fun j hj => by
    have := hall j (by omega) (by omega)
    simp only [preC, Bool.and_eq_true, decide_eq_true_eq, beq_iff_eq] at this
    have e : ((j : Int)).toNat = j := by omega
    rw [e] at this
    exact ⟨by omega, by omega, this.2.2⟩) (fun ⟨h1, h2, h3⟩ => by
    have : preC a b k = true := by
      simp only [preC, Bool.and_eq_true, decide_eq_true_eq, beq_iff_eq]
      exact ⟨by omega, by omega, h3⟩
    rw [this] at hn; cases hn)
  omega
def postC (a b : List Nat) (k : Int) : Bool := decide (0 < a.length + k) && (decide (0 < b.length + k) && (a.getD (a.length + k - 1).toNat 0 == b.getD (b.length + k - 1).toNat 0))
theorem postC_lcp {a b : List Nat} {k : Int} (h0 : k ≤ 0) (hall : ∀ j, k < j → j ≤ 0 → postC a b j = true) (hn : postC a b k = false) : k = -(lcp a.reverse b.reverse : Int) := by
  have key : ∀ j : Nat, postC a b (-(j : Int)) = true ↔ (j < a.reverse.length ∧ j < b.reverse.length ∧ a.reverse.getD j 0 = b.reverse.getD j 0) := by
    intro j
    simp only [postC, Bool.and_eq_true, decide_eq_true_eq, beq_iff_eq, List.length_reverse]
    constructor
    · rintro ⟨h1, h2, h3⟩
      refine ⟨by omega, by omega, ?_⟩
      rw [List.getD_eq_getElem?_getD, List.getD_eq_getElem?_getD, List.getElem?_reverse (by omega), List.getElem?_reverse (by omega), ← List.getD_eq_getElem?_getD, ← List.getD_eq_getElem?_getD]
      have e1 : a.length - 1 - j = ((a.length : Int) + -(j : Int) - 1).toNat := by omega
      have e2 : b.length - 1 - j = ((b.length : Int) + -(j : Int) - 1).toNat := by omega
      rw [e1, e2, h3]
    · rintro ⟨h1, h2, h3⟩
      refine ⟨by omega, by omega, ?_⟩
      rw [List.getD_eq_getElem?_getD, List.getD_eq_getElem?_getD, List.getElem?_reverse (by omega), List.getElem?_reverse (by omega), ← List.getD_eq_getElem?_getD, ← List.getD_eq_getElem?_getD] at h3
      have e1 : a.length - 1 - j = ((a.length : Int) + -(j : Int) - 1).toNat := by omega
      have e2 : b.length - 1 - j = ((b.length : Int) + -(j : Int) - 1).toNat := by omega
      rw [← e1, ← e2, h3]
  have e : k = -((-k).toNat : Int) := by omega
  have := lcp_unique a.reverse b.reverse (-k).toNat (fun j hj => (key j).mp (hall _ (by omega) (by omega))) (fun hc => by
    have := (key _).mpr hc
    rw [← e, hn] at this; cases this)
  omega
theorem pre_r {a b : List Nat} {k : Int} {r : Bool} (h1 : k < a.length) (h2 : k < b.length) (h3 : (ofL [a.getD k.toNat 0] == ofL [b.getD k.toNat 0]) = r) : r = preC a b k := by
  rw [ofL_beq] at h3
  have e : ([a.getD k.toNat 0] == [b.getD k.toNat 0]) = (a.getD k.toNat 0 == b.getD k.toNat 0) := by simp
  rw [e] at h3
  unfold preC
  rw [decide_eq_true h1, decide_eq_true h2, h3]
  rfl
theorem pre_f {a b : List Nat} {k : Int} (h : ¬ k < a.length ∨ ¬ k < b.length) : false = preC a b k := by
  unfold preC
  rcases h with h | h
  · rw [decide_eq_false h]; rfl
  · rw [decide_eq_false h]; simp
theorem post_r {a b : List Nat} {k : Int} {r : Bool} (h1 : 0 < a.length + k) (h2 : 0 < b.length + k) (h3 : (ofL [a.getD (a.length + (k - 1)).toNat 0] == ofL [b.getD (b.length + (k - 1)).toNat 0]) = r) : r = postC a b k := by
  rw [ofL_beq] at h3
  have e1 : (a.length : Int) + (k - 1) = a.length + k - 1 := by omega
  have e2 : (b.length : Int) + (k - 1) = b.length + k - 1 := by omega
  rw [e1, e2] at h3
  have e : ([a.getD (a.length + k - 1).toNat 0] == [b.getD (b.length + k - 1).toNat 0]) = (a.getD (a.length + k - 1).toNat 0 == b.getD (b.length + k - 1).toNat 0) := by simp
  rw [e] at h3
  unfold postC
  rw [decide_eq_true h1, decide_eq_true h2, h3]
  rfl
theorem post_f {a b : List Nat} {k : Int} (h : ¬ 0 < a.length + k ∨ ¬ 0 < b.length + k) : false = postC a b k := by
  unfold postC
  rcases h with h | h
  · rw [decide_eq_false h]; rfl
  · rw [decide_eq_false h]; simp
def row0 (n : Nat) : List Int := (List.range n).map fun (i : Nat) => 2 + (i : Int) * 2
theorem row0_len (n : Nat) : (row0 n).length = n := by simp [row0]
def substC (x y : Str) : Int := if (x == y) = true then 0 else if (Txt.lower x == Txt.lower y) = true then 1 else 2
theorem substC_nn (x y : Str) : 0 ≤ substC x y ∧ substC x y ≤ 2 := by
  unfold substC
  split
  · omega
  · split <;> omega
abbrev DSt := List Int × Int × Int × Int
abbrev pmin (x y : Int) : Int := if y < x then y else x
abbrev innerV (bch : Nat) (a : List Nat) (st : DSt) (i : Nat) : Int := pmin (pmin st.2.2.1 (st.1.getD i 0) + 2) (st.2.1 + substC (ofL [bch]) (ofL [a.getD i 0]))
def innerStep (bch : Nat) (a : List Nat) (st : DSt) (i : Nat) : DSt :=
  (st.1.set i (innerV bch a st i), st.1.getD i 0, innerV bch a st i, if innerV bch a st i < st.2.2.2 then innerV bch a st i else st.2.2.2)
def innerN (bch : Nat) (a : List Nat) (row : List Int) (b0 : Int) : Nat → DSt
  | 0 => (row, b0, b0, 9223372036854775807)
  | n + 1 => innerStep bch a (innerN bch a row b0 n) n
theorem innerN_len (bch : Nat) (a : List Nat) (row : List Int) (b0 : Int) : ∀ n, (innerN bch a row b0 n).1.length = row.length
  | 0 => rfl
  | n + 1 => by
    show (List.set _ _ _).length = _
    rw [List.length_set]
    exact innerN_len bch a row b0 n
def outerN (a b : List Nat) : Nat → Option (List Int × Int)
  | 0 => some (row0 a.length, 0)
  | n + 1 => (outerN a b n).bind fun st =>
    if 8 < (innerN (b.getD n 0) a st.1 ((n : Int) * 2) a.length).2.2.2 then none
    else some ((innerN (b.getD n 0) a st.1 ((n : Int) * 2) a.length).1, (innerN (b.getD n 0) a st.1 ((n : Int) * 2) a.length).2.2.1)
theorem outerN_none (a b : List Nat) {n : Nat} (h : outerN a b n = none) : ∀ m, n ≤ m → outerN a b m = none
  | 0, hm => by
    have : n = 0 := by omega
    subst this
    exact h
  | m + 1, hm => by
    by_cases e : n = m + 1
    · subst e; exact h
    · have := outerN_none a b h m (by omega)
      show (outerN a b m).bind _ = none
      rw [this]
      rfl
theorem outerN_len (a b : List Nat) : ∀ n st, outerN a b n = some st → st.1.length = a.length
  | 0, st, h => by
    cases h
    exact row0_len _
  | n + 1, st, h => by
    obtain ⟨st', h1, h2⟩ := Option.bind_eq_some_iff.mp h
    have := outerN_len a b n st' h1
    split at h2
    · cases h2
    · cases h2
      rw [innerN_len, this]
def levDP (a b : List Nat) : Int := if 8 < ((b.length : Int) - a.length) * 2 then 9 else match outerN a b b.length with
  | none => 9
  | some st => st.2
def levCut (a b : List Nat) : Int := if a.length = 0 ∨ b.length = 0 then 2 * ((a.length : Int) + b.length)
  else levDP (if b.length < a.length then b else a) (if b.length < a.length then a else b)
def levMid (a b : List Nat) : Int := levCut (a.take (a.length - lcp a.reverse b.reverse)) (b.take (b.length - lcp a.reverse b.reverse))
def lev (a b : List Nat) : Int := if a = b then 0 else levMid (a.drop (lcp a b)) (b.drop (lcp a b))
theorem inner_turnT {bch : Nat} {a : List Nat} {row row2 : List Int} {b0 d2 r2 m2 k : Int} {pre : List Int} (hp : innerN bch a row b0 pre.length = (row2, d2, r2, m2)) (hk : k = 0 + (pre.length : Int))
    (h : pmin (pmin r2 (row2.getD k.toNat 0) + 2) (d2 + substC (ofL [bch]) (ofL [a.getD k.toNat 0])) < m2) :
    innerN bch a row b0 (pre ++ [k]).length = (row2.set k.toNat (pmin (pmin r2 (row2.getD k.toNat 0) + 2) (d2 + substC (ofL [bch]) (ofL [a.getD k.toNat 0]))), row2.getD k.toNat 0, pmin (pmin r2 (row2.getD k.toNat 0) + 2) (d2 + substC (ofL [bch]) (ofL [a.getD k.toNat 0])), pmin (pmin r2 (row2.getD k.toNat 0) + 2) (d2 + substC (ofL [bch]) (ofL [a.getD k.toNat 0]))) := by
  have e : k.toNat = pre.length := by omega
  rw [List.length_append, List.length_singleton]
  show innerStep bch a (innerN bch a row b0 pre.length) pre.length = _
  rw [hp, ← e]
  show (_, _, _, if _ < m2 then _ else m2) = _
  rw [if_pos h]
theorem inner_turnF {bch : Nat} {a : List Nat} {row row2 : List Int} {b0 d2 r2 m2 k : Int} {pre : List Int} (hp : innerN bch a row b0 pre.length = (row2, d2, r2, m2)) (hk : k = 0 + (pre.length : Int))
    (h : ¬ pmin (pmin r2 (row2.getD k.toNat 0) + 2) (d2 + substC (ofL [bch]) (ofL [a.getD k.toNat 0])) < m2) :
    innerN bch a row b0 (pre ++ [k]).length = (row2.set k.toNat (pmin (pmin r2 (row2.getD k.toNat 0) + 2) (d2 + substC (ofL [bch]) (ofL [a.getD k.toNat 0]))), row2.getD k.toNat 0, pmin (pmin r2 (row2.getD k.toNat 0) + 2) (d2 + substC (ofL [bch]) (ofL [a.getD k.toNat 0])), m2) := by
  have e : k.toNat = pre.length := by omega
  rw [List.length_append, List.length_singleton]
  show innerStep bch a (innerN bch a row b0 pre.length) pre.length = _
  rw [hp, ← e]
  show (_, _, _, if _ < m2 then _ else m2) = _
  rw [if_neg h]
theorem outer_exit {a b : List Nat} {pre : List Int} {row row2 : List Int} {res d2 r2 m2 k : Int} (hp : outerN a b pre.length = some (row, res)) (hk : k = 0 + (pre.length : Int)) (hlt : pre.length < b.length)
    (hi : innerN (b.getD k.toNat 0) a row (k * 2) a.length = (row2, d2, r2, m2)) (h : 8 < m2) : outerN a b b.length = none := by
  refine outerN_none a b (n := pre.length + 1) ?_ _ (by omega)
  show (outerN a b pre.length).bind _ = none
  have e : k.toNat = pre.length := by omega
  have e3 : ((k.toNat : Nat) : Int) = k := by omega
  rw [hp, ← e]
  show (if 8 < (innerN (b.getD k.toNat 0) a row (((k.toNat : Nat) : Int) * 2) a.length).2.2.2 then none else _) = none
  rw [e3, hi, if_pos h]
theorem outer_turn {a b : List Nat} {pre : List Int} {row row2 : List Int} {res d2 r2 m2 k : Int} (hp : outerN a b pre.length = some (row, res)) (hk : k = 0 + (pre.length : Int))
    (hi : innerN (b.getD k.toNat 0) a row (k * 2) a.length = (row2, d2, r2, m2)) (h : ¬ 8 < m2) : outerN a b (pre ++ [k]).length = some (row2, r2) := by
  have e : k.toNat = pre.length := by omega
  have e3 : ((k.toNat : Nat) : Int) = k := by omega
  rw [List.length_append, List.length_singleton]
  show (outerN a b pre.length).bind _ = _
  rw [hp, ← e]
  show (if 8 < (innerN (b.getD k.toNat 0) a row (((k.toNat : Nat) : Int) * 2) a.length).2.2.2 then none else some ((innerN (b.getD k.toNat 0) a row (((k.toNat : Nat) : Int) * 2) a.length).1, (innerN (b.getD k.toNat 0) a row (((k.toNat : Nat) : Int) * 2) a.length).2.2.1)) = _
  rw [e3, hi, if_neg h]
end Mine
end
section -- Txt1
open PySem PySem.W PyProof.Rows
namespace Mine
section
variable {prog : Program} {w : World} {A : Around} {E : Value → Shared → Prop} {s : Shared} {value slice : Expr} {t : Tok} {h₀ : Heap} {L : Addr} {m : Str → Option Value} {news : List (Addr × Obj)} {Q : Value → Shared → Prop} {l : List Nat}
theorem sl_nn (hF : Fr h₀ L s.heap m) (hN : News h₀ L s.heap news) (hz : l.length ≤ 1000) (h : ∀ h' t' k, Fr h₀ L h' m → News h₀ L h' news → Q (.str (ofL l) t') { s with heap := h', toks := k })
    (hs : subscripted slice false (.str (ofL l) t) (.ref s.heap.objs.size) = operate [.ref s.heap.objs.size, .str (ofL l) t] (getItem (.str (ofL l) t) (.ref s.heap.objs.size)) := by with_unfolding_all rfl)
    (ht : ∀ r, letTemporaryGo value (.str (ofL l) t) r = pure () := by intro _; with_unfolding_all rfl) :
    wpAny (model prog w) A (subscriptTail value slice (.str (ofL l) t) (.ref s.heap.objs.size)) Q E { s with heap := s.heap.push { cls := .type "slice", data := .fields #[.none, .none, .none] } } :=
  slice_strN_nn_len hF hN (fun h' t' k a b _ => by rw [slice_all]; exact h h' t' k a b) hs ht (by rw [ofL_len, sizeLine_eq]; omega)
theorem sl_neg {j : Int} {uj : Tok} (hF : Fr h₀ L s.heap m) (hN : News h₀ L s.heap news) (hz : l.length ≤ 1000) (h0 : j < 0) (h1 : -(l.length : Int) ≤ j)
    (h : ∀ h' t' k, Fr h₀ L h' m → News h₀ L h' news → Q (.str (ofL (l.take (l.length + j).toNat)) t') { s with heap := h', toks := k })
    (hs : subscripted slice false (.str (ofL l) t) (.ref s.heap.objs.size) = operate [.ref s.heap.objs.size, .str (ofL l) t] (getItem (.str (ofL l) t) (.ref s.heap.objs.size)) := by with_unfolding_all rfl)
    (ht : ∀ r, letTemporaryGo value (.str (ofL l) t) r = pure () := by intro _; with_unfolding_all rfl) :
    wpAny (model prog w) A (subscriptTail value slice (.str (ofL l) t) (.ref s.heap.objs.size)) Q E { s with heap := s.heap.push { cls := .type "slice", data := .fields #[.none, .int j uj, .none] } } :=
  slice_strN_ns_len hF hN (fun h' t' k a b _ => by rw [slice_toNeg l h0 h1]; exact h h' t' k a b) hs ht (by rw [ofL_len, sizeLine_eq]; omega)
theorem sl_from {j : Int} {uj : Tok} (hF : Fr h₀ L s.heap m) (hN : News h₀ L s.heap news) (hz : l.length ≤ 1000) (h0 : 0 ≤ j) (h1 : j ≤ (l.length : Int))
    (h : ∀ h' t' k, Fr h₀ L h' m → News h₀ L h' news → Q (.str (ofL (l.drop j.toNat)) t') { s with heap := h', toks := k })
    (hs : subscripted slice false (.str (ofL l) t) (.ref s.heap.objs.size) = operate [.ref s.heap.objs.size, .str (ofL l) t] (getItem (.str (ofL l) t) (.ref s.heap.objs.size)) := by with_unfolding_all rfl)
    (ht : ∀ r, letTemporaryGo value (.str (ofL l) t) r = pure () := by intro _; with_unfolding_all rfl) :
    wpAny (model prog w) A (subscriptTail value slice (.str (ofL l) t) (.ref s.heap.objs.size)) Q E { s with heap := s.heap.push { cls := .type "slice", data := .fields #[.int j uj, .none, .none] } } :=
  slice_strN_sn_len hF hN (fun h' t' k a b _ => by rw [slice_from l h0 h1]; exact h h' t' k a b) hs ht (by rw [ofL_len, sizeLine_eq]; omega)
theorem it_pos {j : Int} {uj : Tok} (hz : l.length ≤ 1000) (h0 : 0 ≤ j) (h1 : j < (l.length : Int)) (h : Q (.str (ofL [l.getD j.toNat 0]) s.toks) { s with toks := s.toks + 1 })
    (hs : subscripted slice false (.str (ofL l) t) (.int j uj) = operate [.str (ofL l) t, .int j uj] (getItem (.str (ofL l) t) (.int j uj)) := by with_unfolding_all rfl)
    (ht : ∀ r, letTemporaryGo value (.str (ofL l) t) r = pure () := by intro _; with_unfolding_all rfl) :
    wpAny (model prog w) A (subscriptTail value slice (.str (ofL l) t) (.int j uj)) Q E s :=
  KXi.item (ofL_len l) (by omega) h1 (by omega) (fun _ => by rw [item_pos l h0 h1]; exact h) hs ht
theorem it_neg {j : Int} {uj : Tok} (hz : l.length ≤ 1000) (h0 : j < 0) (h1 : -(l.length : Int) ≤ j) (h : Q (.str (ofL [l.getD (l.length + j).toNat 0]) s.toks) { s with toks := s.toks + 1 })
    (hs : subscripted slice false (.str (ofL l) t) (.int j uj) = operate [.str (ofL l) t, .int j uj] (getItem (.str (ofL l) t) (.int j uj)) := by with_unfolding_all rfl)
    (ht : ∀ r, letTemporaryGo value (.str (ofL l) t) r = pure () := by intro _; with_unfolding_all rfl) :
    wpAny (model prog w) A (subscriptTail value slice (.str (ofL l) t) (.int j uj)) Q E s :=
  KXi.item (ofL_len l) h1 (by omega) (by omega) (fun _ => by rw [item_neg l h0 h1]; exact h) hs ht
theorem tr_plain {Q : Bool → Shared → Prop} (hz : l.length ≤ 1000) (h : Q ((l.length : Int) != 0) { s with toks := s.toks + 1 + 1 }) : wpAny (model prog w) A (PySem.truthy (.str (ofL l) t)) Q E s :=
  SBL.truthy (by rw [ofL_len]; omega) (by rw [ofL_len]; exact h)
theorem tr_take {Q : Bool → Shared → Prop} {n : Int} (hz : l.length ≤ 1000) (h0 : 0 ≤ n) (h1 : n ≤ l.length) (h : Q (n != 0) { s with toks := s.toks + 1 + 1 }) : wpAny (model prog w) A (PySem.truthy (.str (ofL (l.take n.toNat)) t)) Q E s :=
  tr_plain (by rw [List.length_take]; omega) (by
    have e : ((l.take n.toNat).length : Int) = n := by rw [List.length_take]; omega
    rw [e]; exact h)
theorem tr_drop {Q : Bool → Shared → Prop} {n : Int} (hz : l.length ≤ 1000) (h0 : 0 ≤ n) (h1 : n ≤ l.length) (h : Q ((l.length - n) != 0) { s with toks := s.toks + 1 + 1 }) : wpAny (model prog w) A (PySem.truthy (.str (ofL (l.drop n.toNat)) t)) Q E s :=
  tr_plain (by rw [List.length_drop]; omega) (by
    have e : ((l.drop n.toNat).length : Int) = l.length - n := by rw [List.length_drop]; omega
    rw [e]; exact h)
theorem len_ofL (hz : l.length ≤ 1000) (h : Q (.int l.length (s.toks + 1)) { s with toks := s.toks + 1 + 1 }) : wpAny (model prog w) A (call (.builtin "len") [.str (ofL l) t]) Q E s :=
  SBL.len (by rw [ofL_len]; omega) (by rw [ofL_len]; exact h)
end
section
variable {prog : Program} {w : World} {A : Around} {E : Value → Shared → Prop} {s : Shared} {h₀ : Heap} {L l r : Addr} {m : Str → Option Value} {news : List (Addr × Obj)} {t₀ u₀ v₀ : Tok} {n : Nat} {Q : Value → Shared → Prop}
theorem ints_of : ∀ (vs : List Value) (ks : List Int), vs.length = ks.length → (∀ (j : Nat) (v : Value), vs[j]? = some v → ∃ t, v = .int (ks.getD j 0) t) → IntsAre vs ks
  | [], [], _, _ => IntsAre.nil
  | v :: r, k :: ks, e, h => by
    obtain ⟨t, ht⟩ := h 0 v rfl
    have hv : v = .int k t := by rw [ht]; simp
    subst hv
    exact IntsAre.cons _ _ (ints_of r ks (by simpa using e) fun j v hj => by simpa using h (j + 1) v hj)
theorem range2_size (n : Nat) : Builtin.Range.rangeSize 2 (2 * ((n : Int) + 1)) 2 = (n : Int) := by
  unfold Builtin.Range.rangeSize
  rw [if_pos (by decide)]
  split <;> omega
theorem small_gen {a b c : Int} (hc : c > 0) (hc' : c < 2 ^ 61) (ha : -(2 ^ 62) ≤ a) (ha' : a < 2 ^ 62) (hb : -(2 ^ 62) ≤ b) (hb' : b < 2 ^ 62) (hr : 0 ≤ Builtin.Range.rangeSize a b c) (hr' : Builtin.Range.rangeSize a b c < 2 ^ 62) : Builtin.Range.small a b c = true := by
  unfold Builtin.Range.small
  generalize Builtin.Range.rangeSize a b c = n at hr hr'
  simp only [Builtin.Range.rangeFitsLong, Bool.and_eq_true, Bool.or_eq_true, decide_eq_true_eq, beq_iff_eq, hc, if_true]
  omega
theorem list_range2 (hh : A.handled = none) (F : Fr h₀ L s.heap m) (N : News h₀ L s.heap news) (hr : IsRange s.heap r 2 (2 * ((n : Int) + 1)) 2 t₀ u₀ v₀) (hz : n ≤ 1000)
    (h : ∀ D us c h' tk, Fr h₀ L h' m → News h₀ L h' ((D, listOf (List.toArray us) c) :: news) → (∀ p ∈ news, p.1 < D) → IntsAre us (row0 n) → Q (.ref D) { s with heap := h', toks := tk }) :
    wpAny (model prog w) A (call (.type "list") [.ref r]) Q E s := by
  have hsm : Builtin.Range.small 2 (2 * ((n : Int) + 1)) 2 = true := small_gen (by omega) (by omega) (by omega) (by omega) (by omega) (by omega) (by rw [range2_size]; omega) (by rw [range2_size]; omega)
  refine call_list_range hh hr hsm (range2_size n) (by omega) fun h' tk acc c hk hD hI => ?_
  have hD' : h'.get? s.heap.objs.size = some (listOf (List.toArray acc.toList) c) := by
    rw [Array.toArray_toList]
    exact hD
  refine h _ acc.toList c h' tk (F.keeps hk) (news_pushed F N hk hD' rfl) (fun p hp => Heap.lt_size (N p hp).1) (ints_of _ _ (by rw [Array.length_toList, row0_len]; exact hI.1) fun j v hj => ?_)
  have hlt : j < n := by
    have h1 : j < acc.toList.length := by
      rcases Nat.lt_or_ge j acc.toList.length with h | h
      · exact h
      · rw [List.getElem?_eq_none h] at hj; cases hj
    rw [Array.length_toList, hI.1] at h1
    exact h1
  obtain ⟨t, ht⟩ := hI.2 j v (by rw [← hj, Array.getElem?_toList])
  have e : (row0 n).getD j 0 = 2 + (j : Int) * 2 := by
    unfold row0
    rw [List.getD_eq_getElem?_getD, List.getElem?_map, List.getElem?_range hlt, Option.map_some, Option.getD_some]
  rw [e]
  exact ⟨t, ht⟩
end
section
variable {prog : Program} {w : World} {A : Around} {E : Value → Shared → Prop} {s : Shared} {value slice : Expr} {t : Tok} {h₀ : Heap} {L D : Addr} {m : Str → Option Value} {news : List (Addr × Obj)} {Q : Value → Shared → Prop} {l : List Nat} {x : Str}
theorem bool_item {bs : List Bool} {c : Nat} {k : Int} {u : Tok} (N : News h₀ L s.heap news) (hm : (D, listOf (bs.map Value.bool).toArray c) ∈ news) (h0 : 0 ≤ k) (h1 : k < bs.length) (hz : bs.length ≤ 1000) (h : Q (.bool (bs.getD k.toNat false)) s)
    (hs : subscripted slice false (.ref D) (.int k u) = operate [.ref D, .int k u] (getItem (.ref D) (.int k u)) := by with_unfolding_all rfl) :
    wpAny (model prog w) A (subscriptTail value slice (.ref D) (.int k u)) Q E s := by
  have hl : s.heap.IsList D (bs.map Value.bool).toArray := ⟨_, (N _ hm).1, rfl, c, rfl⟩
  refine tail_any hl.typeIs slot_list_getitem.lookup (wpAny_getItem_list hl h0 (by omega) (x := .bool (bs.getD k.toNat false)) ?_ h) hs
  have : k.toNat < bs.length := by omega
  simp [List.getD_eq_getElem?_getD, this]
theorem it_const {j : Int} {uj : Tok} (hx : x = ofL l) (hz : l.length ≤ 1000) (h0 : 0 ≤ j) (h1 : j < (l.length : Int)) (h : Q (.str (ofL [l.getD j.toNat 0]) s.toks) { s with toks := s.toks + 1 })
    (hs : subscripted slice false (.str x t) (.int j uj) = operate [.str x t, .int j uj] (getItem (.str x t) (.int j uj)) := by with_unfolding_all rfl)
    (ht : ∀ r, letTemporaryGo value (.str x t) r = pure () := by intro _; with_unfolding_all rfl) :
    wpAny (model prog w) A (subscriptTail value slice (.str x t) (.int j uj)) Q E s := by
  subst hx
  exact it_pos hz h0 h1 h hs ht
end
theorem up8 : ∀ i, i < 8 → ofL [[65, 66, 67, 68, 69, 70, 71, 72].getD (0 + ((i : Nat) : Int)).toNat 0] = ofL [65 + i] := by
  intro i hi
  have : i = 0 ∨ i = 1 ∨ i = 2 ∨ i = 3 ∨ i = 4 ∨ i = 5 ∨ i = 6 ∨ i = 7 := by omega
  rcases this with h | h | h | h | h | h | h | h <;> subst h <;> rfl
theorem low8 : ∀ i, i < 8 → ofL [[97, 98, 99, 100, 101, 102, 103, 104].getD (0 + ((i : Nat) : Int)).toNat 0] = ofL [97 + i] := by
  intro i hi
  have : i = 0 ∨ i = 1 ∨ i = 2 ∨ i = 3 ∨ i = 4 ∨ i = 5 ∨ i = 6 ∨ i = 7 := by omega
  rcases this with h | h | h | h | h | h | h | h <;> subst h <;> rfl
theorem up_is : Str.ofString "ABCDEFGH" = ofL [65, 66, 67, 68, 69, 70, 71, 72] := by decide +kernel
theorem low_is : Str.ofString "abcdefgh" = ofL [97, 98, 99, 100, 101, 102, 103, 104] := by decide +kernel
theorem up_at {i : Nat} (hi : i < 8) : Txt.item (Str.ofString "ABCDEFGH") (0 + (i : Int)) = ofL [65 + i] := by
  rw [up_is, item_pos _ (by omega) (by show _ < (8 : Int); omega)]
  exact up8 i hi
theorem low_at {i : Nat} (hi : i < 8) : Txt.item (Str.ofString "abcdefgh") (0 + (i : Int)) = ofL [97 + i] := by
  rw [low_is, item_pos _ (by omega) (by show _ < (8 : Int); omega)]
  exact low8 i hi
/-- the sign of letter i -/
def sg (bs : List Bool) (i : Nat) : Nat := if bs.getD i false = true then 65 + i else 97 + i
inductive TxtAre : List Value → List (List Nat) → Prop
  | nil : TxtAre [] []
  | cons (l : List Nat) (t : Tok) {vs ls} : TxtAre vs ls → TxtAre (.str (ofL l) t :: vs) (l :: ls)
theorem TxtAre.strs : ∀ {vs : List Value} {ls : List (List Nat)}, TxtAre vs ls → StrsAre vs (ls.map ofL)
  | _, _, .nil => .nil
  | _, _, .cons l t r => .cons (ofL l) t r.strs
theorem empty_is : Str.ofString "" = ofL [] := by decide +kernel
theorem tick_is : Str.ofString "'" = ofL [39] := by decide +kernel
theorem dash_is : Str.ofString "-" = ofL [45] := by decide +kernel
theorem joinL (sep : List Nat) : ∀ (ls : List (List Nat)), Str.join (ofL sep) (ls.map ofL) = ofL ((ls.intersperse sep).flatten)
  | [] => rfl
  | [a] => by simp [Str.join]
  | a :: b :: r => by
    have ih := joinL sep (b :: r)
    show ofL a ++ ofL sep ++ Str.join (ofL sep) ((b :: r).map ofL) = _
    rw [ih, ofL_append, ofL_append]
    simp
section
variable {prog : Program} {w : World} {A : Around} {E : Value → Shared → Prop} {s : Shared} {value slice : Expr} {t u : Tok} {h₀ : Heap} {L D : Addr} {m : Str → Option Value} {news : List (Addr × Obj)} {Q : Value → Shared → Prop} {x y : Str}
theorem join_ofL {vs : List Value} {c : Nat} {sep r : List Nat} {ls : List (List Nat)} (N : News h₀ L s.heap news) (hm : (D, listOf vs.toArray c) ∈ news) (hx : x = ofL sep) (hi : TxtAre vs ls) (hr : (ls.intersperse sep).flatten = r)
    (hz : ((ls.map ofL).map (·.length)).sum + (ls.map ofL).length * (ofL sep).length ≤ 16777216)
    (h : ∀ t' k, Q (.str (ofL r) t') { s with toks := k }) : wpAny (model prog w) A (call (.builtin "str.join") [.str x t, .ref D]) Q E s := by
  subst hx hr
  have hl : s.heap.IsList D vs.toArray := ⟨_, (N _ hm).1, rfl, c, rfl⟩
  refine join_list hl (by simpa using hi.strs) hz fun t' k => ?_
  have e : Txt.join (ofL sep) (ls.map ofL) = ofL ((ls.intersperse sep).flatten) := (StrLaws.glued_eq_join _ _).trans (joinL sep ls)
  rw [e]
  exact h t' k
theorem add_ofL {a b r : List Nat} (hx : x = ofL a) (hy : y = ofL b) (hr : a ++ b = r) (hz : a.length + b.length ≤ 1000) (h : ∀ t' k, Q (.str (ofL r) t') { s with toks := k }) : wpAny (model prog w) A (binaryOp .Add (.str x t) (.str y u)) Q E s := by
  subst hx hy hr
  refine SBL.add (fun t' k _ => ?_) (by rw [ofL_len, ofL_len, sizeLine_eq]; omega)
  rw [ofL_append]
  exact h t' k
end
def lp0 (bs : List Bool) (f : Int) : List Nat := if f = 2 then [sg bs 0, sg bs 1] else [sg bs 0, sg bs 1, sg bs 2]
def lp1 (bs : List Bool) (f : Int) : List Nat := if f = 2 then [sg bs 2, sg bs 3, sg bs 4] else [sg bs 3, sg bs 4, sg bs 5]
def lp2 (bs : List Bool) (f : Int) : List Nat := if f = 2 then [sg bs 5, sg bs 6, 39, sg bs 7] else [sg bs 6, 39, sg bs 7]
section
variable {prog : Program} {w : World} {A : Around} {E : Value → Shared → Prop} {s : Shared} {t u v : Tok} {h₀ : Heap} {L D : Addr} {m : Str → Option Value} {news : List (Addr × Obj)} {Q : Value → Shared → Prop} {x y : Str} {k : Int} {a b c : Str}
theorem split3 (hF : Fr h₀ L s.heap m) (hN : News h₀ L s.heap news) (hy : (y.length == 0) = false) (hk : (decide (k < -(2 ^ 63 : Int)) || decide (k ≥ 2 ^ 63)) = false) (hs : Txt.splitMax x y k = [a, b, c]) (hsz : x.length ≤ 1000)
    (h : ∀ D t0 t1 t2 h' tk, Fr h₀ L h' m → News h₀ L h' ((D, listOf [Value.str a t0, Value.str b t1, Value.str c t2].toArray 0) :: news) → (∀ p ∈ news, p.1 < D) → Q (.ref D) { s with heap := h', toks := tk }) :
    wpAny (model prog w) A (call (.builtin "str.split") [.str x t, .str y u, .int k v]) Q E s := by
  refine splitN2A hF hN hy hk (fun l h' tk e _ _ _ F N => ?_) (by rw [sizeLine_eq]; omega)
  rw [hs] at e
  match l, e with
  | [(_, t0), (_, t1), (_, t2)], e =>
    simp only [List.map_cons, List.map_nil, List.cons.injEq, and_true] at e
    obtain ⟨rfl, rfl, rfl⟩ := e
    exact h _ t0 t1 t2 h' tk F N (fun p hp => Heap.lt_size (hN p hp).1)
end
end Mine
end
section -- C1
open PySem PySem.W PyProof.Rows
namespace Mine
set_option maxHeartbeats 1000000 in
theorem subst_ok (w : World) (mean : PySem.ExcName → Option Value) (mg mb : Str → Option Value) (x y : Str) (tx ty : Tok) (hx : x.length ≤ 1) (hy : y.length ≤ 1) :
   MyClaim 2 20 Challenge.rw_sn0016_01.row.prog w (hd.heap_39 w.params) hd.view_39 (looseW hd.view_39 [Str.ofString "COMPILER_FLAG_NAMES"]) mean mg mb 21 [.str x tx, .str y ty] (fun t => .int (substC x y) t) := by
  w_top off
  k_fill
  dsimp only [MyClaim, MyRet]
  intros
  rename_i hret
  refine wpAny_call ?_
  k_dflt cell_enter
  k_steps
  all_goals (refine cb_retI hret ?_ (by k_asm) (by k_asm))
  all_goals (unfold substC; simp only [*, if_true, if_false, Bool.false_eq_true])
theorem subst_call {w : World} {mean : PySem.ExcName → Option Value} {mg mb : Str → Option Value} {c d : Nat} {tx ty : Tok} {dp un : Nat} {gd : Option (List Code)} {cn : Str} {cs : Scope} {a : Addr} {ccd : Value} {cl : List (Str × Addr)} {outer : List Env} {A₀ : Around} {base h₀ : Heap} {L : Addr} {m : Str → Option Value} {news : List (Addr × Obj)} {s : Shared} {Q E : Value → Shared → Prop}
    (B : Below A₀ base outer h₀) (F : Fr h₀ L s.heap m) (X : (hd.heap_39 w.params).In h₀) (N : News h₀ L s.heap news) (T : Top hd.view_39 (looseW hd.view_39 [Str.ofString "COMPILER_FLAG_NAMES"]) mean mg mb h₀) (hk : cs.kind = .function)
    (hd : dp + 2 < recursionLimit) (hu : un + 20 < cLine)
    (ret : ∀ (t : Tok) (h' : Heap) (tk' : Nat), Fr h₀ L h' m → News h₀ L h' news → (0 ≤ substC (ofL [c]) (ofL [d]) ∧ substC (ofL [c]) (ofL [d]) ≤ 2) → Q (.int (substC (ofL [c]) (ofL [d])) t) { s with heap := h', toks := tk' }) :
    wpAny (model Challenge.rw_sn0016_01.row.prog w) (ktrTop dp un gd cn cs L a ccd cl outer) (call (.ref 21) [.str (ofL [c]) tx, .str (ofL [d]) ty]) Q E s :=
  subst_ok w mean mg mb _ _ tx ty (by rw [ofL_len]; exact Nat.le_refl 1) (by rw [ofL_len]; exact Nat.le_refl 1) dp un gd cn cs a ccd cl outer A₀ base h₀ L m news s Q E B F X N T hk hd hu (fun t h' tk' f n => ret t h' tk' f n (substC_nn _ _))
end Mine
end
section -- C2
open PySem PySem.W PyProof.Rows
namespace Mine
theorem take_len {l : List Nat} {k : Int} (h0 : k ≤ 0) (h1 : -(l.length : Int) ≤ k) : ((l.take (l.length + k).toNat).length : Int) = l.length + k := by
  rw [List.length_take]; omega
local macro_rules | `(tactic| kpt_turns) => `(tactic| (first | (k_unfold; (try dsimp only)) | (k_end; wrow_close) | walk1 | (dsimp only; walk1) | (leave1; walk_say "STEP leave1"; try dsimp only) | fail "no step"))
local macro_rules | `(tactic| kaf_suf) => `(tactic| ((case z => omega); (case h0 => omega); (case h1 => omega)))
local macro_rules | `(tactic| kfm_turns) => `(tactic| (k_whole; intro h' t' k' F' N'; (try k_sweep)))
local macro_rules | `(tactic| kaf_pre) => `(tactic| ((case F => k_asm); (case N => k_asm)))
local macro_rules | `(tactic| walk_at "subscriptTail Name Slice str ref") => `(tactic| (k_here; first
  | ((with_reducible show wpAny _ _ (subscriptTail _ (Expr.Slice (some _) none none _) (Value.str (ofL _) _) (Value.ref _)) _ _ _); with_reducible refine' sl_from (s := ⟨_, _, _, _, _⟩) ?F ?N ?z ?h0 ?h1 ?_; kaf_pre; kaf_suf; kfm_turns)
  | ((with_reducible show wpAny _ _ (subscriptTail _ (Expr.Slice none (some _) none _) (Value.str (ofL _) _) (Value.ref _)) _ _ _); with_reducible refine' sl_neg (s := ⟨_, _, _, _, _⟩) ?F ?N ?z ?h0 ?h1 ?_; kaf_pre; kaf_suf; kfm_turns)
  | ((with_reducible show wpAny _ _ (subscriptTail _ (Expr.Slice none (some _) none _) (Value.str (ofL _) _) (Value.ref _)) _ _ _); with_reducible refine' sl_nn (s := ⟨_, _, _, _, _⟩) ?F ?N ?z ?_; kaf_pre; (case z => omega); kfm_turns)
  | fail "my slice"))
local macro_rules | `(tactic| walk_at "subscriptTail Name Name str int") => `(tactic| (k_here; (with_reducible show wpAny _ _ (subscriptTail _ _ (Value.str (ofL _) _) (Value.int _ _)) _ _ _); refine' it_pos ?z ?h0 ?h1 ?_; kaf_suf))
local macro_rules | `(tactic| walk_at "subscriptTail Name BinOp str int") => `(tactic| (k_here; (with_reducible show wpAny _ _ (subscriptTail _ _ (Value.str (ofL _) _) (Value.int _ _)) _ _ _); refine' it_neg ?z ?h0 ?h1 ?_; kaf_suf))
local macro_rules | `(tactic| walk_at "truthy str") => `(tactic| (k_here; first
  | ((with_reducible show wpAny _ _ (truthy (Value.str (ofL (List.drop _ _)) _)) _ _ _); refine' tr_drop ?z ?h0 ?h1 ?_; kaf_suf)
  | ((with_reducible show wpAny _ _ (truthy (Value.str (ofL (List.take _ _)) _)) _ _ _); refine' tr_take ?z ?h0 ?h1 ?_; kaf_suf)
  | ((with_reducible show wpAny _ _ (truthy (Value.str (ofL _) _)) _ _ _); refine' tr_plain ?z ?_; (case z => omega))))
local macro_rules | `(tactic| walk_at "call builtin:len") => `(tactic| (k_here; (with_reducible show wpAny _ _ (call (Value.builtin _) [Value.str (ofL _) _]) _ _ _); refine' len_ofL ?z ?_; (case z => omega)))
local macro_rules | `(tactic| walk_at "call type:list") => `(tactic| (k_here; (with_reducible show wpAny _ _ (call (Value.type _) [Value.ref _]) _ _ _); (rename IsRange _ _ _ _ _ _ _ _ => rgX); refine' list_range2 ?k0 ?k1 ?k2 ?k3 ?k4 ?_; (case k0 => exact rfl); (case k1 => k_asm); (case k2 => k_asm); (case k3 => exact rgX); (case k4 => omega); k_whole; intro D' vs' c' h' tk' F' N' l1 hI'; (try k_lt l1); (try k_sweep)))
local macro_rules | `(tactic| walk_at "call ref") => `(tactic| (k_here; (with_reducible show wpAny _ _ (call (Value.ref 21) [Value.str (ofL _) _, Value.str (ofL _) _]) _ _ _); k_dflt (refine' subst_call ?k1 ?k2 ?k3 ?k4 ?k5 ?k6 ?k7 ?k8 ?_; (case k1 => k_asm); (case k2 => k_asm); (case k3 => k_asm); (case k4 => k_asm); (case k5 => k_asm); (case k6 => first | exact rfl | assumption); (case k7 => first | omega | ktr_room); (case k8 => first | omega | ktr_units)); intro t9 h9 tk9 F9 N9 b9; (try dsimp only); (try k_fold)))
local macro_rules | `(tactic| walk_at "setItem ref int") => `(tactic| (k_here; (with_reducible show wpAny _ _ (setItem (Value.ref _) (Value.int _ _) (Value.int _ _)) _ _ _); k_dflt (refine' ksa_set ?k1 ?k2 ?k3 ?k4 ?k5 ?k6 ?k7 ?_; (case k1 => k_asm); (case k2 => k_asm); (case k3 => (refine' Upd.head ?a; (case a => assumption))); (case k4 => with_reducible assumption); (case k5 => omega); (case k6 => omega); (case k7 => omega); k_whole); intro h' F' N' hi' hl' hs'; (try k_sweep)))
local macro_rules | `(tactic| ktr_unf) => `(tactic| repeat' ((fail_if_success (with_reducible show wpAny _ _ (exec (Stmt.While _ _ _ _) _) _ _ _)); (fail_if_success (with_reducible show wpAny _ _ (pyIter _) _ _ _)); (fail_if_success (with_reducible show wpAny _ _ (exec (Stmt.If _ (List.cons (Stmt.Assign (List.cons (Expr.Tuple _ _ _) _) _ _) _) _ _) _) _ _ _)); (fail_if_success (with_reducible show wpAny _ _ (eval (Expr.Subscript _ (Expr.Slice none (some (Expr.BoolOp _ _ _)) none _) _) _) _ _ _)); (fail_if_success (with_reducible show InvEndN _ _ _ _ _ _ _)); kpt_turns))
local macro_rules | `(tactic| ktn_open) => `(tactic| repeat' ((fail_if_success (with_reducible show KJoinC _ _ _ _ _ _ _ _)); (fail_if_success (with_reducible show JoinStr _ _ _ _ _ _ _ _)); (fail_if_success (with_reducible show JoinAB _ _ _ _ _ _ _ _ _ _ _)); kpt_turns))
set_option maxHeartbeats 1000000 in
theorem lev_ok (w : World) (mean : PySem.ExcName → Option Value) (mg mb : Str → Option Value) (a b : List Nat) (tx ty tz : Tok) (hx : a.length ≤ 8) (hy : b.length ≤ 8) :
   MyClaim 4 40 Challenge.rw_sn0016_01.row.prog w (hd.heap_39 w.params) hd.view_39 (looseW hd.view_39 [Str.ofString "COMPILER_FLAG_NAMES"]) mean mg mb 28 [.str (ofL a) tx, .str (ofL b) ty, .int 8 tz] (fun t => .int (lev a b) t) := by
  k_with_none
  w_top off
  k_fill
  dsimp only [MyClaim, MyRet]
  intro dp0 un0 gd0 cn0 cs0 a0 ccd0 cl0 outer0 A00 base0 h00 L0 m0 news s0 Q0 E0 B0 F0 X0 N0 T0 hk0 hdp0 hun0 hret
  refine wpAny_call ?_
  k_dflt cell_enter
  ktr_unf
  · (rename (_ == _) = _ => hab)
    rw [ofL_beq] at hab
    have e : lev a b = 0 := by unfold lev; rw [if_pos (eq_of_beq hab)]
    exact cb_retI hret e.symm (by k_asm) (by k_asm)
  (rename (_ == _) = _ => hab)
  rw [ofL_beq] at hab
  have elev : lev a b = levMid (a.drop (lcp a b)) (b.drop (lcp a b)) := by unfold lev; rw [if_neg (ne_of_beq_false hab)]
  clear hab
  (rename Fr _ _ _ _ => F1); (rename News _ _ _ _ => N1)
  with_unfolding_all refine while_up (i := Str.ofString "pre") (K := min a.length b.length) (c := preC a b) F1 N1 (by rfl) ⟨by omega, by simp [preC]; omega⟩ ?gtest ?gturn ?done
  case gtest =>
    intro k t h₁ tk₁ hk hK F N
    have hKa := Int.le_trans hK (Int.min_le_left _ _)
    have hKb := Int.le_trans hK (Int.min_le_right _ _)
    clear hK
    ktn_open
    all_goals (refine ⟨?_, ⟨_, _, rfl, by k_asm, by k_asm⟩⟩)
    all_goals (first | exact pre_r (by omega) (by omega) (by assumption) | exact pre_f (by omega))
  case gturn =>
    intro k t h₁ tk₁ hk hK hc F N
    have hKa := Int.lt_of_lt_of_le hK (Int.min_le_left _ _)
    have hKb := Int.lt_of_lt_of_le hK (Int.min_le_right _ _)
    clear hK
    k_steps
  case done =>
    intro k t h' tk hk hK hall hc F N
    have hKa := Int.le_trans hK (Int.min_le_left _ _)
    have hKb := Int.le_trans hK (Int.min_le_right _ _)
    clear hK
    ktr_unf
    (rename Fr _ _ _ _ => F1); (rename News _ _ _ _ => N1)
    have ek := preC_lcp hk hall hc
    have ek' : lcp a b = k.toNat := by omega
    rw [ek'] at elev
    clear hall hc
    have hl1 : ((a.drop k.toNat).length : Int) = a.length - k := by rw [List.length_drop]; omega
    have hl2 : ((b.drop k.toNat).length : Int) = b.length - k := by rw [List.length_drop]; omega
    generalize ea : a.drop k.toNat = a1 at F1 hl1 elev ⊢
    generalize eb : b.drop k.toNat = b1 at F1 hl2 elev ⊢
    with_unfolding_all refine while_down (i := Str.ofString "post") (K := -min (a1.length : Int) b1.length) (c := postC a1 b1) F1 N1 (by rfl) ⟨by omega, by simp [postC]; omega⟩ ?gtest ?gturn ?done
    case gtest =>
      intro k t h₁ tk₁ hk hK F N
      have hKc := Int.le_trans (Int.neg_le_neg (Int.min_le_left _ _)) hK
      have hKd := Int.le_trans (Int.neg_le_neg (Int.min_le_right _ _)) hK
      clear hK
      ktn_open
      all_goals (refine ⟨?_, ⟨_, _, rfl, by k_asm, by k_asm⟩⟩)
      all_goals (first | exact post_r (by omega) (by omega) (by assumption) | exact post_f (by omega) | (exfalso; omega))
    case gturn =>
      intro k t h₁ tk₁ hk hK hc F N
      have hKc := Int.lt_of_le_of_lt (Int.neg_le_neg (Int.min_le_left _ _)) hK
      have hKd := Int.lt_of_le_of_lt (Int.neg_le_neg (Int.min_le_right _ _)) hK
      clear hK
      k_steps
    case done =>
      intro k2 t h' tk hk2 hK2 hall hc F N
      have hKc := Int.le_trans (Int.neg_le_neg (Int.min_le_left _ _)) hK2
      have hKd := Int.le_trans (Int.neg_le_neg (Int.min_le_right _ _)) hK2
      clear hK2
      have ek2 := postC_lcp hk2 hall hc
      have ek3 : a1.length - lcp a1.reverse b1.reverse = (a1.length + k2).toNat := by omega
      have ek4 : b1.length - lcp a1.reverse b1.reverse = (b1.length + k2).toNat := by omega
      unfold levMid at elev
      rw [ek3, ek4] at elev
      clear hall hc
      ktr_unf
      (rename Fr _ _ _ _ => F1); (rename News _ _ _ _ => N1)
      refine join_str (X := ofL (a1.take (a1.length + k2).toNat)) F1 N1 ?h ?k
      case h =>
        ktn_open
        all_goals refine JoinStr.mk' ?_ (by k_asm) (by k_asm)
        all_goals first | rfl | (congr 1; rw [List.take_of_length_le (by omega)])
      case k =>
        intro ua ha tka F1 N1
        ktr_unf
        (rename Fr _ _ _ _ => F1); (rename News _ _ _ _ => N1)
        refine join_str (X := ofL (b1.take (b1.length + k2).toNat)) F1 N1 ?h ?k
        case h =>
          ktn_open
          all_goals refine JoinStr.mk' ?_ (by k_asm) (by k_asm)
          all_goals first | rfl | (congr 1; rw [List.take_of_length_le (by omega)])
        case k =>
          intro ub hb tkb F1 N1
          have hl3 : ((a1.take (a1.length + k2).toNat).length : Int) = a1.length + k2 := take_len hk2 hKc
          have hl4 : ((b1.take (b1.length + k2).toNat).length : Int) = b1.length + k2 := take_len hk2 hKd
          generalize ea2 : a1.take (a1.length + k2).toNat = a2 at F1 hl3 elev ⊢
          generalize eb2 : b1.take (b1.length + k2).toNat = b2 at F1 hl4 elev ⊢
          clear ea2 eb2
          unfold levCut at elev
          ktr_unf
          · have h1 : ¬ (a2.length = 0 ∨ b2.length = 0) := by omega
            rw [if_neg h1] at elev
            (rename Fr _ _ _ _ => F1); (rename News _ _ _ _ => N1)
            refine join_ab (Str.ofString "b") (Str.ofString "a") (X := ofL (if b2.length < a2.length then a2 else b2)) (Y := ofL (if b2.length < a2.length then b2 else a2)) F1 N1 ?h ?k
            case h =>
              ktn_open
              · rw [if_pos (by omega), if_pos (by omega)]
                exact JoinAB.mk' (t := ua) (u := ub) (by k_asm) (by k_asm) ⟨by rfl, by rfl, fun z h1 h2 => by simp [h1, h2]⟩ (fun p hp => List.mem_cons_of_mem _ hp)
              · rw [if_neg (by omega), if_neg (by omega)]
                exact JoinAB.mk' (t := ub) (u := ua) (by k_asm) (by k_asm) ⟨by rfl, by rfl, fun z h1 h2 => rfl⟩ (fun p hp => hp)
            case k =>
              intro vb va h2 tk2 F2 N2
              have q : 1 ≤ (if b2.length < a2.length then b2 else a2).length ∧ (if b2.length < a2.length then b2 else a2).length ≤ (if b2.length < a2.length then a2 else b2).length ∧ (if b2.length < a2.length then a2 else b2).length ≤ 8 := by split <;> omega
              generalize ea3 : (if b2.length < a2.length then b2 else a2) = a3 at F2 elev q ⊢
              generalize eb3 : (if b2.length < a2.length then a2 else b2) = b3 at F2 elev q ⊢
              clear ea3 eb3
              obtain ⟨q1, q2, q3⟩ := q
              unfold levDP at elev
              ktr_unf
              · exact cb_retI hret (by rw [elev, if_pos (by omega)]; rfl) (by k_asm) (by k_asm)
              rw [if_neg (by omega)] at elev
              (rename Fr _ _ _ _ => F3); (rename News _ _ _ _ => N3); (rename IsRange _ _ _ _ _ _ _ _ => R3); (rename IntsAre _ _ => I3)
              rename_i D3 vs3 c3 _ _ l3 _ _ _ _ _ _ _ _ _ _
              have sm3 : Builtin.Range.small 0 (b3.length : Int) 1 = true := small_one (by omega) (by omega) (by omega) (by omega)
              have sz3 : Builtin.Range.rangeSize 0 (b3.length : Int) 1 = ((b3.length : Nat) : Int) := by rw [rangeSize_nat]; omega
              have hne : ∀ p ∈ news, p.1 ≠ D3 := fun p hp e => Nat.lt_irrefl _ (e ▸ l3 p hp)
              with_unfolding_all refine kst_range (σ := List Int × List Value × Int × Tok) (fun c => (D3, listOf c.2.1.toArray c3) :: news) (fun c => [(Str.ofString "result", .int c.2.2.1 c.2.2.2)]) (fun c => IntsAre c.2.1 c.1) [Str.ofString "bchar", Str.ofString "distance", Str.ofString "minimum", Str.ofString "index", Str.ofString "substitute", Str.ofString "insert_delete"] (fun pre c => outerN a3 b3 pre.length = some (c.1, c.2.2.1)) (row0 a3.length, vs3, 0, ?tk3) (by rfl) R3 sm3 sz3 F3 N3 I3 ?hk (by rfl) ?turn ?done
              case hk => exact List.forall_mem_cons.mpr ⟨by rfl, List.forall_mem_nil _⟩
              case turn =>
                intro c pre k t u h tk own hk hlt hoff hf hp F N
                obtain ⟨row, vs, res, tr⟩ := c
                dsimp only at hf hp F N
                simp only [List.cons_append] at N
                have hne2 : ∀ p ∈ news ++ own, p.1 ≠ D3 := fun p hp => by
                  rcases List.mem_append.mp hp with hp | hp
                  · exact hne p hp
                  · exact hoff p hp D3 (List.mem_cons_self)
                have hl5 := outerN_len _ _ _ _ hp
                dsimp only at hl5
                ktr_unf
                (rename Fr _ _ _ _ => F4); (rename News _ _ _ _ => N4); (rename IsRange _ _ _ _ _ _ _ _ => R4)
                have sm4 : Builtin.Range.small 0 (a3.length : Int) 1 = true := small_one (by omega) (by omega) (by omega) (by omega)
                have sz4 : Builtin.Range.rangeSize 0 (a3.length : Int) 1 = ((a3.length : Nat) : Int) := by rw [rangeSize_nat]; omega
                with_unfolding_all refine kst_range (σ := List Int × List Value × Int × Int × Int × Tok × Tok × Tok) (fun c => (D3, listOf c.2.1.toArray c3) :: (news ++ own)) (fun c => [(Str.ofString "distance", .int c.2.2.1 c.2.2.2.2.2.1), (Str.ofString "result", .int c.2.2.2.1 c.2.2.2.2.2.2.1), (Str.ofString "minimum", .int c.2.2.2.2.1 c.2.2.2.2.2.2.2)]) (fun c => IntsAre c.2.1 c.1) [Str.ofString "substitute", Str.ofString "insert_delete"] (fun pre c => innerN (b3.getD k.toNat 0) a3 row (k * 2) pre.length = (c.1, c.2.2.1, c.2.2.2.1, c.2.2.2.2.1)) (row, vs, k * 2, k * 2, 9223372036854775807, ?tk4, ?tk5, ?tk6) (by rfl) R4 sm4 sz4 F4 N4 hf ?hkB (by rfl) ?turnB ?doneB
                case hkB => exact List.forall_mem_cons.mpr ⟨by rfl, List.forall_mem_cons.mpr ⟨by rfl, List.forall_mem_cons.mpr ⟨by rfl, List.forall_mem_nil _⟩⟩⟩
                case turnB =>
                  intro c2 pre2 k2 t2 u2 h2 tk2 own2 hk2 hlt2 hoff2 hf2 hp2 F2 N2
                  obtain ⟨row2, vs2, dist2, res2, mn2, td2, tr2, tm2⟩ := c2
                  dsimp only at hf2 hp2 F2 N2
                  simp only [List.cons_append] at N2
                  have hne3 : ∀ p ∈ (news ++ own) ++ own2, p.1 ≠ D3 := fun p hp => by
                    rcases List.mem_append.mp hp with hp | hp
                    · exact hne2 p hp
                    · exact hoff2 p hp D3 (List.mem_cons_self)
                  have hl6 := innerN_len (b3.getD k.toNat 0) a3 row (k * 2) pre2.length
                  rw [hp2] at hl6
                  dsimp only at hl6
                  ktr_unf
                  · refine' kst_end (row2.set k2.toNat (pmin (pmin res2 (row2.getD k2.toNat 0) + 2) (dist2 + substC (ofL [b3.getD k.toNat 0]) (ofL [a3.getD k2.toNat 0]))), _, row2.getD k2.toNat 0, (pmin (pmin res2 (row2.getD k2.toNat 0) + 2) (dist2 + substC (ofL [b3.getD k.toNat 0]) (ofL [a3.getD k2.toNat 0]))), (pmin (pmin res2 (row2.getD k2.toNat 0) + 2) (dist2 + substC (ofL [b3.getD k.toNat 0]) (ofL [a3.getD k2.toNat 0]))), _, _, _) (by k_asm) (by k_asm) ?hnA ?hoA ?haA ?hfA ?hkEA ?hrA ?hpA
                    case hfA => assumption
                    case hkEA => exact List.forall_mem_cons.mpr ⟨by rfl, List.forall_mem_cons.mpr ⟨by rfl, List.forall_mem_cons.mpr ⟨by rfl, List.forall_mem_nil _⟩⟩⟩
                    case haA => rfl
                    case hnA => exact fun p hp => (List.mem_cons.mp hp).elim (fun e => e ▸ List.mem_cons_self) fun hp => List.mem_cons_of_mem _ (List.mem_append.mpr (.inl hp))
                    case hoA => exact fun p hp => List.mem_cons_of_mem _ (List.mem_append.mpr (.inr hp))
                    case hrA => (intro z h1 h2 h3; (simp only [List.forall_mem_cons, List.not_mem_nil, false_implies, implies_true, and_true, ne_eq] at h2); (simp only [List.contains_cons, List.contains_nil, Bool.or_false, Bool.or_eq_false_iff, beq_eq_false_iff_ne, ne_eq] at h3); simp [kstB, h1, h2, h3])
                    case hpA => exact inner_turnT hp2 hk2 (by assumption)
                  · refine' kst_end (row2.set k2.toNat (pmin (pmin res2 (row2.getD k2.toNat 0) + 2) (dist2 + substC (ofL [b3.getD k.toNat 0]) (ofL [a3.getD k2.toNat 0]))), _, row2.getD k2.toNat 0, (pmin (pmin res2 (row2.getD k2.toNat 0) + 2) (dist2 + substC (ofL [b3.getD k.toNat 0]) (ofL [a3.getD k2.toNat 0]))), mn2, _, _, _) (by k_asm) (by k_asm) ?hnB ?hoB ?haB ?hfB ?hkEB ?hrB ?hpB
                    case hfB => assumption
                    case hkEB => exact List.forall_mem_cons.mpr ⟨by rfl, List.forall_mem_cons.mpr ⟨by rfl, List.forall_mem_cons.mpr ⟨by rfl, List.forall_mem_nil _⟩⟩⟩
                    case haB => rfl
                    case hnB => exact fun p hp => (List.mem_cons.mp hp).elim (fun e => e ▸ List.mem_cons_self) fun hp => List.mem_cons_of_mem _ (List.mem_append.mpr (.inl hp))
                    case hoB => exact fun p hp => List.mem_cons_of_mem _ (List.mem_append.mpr (.inr hp))
                    case hrB => (intro z h1 h2 h3; (simp only [List.forall_mem_cons, List.not_mem_nil, false_implies, implies_true, and_true, ne_eq] at h2); (simp only [List.contains_cons, List.contains_nil, Bool.or_false, Bool.or_eq_false_iff, beq_eq_false_iff_ne, ne_eq] at h3); simp [kstB, h1, h2, h3])
                    case hpB => exact inner_turnF hp2 hk2 (by assumption)
                case doneB =>
                  intro c2 u2 h2 tk2 hf2 hp2 F2 N2
                  obtain ⟨row2, vs2, dist2, res2, mn2, td2, tr2, tm2⟩ := c2
                  dsimp only at hf2 hp2 F2 N2
                  rw [rangeKs_length] at hp2
                  ktr_unf
                  · have e : lev a b = 8 + 1 := by rw [elev, outer_exit hp hk hlt hp2 (by assumption)]; rfl
                    exact cb_retI hret e.symm (by k_asm) (cb_drop (by k_asm) (fun p hp => List.mem_cons_of_mem _ (List.mem_append.mpr (.inl hp))))
                  · refine' kst_end (row2, vs2, res2, _) (by k_asm) (by k_asm) ?hnC ?hoC ?haC ?hfC ?hkEC ?hrC ?hpC
                    case hfC => exact hf2
                    case hkEC => exact List.forall_mem_cons.mpr ⟨by rfl, List.forall_mem_nil _⟩
                    case haC => rfl
                    case hnC => exact fun p hp => (List.mem_cons.mp hp).elim (fun e => e ▸ List.mem_cons_self) fun hp => List.mem_cons_of_mem _ (List.mem_append.mpr (.inl hp))
                    case hoC => exact fun p hp => List.mem_cons_of_mem _ (List.mem_append.mpr (.inr hp))
                    case hrC => (intro z h1 h2 h3; (simp only [List.forall_mem_cons, List.not_mem_nil, false_implies, implies_true, and_true, ne_eq] at h2); (simp only [List.contains_cons, List.contains_nil, Bool.or_false, Bool.or_eq_false_iff, beq_eq_false_iff_ne, ne_eq] at h3); simp [kstB, h1, h2, h3])
                    case hpC => exact outer_turn hp hk hp2 (by assumption)
              case done =>
                intro c u h tk hf hp F N
                obtain ⟨row, vs, res, tr⟩ := c
                dsimp only at hf hp F N
                rw [rangeKs_length] at hp
                ktr_unf
                have e : lev a b = res := by rw [elev, hp]
                exact cb_retI hret e.symm (by k_asm) (by first | k_asm | exact cb_drop (by k_asm) (fun p hp => List.mem_cons_of_mem _ hp))
          · have e : lev a b = 2 * ((a2.length : Int) + b2.length) := by rw [elev, if_pos (by omega)]
            exact cb_retI hret e.symm (by k_asm) (by k_asm)
          · have e : lev a b = 2 * ((a2.length : Int) + b2.length) := by rw [elev, if_pos (by omega)]
            exact cb_retI hret e.symm (by k_asm) (by k_asm)
end Mine
end
section -- C3
open PySem PySem.W PyProof.Rows
namespace Mine
local macro_rules | `(tactic| walk_at "subscriptTail") => `(tactic| (k_here; (with_reducible show wpAny _ _ (subscriptTail _ _ (Value.ref _) (Value.int _ _)) _ _ _); k_dflt (refine' bool_item ?k1 ?k2 ?k3 ?k4 ?k5 ?_; (case k1 => k_asm); (case k2 => k_mem); (case k3 => omega); (case k4 => omega); (case k5 => omega))))
local macro_rules | `(tactic| walk_at "subscriptTail") => `(tactic| (k_here; first
  | ((with_reducible show wpAny _ _ (subscriptTail _ _ (Value.str (Str.ofString "ABCDEFGH") _) (Value.int _ _)) _ _ _); refine' it_const up_is ?k3 ?k4 ?k5 ?_; (case k3 => decide); (case k4 => omega); (case k5 => (show _ < (8 : Int); omega)))
  | ((with_reducible show wpAny _ _ (subscriptTail _ _ (Value.str (Str.ofString "abcdefgh") _) (Value.int _ _)) _ _ _); refine' it_const low_is ?k3 ?k4 ?k5 ?_; (case k3 => decide); (case k4 => omega); (case k5 => (show _ < (8 : Int); omega)))))
local macro_rules | `(tactic| walk_at "call builtin:str.join") => `(tactic| (k_here; (with_reducible show wpAny _ _ (call (Value.builtin "str.join") [Value.str _ _, Value.ref _]) _ _ _); k_dflt (refine' join_ofL ?N ?hm ?hx ?hi ?hr ?hz ?_; (case N => k_asm); (case hm => k_mem); (case hx => first | exact empty_is | exact tick_is); (case hi => repeat' (first | exact TxtAre.nil | refine' TxtAre.cons _ _ ?_)); (case hr => ((simp only [List.intersperse, List.flatten_cons, List.flatten_nil, List.cons_append, List.nil_append, List.append_nil]); exact rfl)); (case hz => exact Nat.le_of_ble_eq_true rfl)); intro t' k'))
local macro_rules | `(tactic| walk_at "binaryOp Add str str") => `(tactic| (k_here; (with_reducible show wpAny _ _ (binaryOp _ (Value.str _ _) (Value.str _ _)) _ _ _); k_dflt (refine' add_ofL ?hx ?hy ?hr ?hz ?_; (case hx => first | exact tick_is | with_reducible exact rfl); (case hy => first | exact tick_is | with_reducible exact rfl); (case hr => ((simp only [List.cons_append, List.nil_append, List.append_nil]); exact rfl)); (case hz => exact Nat.le_of_ble_eq_true rfl)); intro t' k'))
local macro_rules | `(tactic| k_mem) => `(tactic| assumption)
local macro_rules | `(tactic| ktr_unf) => `(tactic| repeat' ((fail_if_success (with_reducible show wpAny _ _ (exec (Stmt.Assign _ (Expr.ListComp _ _ _ _) _) _) _ _ _)); (fail_if_success (with_reducible show wpAny _ _ (pyIter _) _ _ _)); (fail_if_success (with_reducible show InvEndN _ _ _ _ _ _ _)); first | (k_unfold; (try dsimp only)) | (k_end; wrow_close) | walk1 | (dsimp only; walk1) | (leave1; walk_say "STEP leave1"; try dsimp only) | fail "no step"))
set_option maxHeartbeats 1000000 in
theorem parts_ok2 (w : World) (mean : PySem.ExcName → Option Value) (mg mb : Str → Option Value) (bs : List Bool) (hb : bs.length = 8) (g : Addr) (cg : Nat) (tf : Tok)
  (dp un : Nat) (gd : Option (List Code)) (cn : Str) (cs : Scope) (a : Addr) (ccd : Value) (cl : List (Str × Addr)) (outer : List Env) (A₀ : Around) (base h₀ : Heap) (L : Addr) (m : Str → Option Value) (news : List (Addr × Obj)) (s : Shared) (Q E : Value → Shared → Prop)
    (B : Below A₀ base outer h₀) (F : Fr h₀ L s.heap m) (X : (hd.heap_39 w.params).In h₀) (N : News h₀ L s.heap news) (T : Top hd.view_39 (looseW hd.view_39 [Str.ofString "COMPILER_FLAG_NAMES"]) mean mg mb h₀) (hk : cs.kind = .function) (hdp : dp + 2 < recursionLimit) (_hun : un + 20 < cLine)
    (hg : (g, listOf (bs.map Value.bool).toArray cg) ∈ news)
    (hret : ∀ (r : Addr) (c : Nat) (t0 t1 t2 : Tok) (h' : Heap) (tk' : Nat), Fr h₀ L h' m → News h₀ L h' ((r, listOf [Value.str (ofL (lp0 bs 2)) t0, Value.str (ofL (lp1 bs 2)) t1, Value.str (ofL (lp2 bs 2)) t2].toArray c) :: news) → (∀ p ∈ news, p.1 < r) → Q (.ref r) { s with heap := h', toks := tk' }) :
     wpAny (model Challenge.rw_sn0016_01.row.prog w) (ktrTop dp un gd cn cs L a ccd cl outer) (call (.ref 62) [.ref g, .int 2 tf]) Q E s := by
  k_with_none
  revert X
  w_top off
  k_fill
  intro X
  refine wpAny_call ?_
  k_dflt (refine' code_defC ?k1 ?k2 ?k3 ?k4 ?k5 ?kA ?kF ?kK ?k6 ?k7 ?k8 ?k9 ?kB ?kD ?_ ?c2 ?c3 ?c4; (case kA => exact rfl); (case kF => exact rfl); (case kK => assumption); (case k1 => k_asm); (case k2 => k_asm); (case k3 => k_asm); (case k4 => k_asm); (case k5 => k_asm); (case k6 => k_is); (case k7 => k_is); (case k8 => ktr_room); (case k9 => exact BindsTo.of_eq rfl); (case kB => exact rfl); (case kD => decide +kernel); (case c2 => exact rfl); (case c3 => exact rfl); (case c4 => exact rfl); k_whole; intro g' L' h' tk' cells' FG' F' N' Y' B' X' T' l1; k_cells Y'; (try simp only [List.cons_append, List.nil_append] at N'); (try dsimp only); (try k_lift B'); (try k_fold))
  ktr_unf
  k_dflt (refine LCg.Assign_ListComp_U (F₀ := by k_asm) (by rfl) (by with_unfolding_all rfl) (by with_unfolding_all rfl) (by decide) (by rfl) (by decide) (by rfl) (by rfl) (by rfl) ?_)
  repeat' ((fail_if_success (show LCg.CompSrc _ _ _ _ _ _ _ _ _ _ _ _ _ _)); first | (k_unfold; (try dsimp only)) | (k_end; wrow_close) | walk1 | (dsimp only; walk1) | fail "no step")
  k_dflt (refine LCg.CompSrc.range (by rfl) (by k_asm) (by k_asm) (by assumption) (by decide) (by rfl) (by exact Nat.le_of_ble_eq_true rfl) ?_)
  intro gA
  refine comp_rest (n := 8) (fun i v => ∃ t, v = Value.str (ofL [sg bs i]) t) ?turn ?fin
  case turn =>
    intro i v I oI C oC D m₂ ys h tk E' hi hv hC hx F N off ne
    obtain ⟨t, hv⟩ := hv
    subst hv
    repeat' ((fail_if_success (with_reducible show LCg.CompEnd _ _ _ _ _ _ _ _ _ _ _ _ _ _)); first | (k_unfold; (try dsimp only)) | (k_end; wrow_close) | walk1 | (dsimp only; walk1) | (leave1; walk_say "STEP leave1"; try dsimp only) | fail "no step")
    · (rename _ = true => ha)
      have e : (0 + (i : Int)).toNat = i := by omega
      rw [e] at ha
      refine' LCg.CompEnd.intro (by k_asm) (by k_asm) _ (fun p hp => hp) off trivial (And.intro rfl (by rw [up_at hi]; unfold sg; rw [if_pos ha]; exact ⟨_, rfl⟩))
    · (rename _ = false => ha)
      have e : (0 + (i : Int)).toNat = i := by omega
      rw [e] at ha
      refine' LCg.CompEnd.intro (by k_asm) (by k_asm) _ (fun p hp => hp) off trivial (And.intro rfl (by rw [low_at hi]; unfold sg; rw [ha, if_neg Bool.false_ne_true]; exact ⟨_, rfl⟩))
  case fin =>
    intro ys hl hR
    obtain ⟨y0, y1, y2, y3, y4, y5, y6, y7, rfl⟩ := list8 hl
    obtain ⟨t0, e0⟩ := hR 0 y0 rfl
    obtain ⟨t1, e1⟩ := hR 1 y1 rfl
    obtain ⟨t2, e2⟩ := hR 2 y2 rfl
    obtain ⟨t3, e3⟩ := hR 3 y3 rfl
    obtain ⟨t4, e4⟩ := hR 4 y4 rfl
    obtain ⟨t5, e5⟩ := hR 5 y5 rfl
    obtain ⟨t6, e6⟩ := hR 6 y6 rfl
    obtain ⟨t7, e7⟩ := hR 7 y7 rfl
    subst e0 e1 e2 e3 e4 e5 e6 e7
    clear hR hl
    unfold LCg.FinA
    intro D h tk F N o1
    ktr_unf
    (rename News h₀ L _ _ => kN); (rename Fr h₀ L _ _ => kF)
    rename_i l1 _ _
    rw [show lp0 bs 2 = [sg bs 0, sg bs 1] from rfl, show lp1 bs 2 = [sg bs 2, sg bs 3, sg bs 4] from rfl, show lp2 bs 2 = [sg bs 5, sg bs 6, 39, sg bs 7] from rfl] at hret
    refine hret _ 0 _ _ _ _ _ kF (news_keep kN (fun p hp => by repeat (first | assumption | refine List.mem_cons_of_mem _ ?_))) ?lt
    case lt => exact ktn_ltOf l1.2.2.2.2.2
set_option maxHeartbeats 1000000 in
theorem parts_ok3 (w : World) (mean : PySem.ExcName → Option Value) (mg mb : Str → Option Value) (bs : List Bool) (hb : bs.length = 8) (g : Addr) (cg : Nat) (tf : Tok)
  (dp un : Nat) (gd : Option (List Code)) (cn : Str) (cs : Scope) (a : Addr) (ccd : Value) (cl : List (Str × Addr)) (outer : List Env) (A₀ : Around) (base h₀ : Heap) (L : Addr) (m : Str → Option Value) (news : List (Addr × Obj)) (s : Shared) (Q E : Value → Shared → Prop)
    (B : Below A₀ base outer h₀) (F : Fr h₀ L s.heap m) (X : (hd.heap_39 w.params).In h₀) (N : News h₀ L s.heap news) (T : Top hd.view_39 (looseW hd.view_39 [Str.ofString "COMPILER_FLAG_NAMES"]) mean mg mb h₀) (hk : cs.kind = .function) (hdp : dp + 2 < recursionLimit) (_hun : un + 20 < cLine)
    (hg : (g, listOf (bs.map Value.bool).toArray cg) ∈ news)
    (hret : ∀ (r : Addr) (c : Nat) (t0 t1 t2 : Tok) (h' : Heap) (tk' : Nat), Fr h₀ L h' m → News h₀ L h' ((r, listOf [Value.str (ofL (lp0 bs 3)) t0, Value.str (ofL (lp1 bs 3)) t1, Value.str (ofL (lp2 bs 3)) t2].toArray c) :: news) → (∀ p ∈ news, p.1 < r) → Q (.ref r) { s with heap := h', toks := tk' }) :
     wpAny (model Challenge.rw_sn0016_01.row.prog w) (ktrTop dp un gd cn cs L a ccd cl outer) (call (.ref 62) [.ref g, .int 3 tf]) Q E s := by
  k_with_none
  revert X
  w_top off
  k_fill
  intro X
  refine wpAny_call ?_
  k_dflt (refine' code_defC ?k1 ?k2 ?k3 ?k4 ?k5 ?kA ?kF ?kK ?k6 ?k7 ?k8 ?k9 ?kB ?kD ?_ ?c2 ?c3 ?c4; (case kA => exact rfl); (case kF => exact rfl); (case kK => assumption); (case k1 => k_asm); (case k2 => k_asm); (case k3 => k_asm); (case k4 => k_asm); (case k5 => k_asm); (case k6 => k_is); (case k7 => k_is); (case k8 => ktr_room); (case k9 => exact BindsTo.of_eq rfl); (case kB => exact rfl); (case kD => decide +kernel); (case c2 => exact rfl); (case c3 => exact rfl); (case c4 => exact rfl); k_whole; intro g' L' h' tk' cells' FG' F' N' Y' B' X' T' l1; k_cells Y'; (try simp only [List.cons_append, List.nil_append] at N'); (try dsimp only); (try k_lift B'); (try k_fold))
  ktr_unf
  k_dflt (refine LCg.Assign_ListComp_U (F₀ := by k_asm) (by rfl) (by with_unfolding_all rfl) (by with_unfolding_all rfl) (by decide) (by rfl) (by decide) (by rfl) (by rfl) (by rfl) ?_)
  repeat' ((fail_if_success (show LCg.CompSrc _ _ _ _ _ _ _ _ _ _ _ _ _ _)); first | (k_unfold; (try dsimp only)) | (k_end; wrow_close) | walk1 | (dsimp only; walk1) | fail "no step")
  k_dflt (refine LCg.CompSrc.range (by rfl) (by k_asm) (by k_asm) (by assumption) (by decide) (by rfl) (by exact Nat.le_of_ble_eq_true rfl) ?_)
  intro gA
  refine comp_rest (n := 8) (fun i v => ∃ t, v = Value.str (ofL [sg bs i]) t) ?turn ?fin
  case turn =>
    intro i v I oI C oC D m₂ ys h tk E' hi hv hC hx F N off ne
    obtain ⟨t, hv⟩ := hv
    subst hv
    repeat' ((fail_if_success (with_reducible show LCg.CompEnd _ _ _ _ _ _ _ _ _ _ _ _ _ _)); first | (k_unfold; (try dsimp only)) | (k_end; wrow_close) | walk1 | (dsimp only; walk1) | (leave1; walk_say "STEP leave1"; try dsimp only) | fail "no step")
    · (rename _ = true => ha)
      have e : (0 + (i : Int)).toNat = i := by omega
      rw [e] at ha
      refine' LCg.CompEnd.intro (by k_asm) (by k_asm) _ (fun p hp => hp) off trivial (And.intro rfl (by rw [up_at hi]; unfold sg; rw [if_pos ha]; exact ⟨_, rfl⟩))
    · (rename _ = false => ha)
      have e : (0 + (i : Int)).toNat = i := by omega
      rw [e] at ha
      refine' LCg.CompEnd.intro (by k_asm) (by k_asm) _ (fun p hp => hp) off trivial (And.intro rfl (by rw [low_at hi]; unfold sg; rw [ha, if_neg Bool.false_ne_true]; exact ⟨_, rfl⟩))
  case fin =>
    intro ys hl hR
    obtain ⟨y0, y1, y2, y3, y4, y5, y6, y7, rfl⟩ := list8 hl
    obtain ⟨t0, e0⟩ := hR 0 y0 rfl
    obtain ⟨t1, e1⟩ := hR 1 y1 rfl
    obtain ⟨t2, e2⟩ := hR 2 y2 rfl
    obtain ⟨t3, e3⟩ := hR 3 y3 rfl
    obtain ⟨t4, e4⟩ := hR 4 y4 rfl
    obtain ⟨t5, e5⟩ := hR 5 y5 rfl
    obtain ⟨t6, e6⟩ := hR 6 y6 rfl
    obtain ⟨t7, e7⟩ := hR 7 y7 rfl
    subst e0 e1 e2 e3 e4 e5 e6 e7
    clear hR hl
    unfold LCg.FinA
    intro D h tk F N o1
    ktr_unf
    (rename News h₀ L _ _ => kN); (rename Fr h₀ L _ _ => kF)
    rename_i l1 _ _
    rw [show lp0 bs 3 = [sg bs 0, sg bs 1, sg bs 2] from rfl, show lp1 bs 3 = [sg bs 3, sg bs 4, sg bs 5] from rfl, show lp2 bs 3 = [sg bs 6, 39, sg bs 7] from rfl] at hret
    refine hret _ 0 _ _ _ _ _ kF (news_keep kN (fun p hp => by repeat (first | assumption | refine List.mem_cons_of_mem _ ?_))) ?lt
    case lt => exact ktn_ltOf l1.2.2.2.2.2
theorem parts_call {w : World} {mean : PySem.ExcName → Option Value} {mg mb : Str → Option Value} {bs : List Bool} {g : Addr} {cg : Nat} {f : Int} {tf : Tok}
  {dp un : Nat} {gd : Option (List Code)} {cn : Str} {cs : Scope} {a : Addr} {ccd : Value} {cl : List (Str × Addr)} {outer : List Env} {A₀ : Around} {base h₀ : Heap} {L : Addr} {m : Str → Option Value} {news : List (Addr × Obj)} {s : Shared} {Q E : Value → Shared → Prop}
    (hg : (g, listOf (bs.map Value.bool).toArray cg) ∈ news) (hb : bs.length = 8) (hf : f = 2 ∨ f = 3)
    (B : Below A₀ base outer h₀) (F : Fr h₀ L s.heap m) (X : (hd.heap_39 w.params).In h₀) (N : News h₀ L s.heap news) (T : Top hd.view_39 (looseW hd.view_39 [Str.ofString "COMPILER_FLAG_NAMES"]) mean mg mb h₀) (hk : cs.kind = .function) (hdp : dp + 2 < recursionLimit) (hun : un + 20 < cLine)
    (hret : ∀ (r : Addr) (c : Nat) (t0 t1 t2 : Tok) (h' : Heap) (tk' : Nat), Fr h₀ L h' m → News h₀ L h' ((r, listOf [Value.str (ofL (lp0 bs f)) t0, Value.str (ofL (lp1 bs f)) t1, Value.str (ofL (lp2 bs f)) t2].toArray c) :: news) → (∀ p ∈ news, p.1 < r) → Q (.ref r) { s with heap := h', toks := tk' }) :
     wpAny (model Challenge.rw_sn0016_01.row.prog w) (ktrTop dp un gd cn cs L a ccd cl outer) (call (.ref 62) [.ref g, .int f tf]) Q E s := by
  rcases hf with rfl | rfl
  · exact parts_ok2 w mean mg mb bs hb g cg tf dp un gd cn cs a ccd cl outer A₀ base h₀ L m news s Q E B F X N T hk hdp hun hg hret
  · exact parts_ok3 w mean mg mb bs hb g cg tf dp un gd cn cs a ccd cl outer A₀ base h₀ L m news s Q E B F X N T hk hdp hun hg hret
end Mine
end
section -- C4
open PySem PySem.W PyProof.Rows
namespace Mine
local macro_rules | `(tactic| walk_at "call builtin:str.split") => `(tactic| (k_here; (with_reducible show wpAny _ _ (call (Value.builtin "str.split") [Value.str _ _, Value.str _ _, Value.int _ _]) _ _ _); (refine' split3 ?F ?N ?hy ?hk ?hs ?hz ?_; (case F => k_asm); (case N => k_asm); (case hy => decide +kernel); (case hk => decide); (case hs => assumption); (case hz => (rw [ofL_len]; omega))); intro D' t' t' t' h' k' F' N' l1))
set_option maxHeartbeats 1000000 in
theorem decode_call {w : World} {mean : PySem.ExcName → Option Value} {mg mb : Str → Option Value} {l a b c : List Nat} {tl : Tok}
  {dp un : Nat} {gd : Option (List Code)} {cn : Str} {cs : Scope} {aa : Addr} {ccd : Value} {cl : List (Str × Addr)} {outer : List Env} {A₀ : Around} {base h₀ : Heap} {L : Addr} {m : Str → Option Value} {news : List (Addr × Obj)} {s : Shared} {Q E : Value → Shared → Prop}
    (hs : Txt.splitMax (ofL l) (Str.ofString "'") 2 = [ofL a, ofL b, ofL c]) (hl : l.length ≤ 1000)
    (B : Below A₀ base outer h₀) (F : Fr h₀ L s.heap m) (X : (hd.heap_39 w.params).In h₀) (N : News h₀ L s.heap news) (T : Top hd.view_39 (looseW hd.view_39 [Str.ofString "COMPILER_FLAG_NAMES"]) mean mg mb h₀) (hk : cs.kind = .function) (hdp : dp + 2 < recursionLimit) (_hun : un + 20 < cLine)
    (hret : ∀ (r : Addr) (k : Nat) (t0 t1 t2 : Tok) (h' : Heap) (tk' : Nat), Fr h₀ L h' m → News h₀ L h' ((r, listOf [Value.str (ofL a) t0, Value.str (ofL b) t1, Value.str (ofL c) t2].toArray k) :: news) → (∀ p ∈ news, p.1 < r) → Q (.ref r) { s with heap := h', toks := tk' }) :
     wpAny (model Challenge.rw_sn0016_01.row.prog w) (ktrTop dp un gd cn cs L aa ccd cl outer) (call (.ref 43) [.str (ofL l) tl]) Q E s := by
  k_with_none
  revert X
  w_top off
  k_fill
  intro X
  refine wpAny_call ?_
  k_dflt cell_enter
  k_steps
  (rename News h₀ L _ _ => kN); (rename Fr h₀ L _ _ => kF)
  exact hret _ 0 _ _ _ _ _ kF kN (by assumption)
end Mine
end
section -- Lem2
open PySem PySem.W PyProof.Rows PySem.Calls
namespace Mine
section
variable {prog : Program} {w : World} {A : Around} {E : Value → Shared → Prop} {s : Shared} {env : Env} {h₀ : Heap} {x : Str} {body orelse : List Stmt} {Q : Flow → Shared → Prop}

def ElseRest (prog : Program) (w : World) (A : Around) (E : Value → Shared → Prop) (h₀ : Heap) (env : Env) (x : Str) (body : List Stmt) (Q : Flow → Shared → Prop) (s : Shared) (I : Addr) (n : Nat) : Nat → Nat → (Str → Option Value) → List (Addr × Obj) → Prop
  | 0, _, _, _ => False
  | k + 1, i, m, news => ∀ t h tk, Fr h₀ env.locals h (fun y => if y = x then some (.int (0 + (i : Int)) t) else m y) →
      News h₀ env.locals h ((I, itR (0 + ((i + 1 : Nat) : Int)) ((n : Int) - ((i + 1 : Nat) : Int))) :: news) →
      wpAny (model prog w) A (execs body env) (UnrPost h₀ env.locals { s with heap := h, toks := tk } I (itR (0 + ((i + 1 : Nat) : Int)) ((n : Int) - ((i + 1 : Nat) : Int))) (ElseRest prog w A E h₀ env x body Q s I n k (i + 1)) Q) E { s with heap := h, toks := tk }
theorem ElseRest.succ {I : Addr} {n k i : Nat} {m : Str → Option Value} {news : List (Addr × Obj)}
    (h : ∀ t h tk, Fr h₀ env.locals h (fun y => if y = x then some (.int (0 + (i : Int)) t) else m y) → News h₀ env.locals h ((I, itR (0 + ((i + 1 : Nat) : Int)) ((n : Int) - ((i + 1 : Nat) : Int))) :: news) →
      wpAny (model prog w) A (execs body env) (UnrPost h₀ env.locals { s with heap := h, toks := tk } I (itR (0 + ((i + 1 : Nat) : Int)) ((n : Int) - ((i + 1 : Nat) : Int))) (ElseRest prog w A E h₀ env x body Q s I n k (i + 1)) Q) E { s with heap := h, toks := tk }) :
    ElseRest prog w A E h₀ env x body Q s I n (k + 1) i m news := h

structure ElseSrc (prog : Program) (w : World) (A : Around) (E : Value → Shared → Prop) (h₀ : Heap) (env : Env) (x : Str) (body : List Stmt) (Q : Flow → Shared → Prop) (xv : Value) (s : Shared) : Prop where
  src : ∃ (r : Addr) (b : Int) (t u v : Tok) (n : Nat) (m : Str → Option Value) (news : List (Addr × Obj)), xv = .ref r ∧ A.handled = none ∧ IsRange s.heap r 0 b 1 t u v ∧ Builtin.Range.small 0 b 1 = true ∧ Builtin.Range.rangeSize 0 b 1 = (n : Int) ∧ Fr h₀ env.locals s.heap m ∧ News h₀ env.locals s.heap news ∧
    ∀ I : Addr, (∀ p ∈ news, p.1 < I) → ElseRest prog w A E h₀ env x body Q s I n n 0 m news

theorem for_else {px pos : Pos} {iter : Expr} {m₀ : Str → Option Value} (_F : Fr h₀ env.locals s.heap m₀) (hx : env.kindOf x = some .local) (hp : (env.scope.kind == .class || (env.scope.kind == .module && env.locals != env.globals)) = false)
    (h : wpAny (model prog w) A (eval iter env) (ElseSrc prog w A E h₀ env x body Q) E s)
    (hs : ∀ x, foldedSetIterable iter env x = pure x := by intro _; rfl)
    (hE : PassesOwn (model prog w) A env E := by passes_own) :
    wpAny (model prog w) A (exec (.For (.Name x px) iter body orelse pos) env) Q E s := by
  refine wpAny_For (wpAny_mono h (fun xv s₁ h₁ => ?_) fun _ _ e => e) hs
  obtain ⟨r, b, t, u, v, n, m, news, rfl, hh, hr, hsm, hn, F, N, rest₀⟩ := h₁.src
  refine wpAny_pyIter_range hr hsm ?_
  have W : Walks prog w A s₁.heap.objs.size [s₁.heap.objs.size] [s₁.heap.objs.size] n (fun i v => i < n ∧ ∃ t, v = .int (0 + i * 1) t)
      (fun i h => IsRangeIter h s₁.heap.objs.size (0 + (i : Nat) * 1) ((n : Int) - (i : Nat)) 1) := (Walks.range hh _ 0 1 n).bound
  have hnew : h₀.get? s₁.heap.objs.size = none := next_is_new F
  have hLI : env.locals ≠ s₁.heap.objs.size := Nat.ne_of_lt F.ns.lt
  refine codeAny_forLoop
    (fun k s' => ∃ h' tk m' news' i, s' = { s₁ with heap := h', toks := tk } ∧ IsRangeIter h' s₁.heap.objs.size (0 + ((i : Nat) : Int) * 1) ((n : Int) - ((i : Nat) : Int)) 1 ∧ Fr h₀ env.locals h' m' ∧ News h₀ env.locals h' news' ∧ (∀ p ∈ news', p.1 ≠ s₁.heap.objs.size) ∧
      ElseRest prog w A E h₀ env x body Q s₁ s₁.heap.objs.size n (n - i) i m' news' ∧ i ≤ n ∧ k = n + 1 - i) ?_ (n + 1)
    ⟨_, s₁.toks, m, news, 0, rfl, ?_, F.push _, fun p hp => ⟨Heap.get?_push_of_some _ (N p hp).1, (N p hp).2⟩, fun p hp => Nat.ne_of_lt (Heap.lt_size (N p hp).1), rest₀ _ fun p hp => Heap.lt_size (N p hp).1, Nat.zero_le _, rfl⟩
  · rintro k s' ⟨h', tk, m', news', i, rfl, hst, F', N', off, R, hi, rfl⟩
    by_cases hlt : i < n
    · obtain ⟨j, hj⟩ : ∃ j, n - i = j + 1 := ⟨n - i - 1, by omega⟩
      rw [hj] at R
      refine W.item i _ _ _ hlt hst fun v h₁ tk₁ hP hst₁ hk₁ => ?_
      obtain ⟨_, tv, rfl⟩ := hP
      have F₁ : Fr h₀ env.locals h₁ m' := ⟨F'.ns.at' fun o e => hk₁ _ o (by simpa using hLI) e, fun b o e => hk₁ b o (fun hm => by rw [List.mem_singleton.mp hm, hnew] at e; cases e) (F'.keep b o e), F'.above⟩
      have N₁ : News h₀ env.locals h₁ news' := fun p hp => ⟨hk₁ _ _ (by simpa using off p hp) (N' p hp).1, (N' p hp).2⟩
      refine wpAny_assign_Name (wpAny_storeName_local hx F₁.ns (fun h₂ hn₂ hs₂ => ?_) hp)
      have F₂ := F₁.set hn₂ hs₂
      have hst₂ : IsRangeIter h₂ s₁.heap.objs.size (0 + (((i + 1 : Nat)) : Int) * 1) ((n : Int) - ((i + 1 : Nat) : Int)) 1 := W.frame _ _ _ hst₁ fun b hb o e => (hs₂.2 b (by rw [List.mem_singleton.mp hb]; exact Ne.symm hLI)).trans e
      rw [Int.mul_one] at F₂
      have hI₂ : h₂.get? s₁.heap.objs.size = some (itR (0 + ((i + 1 : Nat) : Int)) ((n : Int) - ((i + 1 : Nat) : Int))) := by
        have q : h₂.get? s₁.heap.objs.size = _ := hst₂
        rw [Int.mul_one] at q
        exact q
      have N₂ : News h₀ env.locals h₂ ((s₁.heap.objs.size, itR (0 + ((i + 1 : Nat) : Int)) ((n : Int) - ((i + 1 : Nat) : Int))) :: news') := fun p hp => by
        rcases List.mem_cons.mp hp with rfl | hp
        · exact ⟨hI₂, Ne.symm hLI, hnew⟩
        · exact (N₁.set hs₂) p hp
      refine wpAny_passesOwn hE (wpAny_mono (R tv h₂ _ F₂ N₂) (fun f s₃ h₃ => ?_) fun _ _ e => e)
      have fin : UnrEnd h₀ env.locals { s₁ with heap := h₂, toks := tk₁ + 1 } s₁.heap.objs.size (itR (0 + ((i + 1 : Nat) : Int)) ((n : Int) - ((i + 1 : Nat) : Int))) (ElseRest prog w A E h₀ env x body Q s₁ s₁.heap.objs.size n j (i + 1)) s₃ →
          ∃ k', k' < n + 1 - i ∧ ∃ h' tk m' news' i', s₃ = { s₁ with heap := h', toks := tk } ∧ IsRangeIter h' s₁.heap.objs.size (0 + ((i' : Nat) : Int) * 1) ((n : Int) - ((i' : Nat) : Int)) 1 ∧ Fr h₀ env.locals h' m' ∧ News h₀ env.locals h' news' ∧ (∀ p ∈ news', p.1 ≠ s₁.heap.objs.size) ∧
            ElseRest prog w A E h₀ env x body Q s₁ s₁.heap.objs.size n (n - i') i' m' news' ∧ i' ≤ n ∧ k' = n + 1 - i' := by
        rintro ⟨h₄, tk₄, m₄, news₄, rfl, F₄, N₄, off₄, R₄⟩
        refine ⟨n + 1 - (i + 1), by omega, h₄, tk₄, m₄, news₄, i + 1, rfl, ?_, F₄, fun p hp => N₄ p (List.mem_cons_of_mem _ hp), off₄, ?_, hlt, rfl⟩
        · have q := (N₄ _ List.mem_cons_self).1
          show h₄.get? s₁.heap.objs.size = _
          rw [Int.mul_one]
          exact q
        · rw [show n - (i + 1) = j by omega]
          exact R₄
      cases f with
      | ret v => exact h₃
      | brk => exact h₃
      | next => exact fin h₃
      | cont => exact fin h₃
    · have hin : i = n := by omega
      subst hin
      rw [Nat.sub_self] at R
      exact R.elim
  · show IsRangeIter _ _ _ _ _
    rw [hn]
    simpa using Heap.get?_push_size _ rfl
structure GenSrc (prog : Program) (w : World) (A : Around) (E : Value → Shared → Prop) (h₀ : Heap) (env : Env) (x : Str) (px : Pos) (body : List Stmt) (Q : Flow → Shared → Prop) (xv : Value) (s : Shared) : Prop where
  src : ∃ (L : Addr) (r : Addr) (b : Int) (t u v : Tok) (n : Nat) (m : Str → Option Value) (news : List (Addr × Obj)) (J : Nat → (Str → Option Value) → List (Addr × Obj) → Prop), env.locals = L ∧ xv = .ref r ∧ A.handled = none ∧ IsRange s.heap r 0 b 1 t u v ∧ Builtin.Range.small 0 b 1 = true ∧ Builtin.Range.rangeSize 0 b 1 = (n : Int) ∧ Fr h₀ L s.heap m ∧ News h₀ L s.heap news ∧ J 0 m news ∧
    (∀ (i : Nat) (t : Tok) (m₁ : Str → Option Value) (news₁ : List (Addr × Obj)) (h : Heap) (tk : Nat) (I : Addr), i < n → J i m₁ news₁ → Fr h₀ L h m₁ → News h₀ L h ((I, itR (0 + ((i + 1 : Nat) : Int)) ((n : Int) - ((i + 1 : Nat) : Int))) :: news₁) → (∀ p ∈ news₁, p.1 ≠ I) →
      wpAny (model prog w) A (assign (.Name x px) env (.int (0 + (i : Int)) t)) (fun _ s₂ => wpAny (model prog w) A (execs body env) (UnrPost h₀ L { s with heap := h, toks := tk } I (itR (0 + ((i + 1 : Nat) : Int)) ((n : Int) - ((i + 1 : Nat) : Int))) (J (i + 1)) Q) E s₂) E { s with heap := h, toks := tk }) ∧
    (∀ (m₁ : Str → Option Value) (news₁ : List (Addr × Obj)) (h : Heap) (tk : Nat), J n m₁ news₁ → Fr h₀ L h m₁ → News h₀ L h news₁ → Q .next { s with heap := h, toks := tk })

theorem for_gen {px pos : Pos} {iter : Expr} {m₀ : Str → Option Value} (_F : Fr h₀ env.locals s.heap m₀)
    (h : wpAny (model prog w) A (eval iter env) (GenSrc prog w A E h₀ env x px body Q) E s)
    (hs : ∀ x, foldedSetIterable iter env x = pure x := by intro _; rfl)
    (hE : PassesOwn (model prog w) A env E := by passes_own) :
    wpAny (model prog w) A (exec (.For (.Name x px) iter body [] pos) env) Q E s := by
  refine wpAny_For (wpAny_mono h (fun xv s₁ h₁ => ?_) fun _ _ e => e) hs
  obtain ⟨L, r, b, t, u, v, n, m, news, J, rfl, rfl, hh, hr, hsm, hn, F, N, hJ, turn, done⟩ := h₁.src
  refine wpAny_pyIter_range hr hsm ?_
  have W : Walks prog w A s₁.heap.objs.size [s₁.heap.objs.size] [s₁.heap.objs.size] n (fun i v => i < n ∧ ∃ t, v = .int (0 + i * 1) t)
      (fun i h => IsRangeIter h s₁.heap.objs.size (0 + (i : Nat) * 1) ((n : Int) - (i : Nat)) 1) := (Walks.range hh _ 0 1 n).bound
  have hnew : h₀.get? s₁.heap.objs.size = none := next_is_new F
  have hLI : env.locals ≠ s₁.heap.objs.size := Nat.ne_of_lt F.ns.lt
  refine codeAny_forLoop
    (fun k s' => ∃ h' tk m' news' i, s' = { s₁ with heap := h', toks := tk } ∧ IsRangeIter h' s₁.heap.objs.size (0 + ((i : Nat) : Int) * 1) ((n : Int) - ((i : Nat) : Int)) 1 ∧ Fr h₀ env.locals h' m' ∧ News h₀ env.locals h' news' ∧ (∀ p ∈ news', p.1 ≠ s₁.heap.objs.size) ∧
      J i m' news' ∧ i ≤ n ∧ k = n + 1 - i) ?_ (n + 1)
    ⟨_, s₁.toks, m, news, 0, rfl, ?_, F.push _, fun p hp => ⟨Heap.get?_push_of_some _ (N p hp).1, (N p hp).2⟩, fun p hp => Nat.ne_of_lt (Heap.lt_size (N p hp).1), hJ, Nat.zero_le _, rfl⟩
  · rintro k s' ⟨h', tk, m', news', i, rfl, hst, F', N', off, R, hi, rfl⟩
    have keepF : ∀ h₁ : Heap, (∀ b o, b ∉ [s₁.heap.objs.size] → h'.get? b = some o → h₁.get? b = some o) → Fr h₀ env.locals h₁ m' ∧ News h₀ env.locals h₁ news' := fun h₁ hk₁ =>
      ⟨⟨F'.ns.at' fun o e => hk₁ _ o (by simpa using hLI) e, fun b o e => hk₁ b o (fun hm => by rw [List.mem_singleton.mp hm, hnew] at e; cases e) (F'.keep b o e), F'.above⟩,
        fun p hp => ⟨hk₁ _ _ (by simpa using off p hp) (N' p hp).1, (N' p hp).2⟩⟩
    by_cases hlt : i < n
    · refine W.item i _ _ _ hlt hst fun v h₁ tk₁ hP hst₁ hk₁ => ?_
      obtain ⟨_, tv, rfl⟩ := hP
      obtain ⟨F₁, N₁⟩ := keepF h₁ hk₁
      have hI₁ : h₁.get? s₁.heap.objs.size = some (itR (0 + ((i + 1 : Nat) : Int)) ((n : Int) - ((i + 1 : Nat) : Int))) := by
        have q : h₁.get? s₁.heap.objs.size = _ := hst₁
        rw [Int.mul_one] at q
        exact q
      have N₂ : News h₀ env.locals h₁ ((s₁.heap.objs.size, itR (0 + ((i + 1 : Nat) : Int)) ((n : Int) - ((i + 1 : Nat) : Int))) :: news') := fun p hp => by
        rcases List.mem_cons.mp hp with rfl | hp
        · exact ⟨hI₁, Ne.symm hLI, hnew⟩
        · exact N₁ p hp
      have T := turn i tv m' news' h₁ tk₁ s₁.heap.objs.size hlt R F₁ N₂ off
      show wpAny (model prog w) A (assign (.Name x px) env (.int (0 + (i : Int) * 1) tv)) _ _ _
      rw [Int.mul_one]
      refine wpAny_passesOwn hE (wpAny_mono T (fun _ s₂ h₂ => wpAny_passesOwn hE (wpAny_mono h₂ (fun f s₃ h₃ => ?_) fun _ _ e => e)) fun _ _ e => e)
      have fin : UnrEnd h₀ env.locals { s₁ with heap := h₁, toks := tk₁ } s₁.heap.objs.size (itR (0 + ((i + 1 : Nat) : Int)) ((n : Int) - ((i + 1 : Nat) : Int))) (J (i + 1)) s₃ →
          ∃ k', k' < n + 1 - i ∧ ∃ h' tk m' news' i', s₃ = { s₁ with heap := h', toks := tk } ∧ IsRangeIter h' s₁.heap.objs.size (0 + ((i' : Nat) : Int) * 1) ((n : Int) - ((i' : Nat) : Int)) 1 ∧ Fr h₀ env.locals h' m' ∧ News h₀ env.locals h' news' ∧ (∀ p ∈ news', p.1 ≠ s₁.heap.objs.size) ∧
            J i' m' news' ∧ i' ≤ n ∧ k' = n + 1 - i' := by
        rintro ⟨h₄, tk₄, m₄, news₄, rfl, F₄, N₄, off₄, R₄⟩
        refine ⟨n + 1 - (i + 1), by omega, h₄, tk₄, m₄, news₄, i + 1, rfl, ?_, F₄, fun p hp => N₄ p (List.mem_cons_of_mem _ hp), off₄, R₄, hlt, rfl⟩
        have q := (N₄ _ List.mem_cons_self).1
        show h₄.get? s₁.heap.objs.size = _
        rw [Int.mul_one]
        exact q
      cases f with
      | ret v => exact h₃
      | brk => exact h₃
      | next => exact fin h₃
      | cont => exact fin h₃
    · have hin : i = n := by omega
      subst hin
      refine W.done _ _ _ hst fun h₁ tk₁ hk₁ => wpAny_execs_nil ?_
      obtain ⟨F₁, N₁⟩ := keepF h₁ hk₁
      exact done m' news' h₁ tk₁ R F₁ N₁
  · show IsRangeIter _ _ _ _ _
    rw [hn]
    simpa using Heap.get?_push_size _ rfl
end
end Mine
end
section -- C5
open PySem PySem.W PyProof.Rows
namespace Mine
local macro_rules | `(tactic| walk_at "ElseRest") => `(tactic| (with_unfolding_all refine ElseRest.succ (fun t' h' tk' F' N' => ?_)))
theorem off_lt {I : Addr} {l : List (Addr × Obj)} (h : AllLt I l) : ∀ p ∈ l, p.1 ≠ I := fun p hp => Nat.ne_of_lt (ktn_ltOf h p hp)
local macro_rules | `(tactic| walk_at "UnrEnd") => `(tactic| (refine UnrEnd.intro (by k_asm) (by k_asm) _ (fun p hp => hp) (off_lt (by assumption)) ?_))
theorem pf_end {h₀ h' : Heap} {L : Addr} {m : Str → Option Value} {news : List (Addr × Obj)} {s : Shared} {Q : Value → Shared → Prop} {x y : Str} {t : Tok} {tk' : Nat} (hret : ∀ (t : Tok) (h' : Heap) (tk' : Nat), Fr h₀ L h' m → News h₀ L h' news → Q (.str x t) { s with heap := h', toks := tk' }) (e : y = x) (F : Fr h₀ L h' m) (N : News h₀ L h' news) : Q (.str y t) { s with heap := h', toks := tk' } := by
  subst e
  exact hret t h' tk' F N
set_option maxHeartbeats 1000000 in
theorem pf_call1 {w : World} {mean : PySem.ExcName → Option Value} {mg mb : Str → Option Value} {tl : Tok}
  {dp un : Nat} {gd : Option (List Code)} {cn : Str} {cs : Scope} {aa : Addr} {ccd : Value} {cl : List (Str × Addr)} {outer : List Env} {A₀ : Around} {base h₀ : Heap} {L : Addr} {m : Str → Option Value} {news : List (Addr × Obj)} {s : Shared} {Q E : Value → Shared → Prop}
    (B : Below A₀ base outer h₀) (F : Fr h₀ L s.heap m) (X : (hd.heap_39 w.params).In h₀) (N : News h₀ L s.heap news) (T : Top hd.view_39 (looseW hd.view_39 [Str.ofString "COMPILER_FLAG_NAMES"]) mean mg mb h₀) (hk : cs.kind = .function) (hdp : dp + 2 < recursionLimit) (_hun : un + 20 < cLine)
    (hret : ∀ (t : Tok) (h' : Heap) (tk' : Nat), Fr h₀ L h' m → News h₀ L h' news → Q (.str (Str.ofString "OPTIMIZED") t) { s with heap := h', toks := tk' }) :
     wpAny (model Challenge.rw_sn0016_01.row.prog w) (ktrTop dp un gd cn cs L aa ccd cl outer) (call (.ref 36) [.int 1 tl]) Q E s := by
  k_with_none
  revert X
  w_top off
  k_fill
  intro X
  refine wpAny_call ?_
  k_dflt cell_enter
  repeat' ((fail_if_success (with_reducible show wpAny _ _ (exec (Stmt.For _ _ _ _ _) _) _ _ _)); first | (k_unfold; (try dsimp only)) | (k_end; wrow_close) | walk1 | (dsimp only; walk1) | (leave1; walk_say "STEP leave1"; try dsimp only) | fail "no step")
  (rename Fr _ _ _ _ => F1)
  with_unfolding_all refine for_else F1 (by rfl) (by rfl) ?_
  repeat' ((fail_if_success (with_reducible show ElseSrc _ _ _ _ _ _ _ _ _ _ _)); first | (k_unfold; (try dsimp only)) | (k_end; wrow_close) | walk1 | (dsimp only; walk1) | (leave1; walk_say "STEP leave1"; try dsimp only) | fail "no step")
  refine ⟨⟨_, _, _, _, _, 32, _, _, rfl, by rfl, by assumption, by decide, by rfl, by k_asm, by k_asm, fun I hI => ?_⟩⟩
  k_lt hI
  k_steps
  (rename Fr h₀ L _ _ => kF); (rename News h₀ L _ _ => kN)
  exact pf_end hret (by decide +kernel) kF (cb_drop kN fun p hp => List.mem_cons_of_mem _ (List.mem_cons_of_mem _ hp))
set_option maxHeartbeats 1000000 in
theorem pf_call3 {w : World} {mean : PySem.ExcName → Option Value} {mg mb : Str → Option Value} {tl : Tok}
  {dp un : Nat} {gd : Option (List Code)} {cn : Str} {cs : Scope} {aa : Addr} {ccd : Value} {cl : List (Str × Addr)} {outer : List Env} {A₀ : Around} {base h₀ : Heap} {L : Addr} {m : Str → Option Value} {news : List (Addr × Obj)} {s : Shared} {Q E : Value → Shared → Prop}
    (B : Below A₀ base outer h₀) (F : Fr h₀ L s.heap m) (X : (hd.heap_39 w.params).In h₀) (N : News h₀ L s.heap news) (T : Top hd.view_39 (looseW hd.view_39 [Str.ofString "COMPILER_FLAG_NAMES"]) mean mg mb h₀) (hk : cs.kind = .function) (hdp : dp + 2 < recursionLimit) (_hun : un + 20 < cLine)
    (hret : ∀ (t : Tok) (h' : Heap) (tk' : Nat), Fr h₀ L h' m → News h₀ L h' news → Q (.str (Str.ofString "OPTIMIZED, NEWLOCALS") t) { s with heap := h', toks := tk' }) :
     wpAny (model Challenge.rw_sn0016_01.row.prog w) (ktrTop dp un gd cn cs L aa ccd cl outer) (call (.ref 36) [.int 3 tl]) Q E s := by
  k_with_none
  revert X
  w_top off
  k_fill
  intro X
  refine wpAny_call ?_
  k_dflt cell_enter
  repeat' ((fail_if_success (with_reducible show wpAny _ _ (exec (Stmt.For _ _ _ _ _) _) _ _ _)); first | (k_unfold; (try dsimp only)) | (k_end; wrow_close) | walk1 | (dsimp only; walk1) | (leave1; walk_say "STEP leave1"; try dsimp only) | fail "no step")
  (rename Fr _ _ _ _ => F1)
  with_unfolding_all refine for_else F1 (by rfl) (by rfl) ?_
  repeat' ((fail_if_success (with_reducible show ElseSrc _ _ _ _ _ _ _ _ _ _ _)); first | (k_unfold; (try dsimp only)) | (k_end; wrow_close) | walk1 | (dsimp only; walk1) | (leave1; walk_say "STEP leave1"; try dsimp only) | fail "no step")
  refine ⟨⟨_, _, _, _, _, 32, _, _, rfl, by rfl, by assumption, by decide, by rfl, by k_asm, by k_asm, fun I hI => ?_⟩⟩
  k_lt hI
  k_steps
  (rename Fr h₀ L _ _ => kF); (rename News h₀ L _ _ => kN)
  exact pf_end hret (by decide +kernel) kF (cb_drop kN fun p hp => List.mem_cons_of_mem _ (List.mem_cons_of_mem _ hp))
set_option maxHeartbeats 1000000 in
theorem pf_call5 {w : World} {mean : PySem.ExcName → Option Value} {mg mb : Str → Option Value} {tl : Tok}
  {dp un : Nat} {gd : Option (List Code)} {cn : Str} {cs : Scope} {aa : Addr} {ccd : Value} {cl : List (Str × Addr)} {outer : List Env} {A₀ : Around} {base h₀ : Heap} {L : Addr} {m : Str → Option Value} {news : List (Addr × Obj)} {s : Shared} {Q E : Value → Shared → Prop}
    (B : Below A₀ base outer h₀) (F : Fr h₀ L s.heap m) (X : (hd.heap_39 w.params).In h₀) (N : News h₀ L s.heap news) (T : Top hd.view_39 (looseW hd.view_39 [Str.ofString "COMPILER_FLAG_NAMES"]) mean mg mb h₀) (hk : cs.kind = .function) (hdp : dp + 2 < recursionLimit) (_hun : un + 20 < cLine)
    (hret : ∀ (t : Tok) (h' : Heap) (tk' : Nat), Fr h₀ L h' m → News h₀ L h' news → Q (.str (Str.ofString "OPTIMIZED, VARARGS") t) { s with heap := h', toks := tk' }) :
     wpAny (model Challenge.rw_sn0016_01.row.prog w) (ktrTop dp un gd cn cs L aa ccd cl outer) (call (.ref 36) [.int 5 tl]) Q E s := by
  k_with_none
  revert X
  w_top off
  k_fill
  intro X
  refine wpAny_call ?_
  k_dflt cell_enter
  repeat' ((fail_if_success (with_reducible show wpAny _ _ (exec (Stmt.For _ _ _ _ _) _) _ _ _)); first | (k_unfold; (try dsimp only)) | (k_end; wrow_close) | walk1 | (dsimp only; walk1) | (leave1; walk_say "STEP leave1"; try dsimp only) | fail "no step")
  (rename Fr _ _ _ _ => F1)
  with_unfolding_all refine for_else F1 (by rfl) (by rfl) ?_
  repeat' ((fail_if_success (with_reducible show ElseSrc _ _ _ _ _ _ _ _ _ _ _)); first | (k_unfold; (try dsimp only)) | (k_end; wrow_close) | walk1 | (dsimp only; walk1) | (leave1; walk_say "STEP leave1"; try dsimp only) | fail "no step")
  refine ⟨⟨_, _, _, _, _, 32, _, _, rfl, by rfl, by assumption, by decide, by rfl, by k_asm, by k_asm, fun I hI => ?_⟩⟩
  k_lt hI
  k_steps
  (rename Fr h₀ L _ _ => kF); (rename News h₀ L _ _ => kN)
  exact pf_end hret (by decide +kernel) kF (cb_drop kN fun p hp => List.mem_cons_of_mem _ (List.mem_cons_of_mem _ hp))
set_option maxHeartbeats 1000000 in
theorem pf_call7 {w : World} {mean : PySem.ExcName → Option Value} {mg mb : Str → Option Value} {tl : Tok}
  {dp un : Nat} {gd : Option (List Code)} {cn : Str} {cs : Scope} {aa : Addr} {ccd : Value} {cl : List (Str × Addr)} {outer : List Env} {A₀ : Around} {base h₀ : Heap} {L : Addr} {m : Str → Option Value} {news : List (Addr × Obj)} {s : Shared} {Q E : Value → Shared → Prop}
    (B : Below A₀ base outer h₀) (F : Fr h₀ L s.heap m) (X : (hd.heap_39 w.params).In h₀) (N : News h₀ L s.heap news) (T : Top hd.view_39 (looseW hd.view_39 [Str.ofString "COMPILER_FLAG_NAMES"]) mean mg mb h₀) (hk : cs.kind = .function) (hdp : dp + 2 < recursionLimit) (_hun : un + 20 < cLine)
    (hret : ∀ (t : Tok) (h' : Heap) (tk' : Nat), Fr h₀ L h' m → News h₀ L h' news → Q (.str (Str.ofString "OPTIMIZED, NEWLOCALS, VARARGS") t) { s with heap := h', toks := tk' }) :
     wpAny (model Challenge.rw_sn0016_01.row.prog w) (ktrTop dp un gd cn cs L aa ccd cl outer) (call (.ref 36) [.int 7 tl]) Q E s := by
  k_with_none
  revert X
  w_top off
  k_fill
  intro X
  refine wpAny_call ?_
  k_dflt cell_enter
  repeat' ((fail_if_success (with_reducible show wpAny _ _ (exec (Stmt.For _ _ _ _ _) _) _ _ _)); first | (k_unfold; (try dsimp only)) | (k_end; wrow_close) | walk1 | (dsimp only; walk1) | (leave1; walk_say "STEP leave1"; try dsimp only) | fail "no step")
  (rename Fr _ _ _ _ => F1)
  with_unfolding_all refine for_else F1 (by rfl) (by rfl) ?_
  repeat' ((fail_if_success (with_reducible show ElseSrc _ _ _ _ _ _ _ _ _ _ _)); first | (k_unfold; (try dsimp only)) | (k_end; wrow_close) | walk1 | (dsimp only; walk1) | (leave1; walk_say "STEP leave1"; try dsimp only) | fail "no step")
  refine ⟨⟨_, _, _, _, _, 32, _, _, rfl, by rfl, by assumption, by decide, by rfl, by k_asm, by k_asm, fun I hI => ?_⟩⟩
  k_lt hI
  k_steps
  (rename Fr h₀ L _ _ => kF); (rename News h₀ L _ _ => kN)
  exact pf_end hret (by decide +kernel) kF (cb_drop kN fun p hp => List.mem_cons_of_mem _ (List.mem_cons_of_mem _ hp))
set_option maxHeartbeats 1000000 in
theorem pf_call9 {w : World} {mean : PySem.ExcName → Option Value} {mg mb : Str → Option Value} {tl : Tok}
  {dp un : Nat} {gd : Option (List Code)} {cn : Str} {cs : Scope} {aa : Addr} {ccd : Value} {cl : List (Str × Addr)} {outer : List Env} {A₀ : Around} {base h₀ : Heap} {L : Addr} {m : Str → Option Value} {news : List (Addr × Obj)} {s : Shared} {Q E : Value → Shared → Prop}
    (B : Below A₀ base outer h₀) (F : Fr h₀ L s.heap m) (X : (hd.heap_39 w.params).In h₀) (N : News h₀ L s.heap news) (T : Top hd.view_39 (looseW hd.view_39 [Str.ofString "COMPILER_FLAG_NAMES"]) mean mg mb h₀) (hk : cs.kind = .function) (hdp : dp + 2 < recursionLimit) (_hun : un + 20 < cLine)
    (hret : ∀ (t : Tok) (h' : Heap) (tk' : Nat), Fr h₀ L h' m → News h₀ L h' news → Q (.str (Str.ofString "OPTIMIZED, VARKEYWORDS") t) { s with heap := h', toks := tk' }) :
     wpAny (model Challenge.rw_sn0016_01.row.prog w) (ktrTop dp un gd cn cs L aa ccd cl outer) (call (.ref 36) [.int 9 tl]) Q E s := by
  k_with_none
  revert X
  w_top off
  k_fill
  intro X
  refine wpAny_call ?_
  k_dflt cell_enter
  repeat' ((fail_if_success (with_reducible show wpAny _ _ (exec (Stmt.For _ _ _ _ _) _) _ _ _)); first | (k_unfold; (try dsimp only)) | (k_end; wrow_close) | walk1 | (dsimp only; walk1) | (leave1; walk_say "STEP leave1"; try dsimp only) | fail "no step")
  (rename Fr _ _ _ _ => F1)
  with_unfolding_all refine for_else F1 (by rfl) (by rfl) ?_
  repeat' ((fail_if_success (with_reducible show ElseSrc _ _ _ _ _ _ _ _ _ _ _)); first | (k_unfold; (try dsimp only)) | (k_end; wrow_close) | walk1 | (dsimp only; walk1) | (leave1; walk_say "STEP leave1"; try dsimp only) | fail "no step")
  refine ⟨⟨_, _, _, _, _, 32, _, _, rfl, by rfl, by assumption, by decide, by rfl, by k_asm, by k_asm, fun I hI => ?_⟩⟩
  k_lt hI
  k_steps
  (rename Fr h₀ L _ _ => kF); (rename News h₀ L _ _ => kN)
  exact pf_end hret (by decide +kernel) kF (cb_drop kN fun p hp => List.mem_cons_of_mem _ (List.mem_cons_of_mem _ hp))
set_option maxHeartbeats 1000000 in
theorem pf_call11 {w : World} {mean : PySem.ExcName → Option Value} {mg mb : Str → Option Value} {tl : Tok}
  {dp un : Nat} {gd : Option (List Code)} {cn : Str} {cs : Scope} {aa : Addr} {ccd : Value} {cl : List (Str × Addr)} {outer : List Env} {A₀ : Around} {base h₀ : Heap} {L : Addr} {m : Str → Option Value} {news : List (Addr × Obj)} {s : Shared} {Q E : Value → Shared → Prop}
    (B : Below A₀ base outer h₀) (F : Fr h₀ L s.heap m) (X : (hd.heap_39 w.params).In h₀) (N : News h₀ L s.heap news) (T : Top hd.view_39 (looseW hd.view_39 [Str.ofString "COMPILER_FLAG_NAMES"]) mean mg mb h₀) (hk : cs.kind = .function) (hdp : dp + 2 < recursionLimit) (_hun : un + 20 < cLine)
    (hret : ∀ (t : Tok) (h' : Heap) (tk' : Nat), Fr h₀ L h' m → News h₀ L h' news → Q (.str (Str.ofString "OPTIMIZED, NEWLOCALS, VARKEYWORDS") t) { s with heap := h', toks := tk' }) :
     wpAny (model Challenge.rw_sn0016_01.row.prog w) (ktrTop dp un gd cn cs L aa ccd cl outer) (call (.ref 36) [.int 11 tl]) Q E s := by
  k_with_none
  revert X
  w_top off
  k_fill
  intro X
  refine wpAny_call ?_
  k_dflt cell_enter
  repeat' ((fail_if_success (with_reducible show wpAny _ _ (exec (Stmt.For _ _ _ _ _) _) _ _ _)); first | (k_unfold; (try dsimp only)) | (k_end; wrow_close) | walk1 | (dsimp only; walk1) | (leave1; walk_say "STEP leave1"; try dsimp only) | fail "no step")
  (rename Fr _ _ _ _ => F1)
  with_unfolding_all refine for_else F1 (by rfl) (by rfl) ?_
  repeat' ((fail_if_success (with_reducible show ElseSrc _ _ _ _ _ _ _ _ _ _ _)); first | (k_unfold; (try dsimp only)) | (k_end; wrow_close) | walk1 | (dsimp only; walk1) | (leave1; walk_say "STEP leave1"; try dsimp only) | fail "no step")
  refine ⟨⟨_, _, _, _, _, 32, _, _, rfl, by rfl, by assumption, by decide, by rfl, by k_asm, by k_asm, fun I hI => ?_⟩⟩
  k_lt hI
  k_steps
  (rename Fr h₀ L _ _ => kF); (rename News h₀ L _ _ => kN)
  exact pf_end hret (by decide +kernel) kF (cb_drop kN fun p hp => List.mem_cons_of_mem _ (List.mem_cons_of_mem _ hp))
set_option maxHeartbeats 1000000 in
theorem pf_call13 {w : World} {mean : PySem.ExcName → Option Value} {mg mb : Str → Option Value} {tl : Tok}
  {dp un : Nat} {gd : Option (List Code)} {cn : Str} {cs : Scope} {aa : Addr} {ccd : Value} {cl : List (Str × Addr)} {outer : List Env} {A₀ : Around} {base h₀ : Heap} {L : Addr} {m : Str → Option Value} {news : List (Addr × Obj)} {s : Shared} {Q E : Value → Shared → Prop}
    (B : Below A₀ base outer h₀) (F : Fr h₀ L s.heap m) (X : (hd.heap_39 w.params).In h₀) (N : News h₀ L s.heap news) (T : Top hd.view_39 (looseW hd.view_39 [Str.ofString "COMPILER_FLAG_NAMES"]) mean mg mb h₀) (hk : cs.kind = .function) (hdp : dp + 2 < recursionLimit) (_hun : un + 20 < cLine)
    (hret : ∀ (t : Tok) (h' : Heap) (tk' : Nat), Fr h₀ L h' m → News h₀ L h' news → Q (.str (Str.ofString "OPTIMIZED, VARARGS, VARKEYWORDS") t) { s with heap := h', toks := tk' }) :
     wpAny (model Challenge.rw_sn0016_01.row.prog w) (ktrTop dp un gd cn cs L aa ccd cl outer) (call (.ref 36) [.int 13 tl]) Q E s := by
  k_with_none
  revert X
  w_top off
  k_fill
  intro X
  refine wpAny_call ?_
  k_dflt cell_enter
  repeat' ((fail_if_success (with_reducible show wpAny _ _ (exec (Stmt.For _ _ _ _ _) _) _ _ _)); first | (k_unfold; (try dsimp only)) | (k_end; wrow_close) | walk1 | (dsimp only; walk1) | (leave1; walk_say "STEP leave1"; try dsimp only) | fail "no step")
  (rename Fr _ _ _ _ => F1)
  with_unfolding_all refine for_else F1 (by rfl) (by rfl) ?_
  repeat' ((fail_if_success (with_reducible show ElseSrc _ _ _ _ _ _ _ _ _ _ _)); first | (k_unfold; (try dsimp only)) | (k_end; wrow_close) | walk1 | (dsimp only; walk1) | (leave1; walk_say "STEP leave1"; try dsimp only) | fail "no step")
  refine ⟨⟨_, _, _, _, _, 32, _, _, rfl, by rfl, by assumption, by decide, by rfl, by k_asm, by k_asm, fun I hI => ?_⟩⟩
  k_lt hI
  k_steps
  (rename Fr h₀ L _ _ => kF); (rename News h₀ L _ _ => kN)
  exact pf_end hret (by decide +kernel) kF (cb_drop kN fun p hp => List.mem_cons_of_mem _ (List.mem_cons_of_mem _ hp))
set_option maxHeartbeats 1000000 in
theorem pf_call15 {w : World} {mean : PySem.ExcName → Option Value} {mg mb : Str → Option Value} {tl : Tok}
  {dp un : Nat} {gd : Option (List Code)} {cn : Str} {cs : Scope} {aa : Addr} {ccd : Value} {cl : List (Str × Addr)} {outer : List Env} {A₀ : Around} {base h₀ : Heap} {L : Addr} {m : Str → Option Value} {news : List (Addr × Obj)} {s : Shared} {Q E : Value → Shared → Prop}
    (B : Below A₀ base outer h₀) (F : Fr h₀ L s.heap m) (X : (hd.heap_39 w.params).In h₀) (N : News h₀ L s.heap news) (T : Top hd.view_39 (looseW hd.view_39 [Str.ofString "COMPILER_FLAG_NAMES"]) mean mg mb h₀) (hk : cs.kind = .function) (hdp : dp + 2 < recursionLimit) (_hun : un + 20 < cLine)
    (hret : ∀ (t : Tok) (h' : Heap) (tk' : Nat), Fr h₀ L h' m → News h₀ L h' news → Q (.str (Str.ofString "OPTIMIZED, NEWLOCALS, VARARGS, VARKEYWORDS") t) { s with heap := h', toks := tk' }) :
     wpAny (model Challenge.rw_sn0016_01.row.prog w) (ktrTop dp un gd cn cs L aa ccd cl outer) (call (.ref 36) [.int 15 tl]) Q E s := by
  k_with_none
  revert X
  w_top off
  k_fill
  intro X
  refine wpAny_call ?_
  k_dflt cell_enter
  repeat' ((fail_if_success (with_reducible show wpAny _ _ (exec (Stmt.For _ _ _ _ _) _) _ _ _)); first | (k_unfold; (try dsimp only)) | (k_end; wrow_close) | walk1 | (dsimp only; walk1) | (leave1; walk_say "STEP leave1"; try dsimp only) | fail "no step")
  (rename Fr _ _ _ _ => F1)
  with_unfolding_all refine for_else F1 (by rfl) (by rfl) ?_
  repeat' ((fail_if_success (with_reducible show ElseSrc _ _ _ _ _ _ _ _ _ _ _)); first | (k_unfold; (try dsimp only)) | (k_end; wrow_close) | walk1 | (dsimp only; walk1) | (leave1; walk_say "STEP leave1"; try dsimp only) | fail "no step")
  refine ⟨⟨_, _, _, _, _, 32, _, _, rfl, by rfl, by assumption, by decide, by rfl, by k_asm, by k_asm, fun I hI => ?_⟩⟩
  k_lt hI
  k_steps
  (rename Fr h₀ L _ _ => kF); (rename News h₀ L _ _ => kN)
  exact pf_end hret (by decide +kernel) kF (cb_drop kN fun p hp => List.mem_cons_of_mem _ (List.mem_cons_of_mem _ hp))
end Mine
end
section -- C6
open PySem PySem.W PyProof.Rows
namespace Mine
def oddB : Nat → Bool
  | 1 => true | 2 => true | 4 => true | 7 => true | _ => false
set_option maxHeartbeats 1000000 in
theorem odd_call0 {w : World} {mean : PySem.ExcName → Option Value} {mg mb : Str → Option Value} {tl : Tok}
  {dp un : Nat} {gd : Option (List Code)} {cn : Str} {cs : Scope} {aa : Addr} {ccd : Value} {cl : List (Str × Addr)} {outer : List Env} {A₀ : Around} {base h₀ : Heap} {L : Addr} {m : Str → Option Value} {news : List (Addr × Obj)} {s : Shared} {Q E : Value → Shared → Prop}
    (B : Below A₀ base outer h₀) (F : Fr h₀ L s.heap m) (X : (hd.heap_39 w.params).In h₀) (N : News h₀ L s.heap news) (T : Top hd.view_39 (looseW hd.view_39 [Str.ofString "COMPILER_FLAG_NAMES"]) mean mg mb h₀) (hk : cs.kind = .function) (hdp : dp + 2 < recursionLimit) (_hun : un + 20 < cLine)
    (hret : ∀ (h' : Heap) (tk' : Nat), Fr h₀ L h' m → News h₀ L h' news → Q (Value.bool false) { s with heap := h', toks := tk' }) :
     wpAny (model Challenge.rw_sn0016_01.row.prog w) (ktrTop dp un gd cn cs L aa ccd cl outer) (call (.ref 69) [.int 0 tl]) Q E s := by
  k_with_none
  revert X
  w_top off
  k_fill
  intro X
  refine wpAny_call ?_
  k_dflt cell_enter
  k_steps
  (rename Fr h₀ L _ _ => kF); (rename News h₀ L _ _ => kN)
  exact hret _ _ kF kN
set_option maxHeartbeats 1000000 in
theorem odd_call1 {w : World} {mean : PySem.ExcName → Option Value} {mg mb : Str → Option Value} {tl : Tok}
  {dp un : Nat} {gd : Option (List Code)} {cn : Str} {cs : Scope} {aa : Addr} {ccd : Value} {cl : List (Str × Addr)} {outer : List Env} {A₀ : Around} {base h₀ : Heap} {L : Addr} {m : Str → Option Value} {news : List (Addr × Obj)} {s : Shared} {Q E : Value → Shared → Prop}
    (B : Below A₀ base outer h₀) (F : Fr h₀ L s.heap m) (X : (hd.heap_39 w.params).In h₀) (N : News h₀ L s.heap news) (T : Top hd.view_39 (looseW hd.view_39 [Str.ofString "COMPILER_FLAG_NAMES"]) mean mg mb h₀) (hk : cs.kind = .function) (hdp : dp + 2 < recursionLimit) (_hun : un + 20 < cLine)
    (hret : ∀ (h' : Heap) (tk' : Nat), Fr h₀ L h' m → News h₀ L h' news → Q (Value.bool true) { s with heap := h', toks := tk' }) :
     wpAny (model Challenge.rw_sn0016_01.row.prog w) (ktrTop dp un gd cn cs L aa ccd cl outer) (call (.ref 69) [.int 1 tl]) Q E s := by
  k_with_none
  revert X
  w_top off
  k_fill
  intro X
  refine wpAny_call ?_
  k_dflt cell_enter
  k_steps
  (rename Fr h₀ L _ _ => kF); (rename News h₀ L _ _ => kN)
  exact hret _ _ kF kN
set_option maxHeartbeats 1000000 in
theorem odd_call2 {w : World} {mean : PySem.ExcName → Option Value} {mg mb : Str → Option Value} {tl : Tok}
  {dp un : Nat} {gd : Option (List Code)} {cn : Str} {cs : Scope} {aa : Addr} {ccd : Value} {cl : List (Str × Addr)} {outer : List Env} {A₀ : Around} {base h₀ : Heap} {L : Addr} {m : Str → Option Value} {news : List (Addr × Obj)} {s : Shared} {Q E : Value → Shared → Prop}
    (B : Below A₀ base outer h₀) (F : Fr h₀ L s.heap m) (X : (hd.heap_39 w.params).In h₀) (N : News h₀ L s.heap news) (T : Top hd.view_39 (looseW hd.view_39 [Str.ofString "COMPILER_FLAG_NAMES"]) mean mg mb h₀) (hk : cs.kind = .function) (hdp : dp + 2 < recursionLimit) (_hun : un + 20 < cLine)
    (hret : ∀ (h' : Heap) (tk' : Nat), Fr h₀ L h' m → News h₀ L h' news → Q (Value.bool true) { s with heap := h', toks := tk' }) :
     wpAny (model Challenge.rw_sn0016_01.row.prog w) (ktrTop dp un gd cn cs L aa ccd cl outer) (call (.ref 69) [.int 2 tl]) Q E s := by
  k_with_none
  revert X
  w_top off
  k_fill
  intro X
  refine wpAny_call ?_
  k_dflt cell_enter
  k_steps
  (rename Fr h₀ L _ _ => kF); (rename News h₀ L _ _ => kN)
  exact hret _ _ kF kN
set_option maxHeartbeats 1000000 in
theorem odd_call3 {w : World} {mean : PySem.ExcName → Option Value} {mg mb : Str → Option Value} {tl : Tok}
  {dp un : Nat} {gd : Option (List Code)} {cn : Str} {cs : Scope} {aa : Addr} {ccd : Value} {cl : List (Str × Addr)} {outer : List Env} {A₀ : Around} {base h₀ : Heap} {L : Addr} {m : Str → Option Value} {news : List (Addr × Obj)} {s : Shared} {Q E : Value → Shared → Prop}
    (B : Below A₀ base outer h₀) (F : Fr h₀ L s.heap m) (X : (hd.heap_39 w.params).In h₀) (N : News h₀ L s.heap news) (T : Top hd.view_39 (looseW hd.view_39 [Str.ofString "COMPILER_FLAG_NAMES"]) mean mg mb h₀) (hk : cs.kind = .function) (hdp : dp + 2 < recursionLimit) (_hun : un + 20 < cLine)
    (hret : ∀ (h' : Heap) (tk' : Nat), Fr h₀ L h' m → News h₀ L h' news → Q (Value.bool false) { s with heap := h', toks := tk' }) :
     wpAny (model Challenge.rw_sn0016_01.row.prog w) (ktrTop dp un gd cn cs L aa ccd cl outer) (call (.ref 69) [.int 3 tl]) Q E s := by
  k_with_none
  revert X
  w_top off
  k_fill
  intro X
  refine wpAny_call ?_
  k_dflt cell_enter
  k_steps
  (rename Fr h₀ L _ _ => kF); (rename News h₀ L _ _ => kN)
  exact hret _ _ kF kN
set_option maxHeartbeats 1000000 in
theorem odd_call4 {w : World} {mean : PySem.ExcName → Option Value} {mg mb : Str → Option Value} {tl : Tok}
  {dp un : Nat} {gd : Option (List Code)} {cn : Str} {cs : Scope} {aa : Addr} {ccd : Value} {cl : List (Str × Addr)} {outer : List Env} {A₀ : Around} {base h₀ : Heap} {L : Addr} {m : Str → Option Value} {news : List (Addr × Obj)} {s : Shared} {Q E : Value → Shared → Prop}
    (B : Below A₀ base outer h₀) (F : Fr h₀ L s.heap m) (X : (hd.heap_39 w.params).In h₀) (N : News h₀ L s.heap news) (T : Top hd.view_39 (looseW hd.view_39 [Str.ofString "COMPILER_FLAG_NAMES"]) mean mg mb h₀) (hk : cs.kind = .function) (hdp : dp + 2 < recursionLimit) (_hun : un + 20 < cLine)
    (hret : ∀ (h' : Heap) (tk' : Nat), Fr h₀ L h' m → News h₀ L h' news → Q (Value.bool true) { s with heap := h', toks := tk' }) :
     wpAny (model Challenge.rw_sn0016_01.row.prog w) (ktrTop dp un gd cn cs L aa ccd cl outer) (call (.ref 69) [.int 4 tl]) Q E s := by
  k_with_none
  revert X
  w_top off
  k_fill
  intro X
  refine wpAny_call ?_
  k_dflt cell_enter
  k_steps
  (rename Fr h₀ L _ _ => kF); (rename News h₀ L _ _ => kN)
  exact hret _ _ kF kN
set_option maxHeartbeats 1000000 in
theorem odd_call5 {w : World} {mean : PySem.ExcName → Option Value} {mg mb : Str → Option Value} {tl : Tok}
  {dp un : Nat} {gd : Option (List Code)} {cn : Str} {cs : Scope} {aa : Addr} {ccd : Value} {cl : List (Str × Addr)} {outer : List Env} {A₀ : Around} {base h₀ : Heap} {L : Addr} {m : Str → Option Value} {news : List (Addr × Obj)} {s : Shared} {Q E : Value → Shared → Prop}
    (B : Below A₀ base outer h₀) (F : Fr h₀ L s.heap m) (X : (hd.heap_39 w.params).In h₀) (N : News h₀ L s.heap news) (T : Top hd.view_39 (looseW hd.view_39 [Str.ofString "COMPILER_FLAG_NAMES"]) mean mg mb h₀) (hk : cs.kind = .function) (hdp : dp + 2 < recursionLimit) (_hun : un + 20 < cLine)
    (hret : ∀ (h' : Heap) (tk' : Nat), Fr h₀ L h' m → News h₀ L h' news → Q (Value.bool false) { s with heap := h', toks := tk' }) :
     wpAny (model Challenge.rw_sn0016_01.row.prog w) (ktrTop dp un gd cn cs L aa ccd cl outer) (call (.ref 69) [.int 5 tl]) Q E s := by
  k_with_none
  revert X
  w_top off
  k_fill
  intro X
  refine wpAny_call ?_
  k_dflt cell_enter
  k_steps
  (rename Fr h₀ L _ _ => kF); (rename News h₀ L _ _ => kN)
  exact hret _ _ kF kN
set_option maxHeartbeats 1000000 in
theorem odd_call6 {w : World} {mean : PySem.ExcName → Option Value} {mg mb : Str → Option Value} {tl : Tok}
  {dp un : Nat} {gd : Option (List Code)} {cn : Str} {cs : Scope} {aa : Addr} {ccd : Value} {cl : List (Str × Addr)} {outer : List Env} {A₀ : Around} {base h₀ : Heap} {L : Addr} {m : Str → Option Value} {news : List (Addr × Obj)} {s : Shared} {Q E : Value → Shared → Prop}
    (B : Below A₀ base outer h₀) (F : Fr h₀ L s.heap m) (X : (hd.heap_39 w.params).In h₀) (N : News h₀ L s.heap news) (T : Top hd.view_39 (looseW hd.view_39 [Str.ofString "COMPILER_FLAG_NAMES"]) mean mg mb h₀) (hk : cs.kind = .function) (hdp : dp + 2 < recursionLimit) (_hun : un + 20 < cLine)
    (hret : ∀ (h' : Heap) (tk' : Nat), Fr h₀ L h' m → News h₀ L h' news → Q (Value.bool false) { s with heap := h', toks := tk' }) :
     wpAny (model Challenge.rw_sn0016_01.row.prog w) (ktrTop dp un gd cn cs L aa ccd cl outer) (call (.ref 69) [.int 6 tl]) Q E s := by
  k_with_none
  revert X
  w_top off
  k_fill
  intro X
  refine wpAny_call ?_
  k_dflt cell_enter
  k_steps
  (rename Fr h₀ L _ _ => kF); (rename News h₀ L _ _ => kN)
  exact hret _ _ kF kN
set_option maxHeartbeats 1000000 in
theorem odd_call7 {w : World} {mean : PySem.ExcName → Option Value} {mg mb : Str → Option Value} {tl : Tok}
  {dp un : Nat} {gd : Option (List Code)} {cn : Str} {cs : Scope} {aa : Addr} {ccd : Value} {cl : List (Str × Addr)} {outer : List Env} {A₀ : Around} {base h₀ : Heap} {L : Addr} {m : Str → Option Value} {news : List (Addr × Obj)} {s : Shared} {Q E : Value → Shared → Prop}
    (B : Below A₀ base outer h₀) (F : Fr h₀ L s.heap m) (X : (hd.heap_39 w.params).In h₀) (N : News h₀ L s.heap news) (T : Top hd.view_39 (looseW hd.view_39 [Str.ofString "COMPILER_FLAG_NAMES"]) mean mg mb h₀) (hk : cs.kind = .function) (hdp : dp + 2 < recursionLimit) (_hun : un + 20 < cLine)
    (hret : ∀ (h' : Heap) (tk' : Nat), Fr h₀ L h' m → News h₀ L h' news → Q (Value.bool true) { s with heap := h', toks := tk' }) :
     wpAny (model Challenge.rw_sn0016_01.row.prog w) (ktrTop dp un gd cn cs L aa ccd cl outer) (call (.ref 69) [.int 7 tl]) Q E s := by
  k_with_none
  revert X
  w_top off
  k_fill
  intro X
  refine wpAny_call ?_
  k_dflt cell_enter
  k_steps
  (rename Fr h₀ L _ _ => kF); (rename News h₀ L _ _ => kN)
  exact hret _ _ kF kN
theorem odd_call {i : Nat} (hi : i < 8) {w : World} {mean : PySem.ExcName → Option Value} {mg mb : Str → Option Value} {tl : Tok}
  {dp un : Nat} {gd : Option (List Code)} {cn : Str} {cs : Scope} {aa : Addr} {ccd : Value} {cl : List (Str × Addr)} {outer : List Env} {A₀ : Around} {base h₀ : Heap} {L : Addr} {m : Str → Option Value} {news : List (Addr × Obj)} {s : Shared} {Q E : Value → Shared → Prop}
    (B : Below A₀ base outer h₀) (F : Fr h₀ L s.heap m) (X : (hd.heap_39 w.params).In h₀) (N : News h₀ L s.heap news) (T : Top hd.view_39 (looseW hd.view_39 [Str.ofString "COMPILER_FLAG_NAMES"]) mean mg mb h₀) (hk : cs.kind = .function) (hdp : dp + 2 < recursionLimit) (_hun : un + 20 < cLine)
    (hret : ∀ (h' : Heap) (tk' : Nat), Fr h₀ L h' m → News h₀ L h' news → Q (Value.bool (oddB i)) { s with heap := h', toks := tk' }) :
     wpAny (model Challenge.rw_sn0016_01.row.prog w) (ktrTop dp un gd cn cs L aa ccd cl outer) (call (.ref 69) [.int (0 + (i : Int)) tl]) Q E s := by
  have hc : i = 0 ∨ i = 1 ∨ i = 2 ∨ i = 3 ∨ i = 4 ∨ i = 5 ∨ i = 6 ∨ i = 7 := by omega
  rcases hc with h | h | h | h | h | h | h | h <;> subst h
  · exact odd_call0 B F X N T hk hdp _hun hret
  · exact odd_call1 B F X N T hk hdp _hun hret
  · exact odd_call2 B F X N T hk hdp _hun hret
  · exact odd_call3 B F X N T hk hdp _hun hret
  · exact odd_call4 B F X N T hk hdp _hun hret
  · exact odd_call5 B F X N T hk hdp _hun hret
  · exact odd_call6 B F X N T hk hdp _hun hret
  · exact odd_call7 B F X N T hk hdp _hun hret
end Mine
end
section -- Q1
open PySem PySem.W PyProof.Rows PySem.Builtin PySem.Builtin.Str
namespace Mine
theorem subAt39 (l : List Nat) (i : Nat) : subAt (ofL l) (ofL [39]) i = (l[i]? == some 39) := by
  unfold subAt ofL
  show (l.toArray.extract i (i + 1) == #[39]) = _
  have e : l.toArray.extract i (i + 1) = (l[i]?).toList.toArray := by
    apply Array.ext'
    rw [Array.toList_extract]
    rw [List.extract_eq_take_drop]
    have : i + 1 - i = 1 := by omega
    rw [this, List.take_one]
    simp
  rw [e]
  cases l[i]? with
  | none => rfl
  | some c =>
    show (#[c] == #[39]) = (some c == some 39)
    by_cases h : c = 39
    · subst h; rfl
    · have h1 : (some c == some 39) = false := by simpa using h
      have h2 : (#[c] == #[39]) = false := by simpa using h
      rw [h1, h2]
theorem occ_same {x x' : List Nat} (h : ∀ i : Nat, (x[i]? == some 39) = (x'[i]? == some 39)) (lo hi lim : Nat) : occurrences (ofL x) (ofL [39]) lo hi lim = occurrences (ofL x') (ofL [39]) lo hi lim := by
  have e : subAt (ofL x) (ofL [39]) = subAt (ofL x') (ofL [39]) := by
    funext i
    rw [subAt39, subAt39, h i]
  unfold occurrences
  rw [e]
theorem kind_tick (x : Str) : (decide (PySem.Builtin.Str.strKind x < PySem.Builtin.Str.strKind (ofL [39]))) = false := by
  have h : PySem.Builtin.Str.strKind (ofL [39]) = 1 := by decide +kernel
  rw [h]
  unfold PySem.Builtin.Str.strKind
  split
  · rfl
  · split <;> rfl
theorem splitF2 {a b c d e f g h : Nat} (ha : a ≠ 39) (hb : b ≠ 39) (hc : c ≠ 39) (hd : d ≠ 39) (he : e ≠ 39) (hf : f ≠ 39) (hg : g ≠ 39) (hh : h ≠ 39) :
    Txt.splitMax (ofL [a, b, 39, c, d, e, 39, f, g, 39, h]) (ofL [39]) 2 = [ofL [a, b], ofL [c, d, e], ofL [f, g, 39, h]] := by
  have ho : occurrences (ofL [a, b, 39, c, d, e, 39, f, g, 39, h]) (ofL [39]) 0 11 2 = [2, 6] := by
    rw [occ_same (x' := [0, 0, 39, 0, 0, 0, 39, 0, 0, 39, 0]) (fun i => by
      match i with
      | 0 | 1 | 2 | 3 | 4 | 5 | 6 | 7 | 8 | 9 | 10 => simp [ha, hb, hc, hd, he, hf, hg, hh]
      | i + 11 => simp)]
    decide +kernel
  unfold Txt.splitMax
  have hl : (ofL [a, b, 39, c, d, e, 39, f, g, 39, h]).length = 11 := rfl
  have hl2 : (ofL [39]).length = 1 := rfl
  have hlim : limitOf (ofL [a, b, 39, c, d, e, 39, f, g, 39, h]) 2 = 2 := rfl
  rw [kind_tick, hl, hl2, hlim, ho]
  rfl
theorem splitF3 {a b c d e f g h : Nat} (ha : a ≠ 39) (hb : b ≠ 39) (hc : c ≠ 39) (hd : d ≠ 39) (he : e ≠ 39) (hf : f ≠ 39) (hg : g ≠ 39) (hh : h ≠ 39) :
    Txt.splitMax (ofL [a, b, c, 39, d, e, f, 39, g, 39, h]) (ofL [39]) 2 = [ofL [a, b, c], ofL [d, e, f], ofL [g, 39, h]] := by
  have ho : occurrences (ofL [a, b, c, 39, d, e, f, 39, g, 39, h]) (ofL [39]) 0 11 2 = [3, 7] := by
    rw [occ_same (x' := [0, 0, 0, 39, 0, 0, 0, 39, 0, 39, 0]) (fun i => by
      match i with
      | 0 | 1 | 2 | 3 | 4 | 5 | 6 | 7 | 8 | 9 | 10 => simp [ha, hb, hc, hd, he, hf, hg, hh]
      | i + 11 => simp)]
    decide +kernel
  unfold Txt.splitMax
  have hl : (ofL [a, b, c, 39, d, e, f, 39, g, 39, h]).length = 11 := rfl
  have hl2 : (ofL [39]).length = 1 := rfl
  have hlim : limitOf (ofL [a, b, c, 39, d, e, f, 39, g, 39, h]) 2 = 2 := rfl
  rw [kind_tick, hl, hl2, hlim, ho]
  rfl
theorem sg_ne (bs : List Bool) (i : Nat) (_hi : i < 8) : sg bs i ≠ 39 := by
  unfold sg
  split <;> omega
theorem split_parts (bs : List Bool) {f : Int} (hf : f = 2 ∨ f = 3) :
    Txt.splitMax (ofL (lp0 bs f ++ 39 :: (lp1 bs f ++ 39 :: lp2 bs f))) (Str.ofString "'") 2 = [ofL (lp0 bs f), ofL (lp1 bs f), ofL (lp2 bs f)] := by
  rw [tick_is]
  rcases hf with rfl | rfl
  · exact splitF2 (sg_ne bs 0 (by decide)) (sg_ne bs 1 (by decide)) (sg_ne bs 2 (by decide)) (sg_ne bs 3 (by decide)) (sg_ne bs 4 (by decide)) (sg_ne bs 5 (by decide)) (sg_ne bs 6 (by decide)) (sg_ne bs 7 (by decide))
  · exact splitF3 (sg_ne bs 0 (by decide)) (sg_ne bs 1 (by decide)) (sg_ne bs 2 (by decide)) (sg_ne bs 3 (by decide)) (sg_ne bs 4 (by decide)) (sg_ne bs 5 (by decide)) (sg_ne bs 6 (by decide)) (sg_ne bs 7 (by decide))
end Mine
end
section -- L0
open PySem PySem.W PyProof.Rows PySem.Calls PySem.SeqAt
namespace Mine
theorem ints_some : ∀ {ys : List Value}, (∀ (i : Nat) (v : Value), ys[i]? = some v → ∃ k t, v = .int k t) → ∃ ks, IntsAre ys ks ∧ ks.length = ys.length
  | [], _ => ⟨[], IntsAre.nil, rfl⟩
  | y :: ys, h => by
    obtain ⟨k, t, rfl⟩ := h 0 y rfl
    obtain ⟨ks, hk, hl⟩ := ints_some (ys := ys) fun i v hv => h (i + 1) v hv
    exact ⟨k :: ks, IntsAre.cons k t hk, by simp [hl]⟩
theorem ints_at : ∀ {ys : List Value} {ks : List Int}, IntsAre ys ks → ∀ (i : Nat) (v : Value), ys[i]? = some v → ∃ k t, v = .int k t
  | _, _, .nil, i, v, h => by simp at h
  | _, _, .cons n t r, 0, v, h => ⟨n, t, by simpa using h.symm⟩
  | _, _, .cons n t r, i + 1, v, h => ints_at r i v (by simpa using h)
theorem pick_at {vs : List Value} {ns : List Int} (h : IntsAre vs ns) {lo hi st : Option Int} {i : Nat} {v : Value} (e : (slicePick vs.toArray lo hi st)[i]? = some v) : ∃ k t, v = .int k t :=
  ints_at (h.pick lo hi st) i v (by rw [Array.getElem?_toList]; exact e)
theorem pick_size {vs : List Value} {ns : List Int} (h : IntsAre vs ns) (hl : ¬ ((63 : Int) < (ns.length : Int))) (lo hi st : Option Int) : (slicePick vs.toArray lo hi st).size ≤ 63 := by
  have s := slicePick_size_le vs.toArray lo hi st
  have l := h.length
  simp only [List.size_toArray] at s
  omega
/-- bools from a comprehension over 0..n-1 -/
theorem bools_of {f : Nat → Bool} : ∀ {ys : List Value} {n : Nat}, ys.length = n → (∀ (i : Nat) (v : Value), ys[i]? = some v → v = .bool (f i)) → ys = ((List.range n).map f).map Value.bool := by
  intro ys n hl h
  apply List.ext_getElem?
  intro i
  by_cases hi : i < n
  · have e : ys[i]? = some ys[i] := List.getElem?_eq_getElem (by omega)
    have e2 := h i _ e
    rw [e, e2]
    simp [hi]
  · rw [List.getElem?_eq_none (by omega), List.getElem?_eq_none (by simp; omega)]
theorem len8 (f : Nat → Bool) : ((List.range 8).map f).length = 8 := by simp
section
variable {prog : Program} {w : World} {A : Around} {E : Value → Shared → Prop} {s : Shared} {h₀ : Heap} {L D : Addr} {m : Str → Option Value} {news : List (Addr × Obj)}
theorem sum_led {vs : List Value} {ns : List Int} {c : Nat} {Q : Value → Shared → Prop} (hh : A.handled = none) (F : Fr h₀ L s.heap m) (N : News h₀ L s.heap news) (hm : (D, listOf vs.toArray c) ∈ news) (hi : IntsAre vs ns)
    (h : ∀ h' tk t', Fr h₀ L h' m → News h₀ L h' news → Q (.int ns.sum t') { s with heap := h', toks := tk }) :
    wpAny (model prog w) A (call (.builtin "sum") [.ref D]) Q E s :=
  sumK hh F N ⟨_, (N _ hm).1, rfl, c, rfl⟩ hi h
theorem sum_drop {vs : List Value} {ns : List Int} {qa : Addr} {its : Array Value} {lo hi st : Option Int} {Q : Value → Shared → Prop} (hh : A.handled = none) (F : Fr h₀ L s.heap m) (N : News h₀ L s.heap ((D, LCg.lst vs) :: (qa, ({ cls := .type "list", data := .seq (slicePick its lo hi st) } : Obj)) :: news)) (hi' : IntsAre vs ns)
    (h : ∀ h' tk t', Fr h₀ L h' m → News h₀ L h' news → Q (.int ns.sum t') { s with heap := h', toks := tk }) :
    wpAny (model prog w) A (call (.builtin "sum") [.ref D]) Q E s :=
  sumK hh F N ⟨_, (N _ List.mem_cons_self).1, rfl, _, rfl⟩ hi' fun h' tk t' F' N' => h h' tk t' F' (cb_drop N' fun p hp => List.mem_cons_of_mem _ (List.mem_cons_of_mem _ hp))
theorem ne_same {xs ys : List Value} {a b : Addr} {c d : Nat} {Q : Value → Shared → Prop} (N : News h₀ L s.heap news) (ha : (a, listOf xs.toArray c) ∈ news) (hb : (b, listOf ys.toArray d) ∈ news) (hl : xs.length = ys.length)
    (he : ∀ (j : Nat) (x y : Value), xs[j]? = some x → ys[j]? = some y → EqAt A.in1 s x y true) (hu : A.units < cLine) (h : Q (.bool false) s) : wpAny (model prog w) A (compareOp .NotEq (.ref a) (.ref b)) Q E s := by
  refine RcNeAt.lists (e := fun _ => true) ⟨_, (N _ ha).1, rfl, c, rfl⟩ ⟨_, (N _ hb).1, rfl, d, rfl⟩ (by simpa using hl) hu (fun j h1 h2 => ?_) prog w E Q ?_
  · refine he j _ _ ?_ ?_
    · rw [← List.getElem?_toArray]; exact Array.getElem?_eq_getElem h1
    · rw [← List.getElem?_toArray]; exact Array.getElem?_eq_getElem h2
  · have e : (!((List.range xs.toArray.size).all fun _ => true)) = false := by simp
    rw [e]
    exact h
theorem ne_texts {a b : Addr} {x y z : Str} {c d : Nat} {t0 t1 t2 u0 u1 u2 : Tok} {Q : Value → Shared → Prop} (N : News h₀ L s.heap news) (ha : (a, listOf [Value.str x t0, Value.str y t1, Value.str z t2].toArray c) ∈ news) (hb : (b, listOf [Value.str x u0, Value.str y u1, Value.str z u2].toArray d) ∈ news)
    (hu : A.units < cLine) (h : Q (.bool false) s) : wpAny (model prog w) A (compareOp .NotEq (.ref a) (.ref b)) Q E s := by
  refine ne_same N ha hb rfl (fun j p q hp hq => ?_) hu h
  have key : ∀ (x : Str) (t u : Tok), EqAt A.in1 s (.str x t) (.str x u) true := fun x t u => by
    have := EqAt.str_str (A := A.in1) (s := s) x t x u
    rwa [beq_self_eq_true] at this
  match j with
  | 0 => cases hp; cases hq; exact key _ _ _
  | 1 => cases hp; cases hq; exact key _ _ _
  | 2 => cases hp; cases hq; exact key _ _ _
  | j + 3 => simp at hp
theorem ne_bools {bs : List Bool} {a b : Addr} {c d : Nat} {Q : Value → Shared → Prop} (N : News h₀ L s.heap news) (ha : (a, listOf (bs.map Value.bool).toArray c) ∈ news) (hb : (b, listOf (bs.map Value.bool).toArray d) ∈ news)
    (hu : A.units < cLine) (h : Q (.bool false) s) : wpAny (model prog w) A (compareOp .NotEq (.ref a) (.ref b)) Q E s := by
  refine ne_same N ha hb rfl (fun j p q hp hq => ?_) hu h
  rw [hp] at hq
  cases hq
  rw [List.getElem?_map] at hp
  obtain ⟨v, _, rfl⟩ := Option.map_eq_some_iff.mp hp
  have := EqAt.bool_bool (A := A.in1) (s := s) v v
  rwa [beq_self_eq_true] at this
theorem join3 {a b c : List Nat} {t0 t1 t2 t : Tok} {k : Nat} {Q : Value → Shared → Prop} (N : News h₀ L s.heap news) (hm : (D, listOf [Value.str (ofL a) t0, Value.str (ofL b) t1, Value.str (ofL c) t2].toArray k) ∈ news) (ha : a.length ≤ 8) (hb : b.length ≤ 8) (hc : c.length ≤ 8)
    (h : ∀ t' k, Q (.str (ofL (a ++ 39 :: (b ++ 39 :: c))) t') { s with toks := k }) : wpAny (model prog w) A (call (.builtin "str.join") [.str (Str.ofString "'") t, .ref D]) Q E s :=
  join_ofL N hm tick_is (TxtAre.cons a t0 (TxtAre.cons b t1 (TxtAre.cons c t2 TxtAre.nil))) (by simp [List.intersperse]) (by
    simp only [List.map_cons, List.map_nil, ofL_len, List.sum_cons, List.sum_nil, List.length_cons, List.length_nil]; omega) h
end
theorem lp0_len (bs : List Bool) (f : Int) : (lp0 bs f).length ≤ 8 := by unfold lp0; split <;> simp
theorem lp1_len (bs : List Bool) (f : Int) : (lp1 bs f).length ≤ 8 := by unfold lp1; split <;> simp
theorem lp2_len (bs : List Bool) (f : Int) : (lp2 bs f).length ≤ 8 := by unfold lp2; split <;> simp
theorem lpz (bs : List Bool) (f : Int) : (lp0 bs f ++ 39 :: (lp1 bs f ++ 39 :: lp2 bs f)).length ≤ 1000 := by
  have h0 := lp0_len bs f
  have h1 := lp1_len bs f
  have h2 := lp2_len bs f
  simp only [List.length_append, List.length_cons]
  omega
def tb (n : Nat) : List Bool := (List.range 8).map fun k => oddB (n &&& k)
theorem tb_len (n : Nat) : (tb n).length = 8 := len8 _
def dashed (n k : Nat) (l : List Nat) : List Nat := if n % 3 = k then 45 :: l else l
def ld (n : Nat) (x y : List Nat) : Int := if n % 2 = 1 then lev x y else lev y x
def toldI (bs : List Bool) (f : Int) (n : Nat) : Int := 0 + ld n (dashed n 0 (lp0 (tb n) f)) (lp0 bs f) + ld n (dashed n 1 (lp1 (tb n) f)) (lp1 bs f) + ld n (dashed n 2 (lp2 (tb n) f)) (lp2 bs f)
def gainI (bs : List Bool) (f : Int) (n : Nat) : Int := 8 - 2 * (toldI bs f n - 2)
theorem lp0_len7 (bs : List Bool) (f : Int) : (lp0 bs f).length ≤ 7 := by unfold lp0; split <;> simp
theorem lp1_len7 (bs : List Bool) (f : Int) : (lp1 bs f).length ≤ 7 := by unfold lp1; split <;> simp
theorem lp2_len7 (bs : List Bool) (f : Int) : (lp2 bs f).length ≤ 7 := by unfold lp2; split <;> simp
theorem dash_len (n k : Nat) {l : List Nat} (h : l.length ≤ 7) : (dashed n k l).length ≤ 8 := by
  unfold dashed
  split
  · rw [List.length_cons]; omega
  · omega
structure JoinI (x : Str) (K : Int) (h₀ : Heap) (L : Addr) (m : Str → Option Value) (news : List (Addr × Obj)) (s : Shared) (f : Flow) (s' : Shared) : Prop where
  next : f = .next
  here : ∃ t : Tok, KJoinAt h₀ L (fun z => if z = x then some (.int K t) else m z) news s s'
section
variable {M : Model} {A : Around} {E : Value → Shared → Prop} {s : Shared} {h₀ : Heap} {L : Addr} {m : Str → Option Value} {news : List (Addr × Obj)}
theorem join_i (x : Str) {K : Int} {t : Sem Flow} {Q : Flow → Shared → Prop} (_F : Fr h₀ L s.heap m) (_N : News h₀ L s.heap news)
    (h : wpAny M A t (fun f s' => JoinI x K h₀ L m news s f s') E s)
    (k : ∀ u h' tk', Fr h₀ L h' (fun z => if z = x then some (.int K u) else m z) → News h₀ L h' news → Q .next { s with heap := h', toks := tk' }) : wpAny M A t Q E s :=
  wpAny_mono h (fun v s' ⟨e, ⟨t, ⟨⟨h', tk', e', F', N'⟩⟩⟩⟩ => by subst e; subst e'; exact k t h' tk' F' N') fun _ _ e => e
theorem JoinI.mk' {x : Str} {K K' : Int} {t : Tok} {news' : List (Addr × Obj)} {h' : Heap} {tk' : Nat} (F : Fr h₀ L h' (fun z => if z = x then some (.int K' t) else m z)) (N : News h₀ L h' news') (e : K' = K) (hs : ∀ p ∈ news, p ∈ news') :
    JoinI x K h₀ L m news s .next { s with heap := h', toks := tk' } := by
  subst e
  exact ⟨rfl, t, ⟨⟨h', tk', rfl, F, fun p hp => N p (hs p hp)⟩⟩⟩
end
theorem news_trim {h₀ h : Heap} {L : Addr} {a b c d : Addr × Obj} {rest : List (Addr × Obj)} (N : News h₀ L h (a :: b :: c :: d :: rest)) : News h₀ L h (a :: c :: rest) :=
  cb_drop N fun p hp => by
    rcases List.mem_cons.mp hp with rfl | hp
    · exact List.mem_cons_self
    rcases List.mem_cons.mp hp with rfl | hp
    · exact List.mem_cons_of_mem _ (List.mem_cons_of_mem _ List.mem_cons_self)
    · exact List.mem_cons_of_mem _ (List.mem_cons_of_mem _ (List.mem_cons_of_mem _ (List.mem_cons_of_mem _ hp)))
theorem havoc4 {m₁ m₀ : Str → Option Value} (x1 x2 x3 x4 : Str) (h : ∀ z, z ≠ x1 → z ≠ x2 → z ≠ x3 → z ≠ x4 → m₁ z = m₀ z) : ∃ a b c d, m₁ = fun z => if z = x1 then a else if z = x2 then b else if z = x3 then c else if z = x4 then d else m₀ z := by
  refine ⟨m₁ x1, m₁ x2, m₁ x3, m₁ x4, funext fun z => ?_⟩
  by_cases h1 : z = x1
  · rw [if_pos h1, h1]
  by_cases h2 : z = x2
  · rw [if_neg h1, if_pos h2, h2]
  by_cases h3 : z = x3
  · rw [if_neg h1, if_neg h2, if_pos h3, h3]
  by_cases h4 : z = x4
  · rw [if_neg h1, if_neg h2, if_neg h3, if_pos h4, h4]
  · rw [if_neg h1, if_neg h2, if_neg h3, if_neg h4, h z h1 h2 h3 h4]
theorem ints_snoc : ∀ {vs : List Value} {ks : List Int}, IntsAre vs ks → ∀ (k : Int) (t : Tok), IntsAre (vs ++ [.int k t]) (ks ++ [k])
  | _, _, .nil, k, t => IntsAre.cons k t .nil
  | _, _, .cons n u r, k, t => IntsAre.cons n u (ints_snoc r k t)
theorem gains_snoc {vs : List Value} {G : Nat → Int} {i : Nat} {k : Int} {t : Tok} (h : IntsAre vs ((List.range i).map G)) (e : k = G i) : IntsAre (vs ++ [.int k t]) ((List.range (i + 1)).map G) := by
  rw [List.range_succ, List.map_append]
  subst e
  exact ints_snoc h _ _
theorem off1_of {I : Addr} : ∀ {l : List (Addr × Obj)}, (∀ p ∈ l, p.1 ≠ I) → LCg.Off1 I l
  | [], _ => trivial
  | p :: _, h => ⟨h p List.mem_cons_self, off1_of fun q hq => h q (List.mem_cons_of_mem _ hq)⟩
def JJ (G : Nat → Int) (m₀ : Str → Option Value) (gA : Addr) (p1 p2 p3 : Addr × Obj) (cN : Addr) (rest : List (Addr × Obj)) (i : Nat) (m₁ : Str → Option Value) (nw : List (Addr × Obj)) : Prop :=
  (∀ z, z ≠ Str.ofString "signs" → z ≠ Str.ofString "part" → z ≠ Str.ofString "told" → z ≠ Str.ofString "theirs" → m₁ z = m₀ z) ∧
    ∃ (vs : List Value) (c : Nat) (oN : Obj) (v : Option Value), oN.data = Data.cell v ∧ IntsAre vs ((List.range i).map G) ∧ nw = (gA, listOf (List.toArray vs) c) :: p1 :: p2 :: p3 :: (cN, oN) :: rest
def gbit (c : Int) (i : Nat) : Bool := Int.fmod (Int.fdiv c (2 ^ i)) 2 == 1
end Mine
end
section -- Q3
open PySem PySem.W PyProof.Rows
namespace Mine
/-- one where the bits differ -/
def df (b c : Bool) : Int := if b = c then 0 else 1
def g (b : Bool) (i : Nat) : Nat := if b then 65 + i else 97 + i
def dz2 (n k : Nat) : Int := if n % 3 = k then 2 else 0
theorem part0_2 : ∀ n, n < 8 → ∀ a b : Bool, ld n (dashed n 0 (lp0 (tb n) 2)) [g a 0, g b 1] = df a (oddB (n &&& 0)) + df b (oddB (n &&& 1)) + dz2 n 0 := by
  decide +kernel
theorem part1_2 : ∀ n, n < 8 → ∀ a b c : Bool, ld n (dashed n 1 (lp1 (tb n) 2)) [g a 2, g b 3, g c 4] = df a (oddB (n &&& 2)) + df b (oddB (n &&& 3)) + df c (oddB (n &&& 4)) + dz2 n 1 := by
  decide +kernel
theorem part2_2 : ∀ n, n < 8 → ∀ a b c : Bool, ld n (dashed n 2 (lp2 (tb n) 2)) [g a 5, g b 6, 39, g c 7] = df a (oddB (n &&& 5)) + df b (oddB (n &&& 6)) + df c (oddB (n &&& 7)) + dz2 n 2 := by
  decide +kernel
theorem part0_3 : ∀ n, n < 8 → ∀ a b c : Bool, ld n (dashed n 0 (lp0 (tb n) 3)) [g a 0, g b 1, g c 2] = df a (oddB (n &&& 0)) + df b (oddB (n &&& 1)) + df c (oddB (n &&& 2)) + dz2 n 0 := by
  decide +kernel
theorem part1_3 : ∀ n, n < 8 → ∀ a b c : Bool, ld n (dashed n 1 (lp1 (tb n) 3)) [g a 3, g b 4, g c 5] = df a (oddB (n &&& 3)) + df b (oddB (n &&& 4)) + df c (oddB (n &&& 5)) + dz2 n 1 := by
  decide +kernel
theorem part2_3 : ∀ n, n < 8 → ∀ a b : Bool, ld n (dashed n 2 (lp2 (tb n) 3)) [g a 6, 39, g b 7] = df a (oddB (n &&& 6)) + df b (oddB (n &&& 7)) + dz2 n 2 := by
  decide +kernel
end Mine
end
section -- Q4
open PySem PySem.W PyProof.Rows
namespace Mine
def G8 (a b c d e f g h : Bool) (n : Nat) : Int := 8 - 2 * (df a (oddB (n &&& 0)) + df b (oddB (n &&& 1)) + df c (oddB (n &&& 2)) + df d (oddB (n &&& 3)) + df e (oddB (n &&& 4)) + df f (oddB (n &&& 5)) + df g (oddB (n &&& 6)) + df h (oddB (n &&& 7)))
theorem dz3 : ∀ n, n < 8 → dz2 n 0 + dz2 n 1 + dz2 n 2 = 2 := by decide
theorem gain_eq {a b c d e f g h : Bool} {fi : Int} (hf : fi = 2 ∨ fi = 3) {n : Nat} (hn : n < 8) : gainI [a, b, c, d, e, f, g, h] fi n = G8 a b c d e f g h n := by
  have hz := dz3 n hn
  rcases hf with rfl | rfl
  · have h0 := part0_2 n hn a b
    have h1 := part1_2 n hn c d e
    have h2 := part2_2 n hn f g h
    unfold gainI toldI G8
    show 8 - 2 * (0 + ld n (dashed n 0 (lp0 (tb n) 2)) [Mine.g a 0, Mine.g b 1] + ld n (dashed n 1 (lp1 (tb n) 2)) [Mine.g c 2, Mine.g d 3, Mine.g e 4] + ld n (dashed n 2 (lp2 (tb n) 2)) [Mine.g f 5, Mine.g g 6, 39, Mine.g h 7] - 2) = _
    rw [h0, h1, h2]
    omega
  · have h0 := part0_3 n hn a b c
    have h1 := part1_3 n hn d e f
    have h2 := part2_3 n hn g h
    unfold gainI toldI G8
    show 8 - 2 * (0 + ld n (dashed n 0 (lp0 (tb n) 3)) [Mine.g a 0, Mine.g b 1, Mine.g c 2] + ld n (dashed n 1 (lp1 (tb n) 3)) [Mine.g d 3, Mine.g e 4, Mine.g f 5] + ld n (dashed n 2 (lp2 (tb n) 3)) [Mine.g g 6, 39, Mine.g h 7] - 2) = _
    rw [h0, h1, h2]
    omega
theorem squares8 : ∀ a b c d e f g h : Bool, ((List.range 8).map fun n => G8 a b c d e f g h n * G8 a b c d e f g h n).sum = 64 := by decide +kernel
theorem totals8 : ∀ a b c d e f g h : Bool, ∀ k, k < 8 → ((List.range 8).map fun n => if oddB (n &&& k) then 0 - G8 a b c d e f g h n else G8 a b c d e f g h n).sum = if [a, b, c, d, e, f, g, h].getD k false then -8 else 8 := by decide +kernel
end Mine
end
section -- Q5
open PySem PySem.W PyProof.Rows PySem.Calls
namespace Mine
theorem ints_get : ∀ {vs : List Value} {js : List Nat} {G : Nat → Int}, IntsAre vs (js.map G) → ∀ {i : Nat} {v : Value}, vs[i]? = some v → ∃ j t, js[i]? = some j ∧ v = .int (G j) t
  | [], js, G, h, i, v, e => by simp at e
  | w :: vs, [], G, h, i, v, e => by cases h
  | w :: vs, j :: js, G, h, 0, v, e => by
    rw [List.map_cons] at h
    cases h with
    | cons n t r => exact ⟨j, t, rfl, by simpa using e.symm⟩
  | w :: vs, j :: js, G, h, i + 1, v, e => by
    rw [List.map_cons] at h
    cases h with
    | cons n t r =>
      obtain ⟨j', t', h1, h2⟩ := ints_get r (i := i) (v := v) (by simpa using e)
      exact ⟨j', t', by simpa using h1, h2⟩
theorem ints_get8 {vs : List Value} {n : Nat} {G : Nat → Int} (hI : IntsAre vs ((List.range n).map G)) {i : Nat} {v : Value} (h : vs[i]? = some v) : i < n ∧ ∃ t, v = .int (G i) t := by
  obtain ⟨j, t, h1, h2⟩ := ints_get hI h
  have hi : i < n := by
    have := (List.getElem?_eq_some_iff.mp h1).1
    simpa using this
  rw [List.getElem?_range hi] at h1
  cases h1
  exact ⟨hi, t, h2⟩
theorem ints_make {ys : List Value} {n : Nat} {H : Nat → Int} (hl : ys.length = n) (h : ∀ (i : Nat) (v : Value), ys[i]? = some v → ∃ t, v = .int (H i) t) : IntsAre ys ((List.range n).map H) := by
  refine ints_of ys _ (by simpa using hl) fun j v hv => ?_
  have hj : j < n := by
    have := (List.getElem?_eq_some_iff.mp hv).1
    omega
  obtain ⟨t, e⟩ := h j v hv
  refine ⟨t, ?_⟩
  rw [e, List.getD_eq_getElem?_getD, List.getElem?_map, List.getElem?_range hj]
  rfl
theorem eight {bs : List Bool} (h : bs.length = 8) : ∃ a b c d e f g i, bs = [a, b, c, d, e, f, g, i] := by
  match bs, h with
  | [a, b, c, d, e, f, g, i], _ => exact ⟨a, b, c, d, e, f, g, i, rfl⟩
theorem sum_range_congr {F G : Nat → Int} {n : Nat} (h : ∀ i, i < n → F i = G i) : ((List.range n).map F).sum = ((List.range n).map G).sum := by
  congr 1
  exact List.map_congr_left fun i hi => h i (List.mem_range.mp hi)
theorem squares {bs : List Bool} {fi : Int} (hb : bs.length = 8) (hf : fi = 2 ∨ fi = 3) : ((List.range 8).map fun n => gainI bs fi n * gainI bs fi n).sum = 64 := by
  obtain ⟨a, b, c, d, e, f, g, h, rfl⟩ := eight hb
  rw [sum_range_congr (G := fun n => G8 a b c d e f g h n * G8 a b c d e f g h n) fun n hn => by rw [gain_eq hf hn]]
  exact squares8 a b c d e f g h
theorem totals {bs : List Bool} {fi : Int} (hb : bs.length = 8) (hf : fi = 2 ∨ fi = 3) {k : Nat} (hk : k < 8) : ((List.range 8).map fun n => if oddB (n &&& k) then 0 - gainI bs fi n else gainI bs fi n).sum = if bs.getD k false then -8 else 8 := by
  obtain ⟨a, b, c, d, e, f, g, h, rfl⟩ := eight hb
  rw [sum_range_congr (G := fun n => if oddB (n &&& k) then 0 - G8 a b c d e f g h n else G8 a b c d e f g h n) fun n hn => by rw [gain_eq hf hn]]
  exact totals8 a b c d e f g h k hk
theorem squares_of {ys : List Value} {bs : List Bool} {fi : Int} (hb : bs.length = 8) (hf : fi = 2 ∨ fi = 3) (hl : ys.length = 8) (h : ∀ (i : Nat) (v : Value), ys[i]? = some v → ∃ t, v = .int (gainI bs fi i * gainI bs fi i) t) : ∃ ks : List Int, IntsAre ys ks ∧ ks.sum = 64 :=
  ⟨_, ints_make hl h, squares hb hf⟩
theorem totals_of {ys : List Value} {bs : List Bool} {fi : Int} {k : Nat} (hk : k < 8) (hb : bs.length = 8) (hf : fi = 2 ∨ fi = 3) (hl : ys.length = 8) (h : ∀ (i : Nat) (v : Value), ys[i]? = some v → ∃ t, v = .int (if oddB (i &&& k) then 0 - gainI bs fi i else gainI bs fi i) t) : ∃ ks : List Int, IntsAre ys ks ∧ ks.sum = if bs.getD k false then -8 else 8 :=
  ⟨_, ints_make hl h, totals hb hf hk⟩
theorem df_01 (b c : Bool) : 0 ≤ df b c ∧ df b c ≤ 1 := by
  unfold df
  split <;> decide
theorem gain_small {bs : List Bool} {fi : Int} (hb : bs.length = 8) (hf : fi = 2 ∨ fi = 3) {n : Nat} (hn : n < 8) : -100 ≤ gainI bs fi n ∧ gainI bs fi n ≤ 100 := by
  obtain ⟨a, b, c, d, e, f, g, h, rfl⟩ := eight hb
  rw [gain_eq hf hn]
  unfold G8
  have h0 := df_01 a (oddB (n &&& 0))
  have h1 := df_01 b (oddB (n &&& 1))
  have h2 := df_01 c (oddB (n &&& 2))
  have h3 := df_01 d (oddB (n &&& 3))
  have h4 := df_01 e (oddB (n &&& 4))
  have h5 := df_01 f (oddB (n &&& 5))
  have h6 := df_01 g (oddB (n &&& 6))
  have h7 := df_01 h (oddB (n &&& 7))
  omega
theorem gain_ok {bs : List Bool} {fi : Int} (hb : bs.length = 8) (hf : fi = 2 ∨ fi = 3) {n : Nat} (hn : n < 8) : IntMulOk (gainI bs fi n) (gainI bs fi n) := by
  obtain ⟨h1, h2⟩ := gain_small hb hf hn
  exact PySem.IntMulOk.of_left (PySem.intBits_le_64 (by omega) (by omega))
end Mine
end
section -- L00
open PySem PySem.W PyProof.Rows PySem.Calls
namespace Mine
theorem and_lt : ∀ i, i < 8 → ∀ j, j < 8 → Builtin.bitAnd (0 + ((i : Nat) : Int)) (0 + ((j : Nat) : Int)) = ((i &&& j : Nat) : Int) ∧ i &&& j < 8 := by decide +kernel
theorem dz {l : List Nat} (h : l.length ≤ 8) : [45].length + l.length ≤ 1000 := by
  rw [List.length_singleton]; omega
theorem dash_pos {i k : Nat} {l : List Nat} (h : 0 + ((k : Nat) : Int) = Int.fmod (0 + (i : Int)) 3) : ofL ([45] ++ l) = ofL (dashed i k l) := by
  rw [Int.fmod_eq_emod_of_nonneg _ (by decide)] at h
  unfold dashed
  rw [if_pos (by omega)]
  rfl
theorem dash_neg {i k : Nat} {l : List Nat} (h : 0 + ((k : Nat) : Int) ≠ Int.fmod (0 + (i : Int)) 3) : ofL l = ofL (dashed i k l) := by
  rw [Int.fmod_eq_emod_of_nonneg _ (by decide)] at h
  unfold dashed
  rw [if_neg (by omega)]
theorem ld_pos {i : Nat} {x y : List Nat} {c : Int} (h : Int.fmod (0 + (i : Int)) 2 = 1) : c + lev x y = c + ld i x y := by
  rw [Int.fmod_eq_emod_of_nonneg _ (by decide)] at h
  unfold ld
  rw [if_pos (by omega)]
theorem ld_neg {i : Nat} {x y : List Nat} {c : Int} (h : Int.fmod (0 + (i : Int)) 2 ≠ 1) : c + lev y x = c + ld i x y := by
  rw [Int.fmod_eq_emod_of_nonneg _ (by decide)] at h
  unfold ld
  rw [if_neg (by omega)]
section
variable {prog : Program} {w : World} {A : Around} {E : Value → Shared → Prop} {s : Shared} {value slice : Expr} {t u : Tok} {h₀ : Heap} {L D : Addr} {m : Str → Option Value} {news : List (Addr × Obj)} {Q : Value → Shared → Prop}
theorem and8 {i j : Nat} (hi : i < 8) (hj : j < 8) (h : Q (.int ((i &&& j : Nat) : Int) s.toks) { s with toks := s.toks + 1 }) : wpAny (model prog w) A (binaryOp .BitAnd (.int (0 + (i : Int)) t) (.int (0 + (j : Int)) u)) Q E s := by
  refine and_int ?_
  rw [(and_lt i hi j hj).1]
  exact h
theorem append_vs {vs : List Value} {n : Nat} {x : Value} {news' : List (Addr × Obj)} (F : Fr h₀ L s.heap m) (N : News h₀ L s.heap news) (U : Upd D (listOf vs.toArray n) (listOf (vs ++ [x]).toArray (n + 1)) news news') (hl : vs.length ≤ 1000)
    (h : ∀ h', Fr h₀ L h' m → News h₀ L h' news' → Q .none { s with heap := h' }) : wpAny (model prog w) A (call (.builtin "list.append") [.ref D, x]) Q E s :=
  append_K F N (by rw [List.push_toArray]; exact U) h (by rw [sizeLine_eq, List.size_toArray]; omega)
theorem turned_item {x c : Nat} {u : Tok} (N : News h₀ L s.heap news) (hm : (D, listOf (((List.range 8).map oddB).map Value.bool).toArray c) ∈ news) (hx : x < 8) (h : Q (.bool (oddB x)) s)
    (hs : subscripted slice false (.ref D) (.int (x : Int) u) = operate [.ref D, .int (x : Int) u] (getItem (.ref D) (.int (x : Int) u)) := by with_unfolding_all rfl) :
    wpAny (model prog w) A (subscriptTail value slice (.ref D) (.int (x : Int) u)) Q E s := by
  refine bool_item N hm (by omega) (by rw [len8]; omega) (by rw [len8]; omega) ?_ hs
  have e : ((List.range 8).map oddB).getD ((x : Nat) : Int).toNat false = oddB x := by
    rw [Int.toNat_natCast, List.getD_eq_getElem?_getD, List.getElem?_map, List.getElem?_range hx]
    rfl
  rw [e]
  exact h
theorem gains_item {vs : List Value} {G : Nat → Int} {i c : Nat} {u : Tok} (N : News h₀ L s.heap news) (hm : (D, listOf vs.toArray c) ∈ news) (hI : IntsAre vs ((List.range 8).map G)) (hi : i < 8) (h : ∀ t, Q (.int (G i) t) s)
    (hs : subscripted slice false (.ref D) (.int (0 + (i : Int)) u) = operate [.ref D, .int (0 + (i : Int)) u] (getItem (.ref D) (.int (0 + (i : Int)) u)) := by with_unfolding_all rfl) :
    wpAny (model prog w) A (subscriptTail value slice (.ref D) (.int (0 + (i : Int)) u)) Q E s := by
  have hl : s.heap.IsList D vs.toArray := ⟨_, (N _ hm).1, rfl, c, rfl⟩
  have hL : vs.length = 8 := by rw [hI.length, List.length_map, List.length_range]
  have hi2 : i < vs.length := by omega
  obtain ⟨_, t, ht⟩ := ints_get8 hI (List.getElem?_eq_getElem hi2)
  refine tail_any hl.typeIs slot_list_getitem.lookup (wpAny_getItem_list hl (by omega) (by simp; omega) (x := .int (G i) t) ?_ (h t)) hs
  have e : (0 + (i : Int)).toNat = i := by omega
  rw [e, ← ht]
  simp [hi2]
theorem great_item {bs : List Bool} {i c : Nat} {u : Tok} (N : News h₀ L s.heap news) (hm : (D, listOf (bs.map Value.bool).toArray c) ∈ news) (hb : bs.length = 8) (hi : i < 8) (h : Q (.bool (bs.getD i false)) s)
    (hs : subscripted slice false (.ref D) (.int (0 + (i : Int)) u) = operate [.ref D, .int (0 + (i : Int)) u] (getItem (.ref D) (.int (0 + (i : Int)) u)) := by with_unfolding_all rfl) :
    wpAny (model prog w) A (subscriptTail value slice (.ref D) (.int (0 + (i : Int)) u)) Q E s := by
  refine bool_item N hm (by omega) (by omega) (by omega) ?_ hs
  have e : (0 + (i : Int)).toNat = i := by omega
  rw [e]
  exact h
theorem p8 : ∀ i, i < 8 → ((2 : Int) ^ i) ≠ 0 ∧ ((2 : Int) ^ i).natAbs < 1073741824 := by decide
theorem pow8 {i : Nat} (hi : i < 8) (h : Q (.int ((2 : Int) ^ i) s.toks) { s with toks := s.toks + 1 }) : wpAny (model prog w) A (binaryOp .Pow (.int 2 t) (.int (0 + (i : Int)) u)) Q E s := by
  have e : (0 + (i : Int)).toNat = i := by omega
  have e2 : Builtin.Int.intBits 2 = 2 := by decide +kernel
  refine pow_int (by omega) ?_ ?_
  · rw [e2]; omega
  · rw [e]; exact h
theorem fdiv8 {i : Nat} {c : Int} (hi : i < 8) (h : Q (.int (Int.fdiv c ((2 : Int) ^ i)) s.toks) { s with toks := s.toks + 1 }) : wpAny (model prog w) A (binaryOp .FloorDiv (.int c t) (.int ((2 : Int) ^ i) u)) Q E s :=
  floordiv_int (p8 i hi).1 h (Or.inl (PyProof.noPylong_small (p8 i hi).2))
theorem mul_gain {bs : List Bool} {fi : Int} {i : Nat} (hb : bs.length = 8) (hf : fi = 2 ∨ fi = 3) (hi : i < 8) (h : Q (.int (gainI bs fi i * gainI bs fi i) s.toks) { s with toks := s.toks + 1 }) : wpAny (model prog w) A (binaryOp .Mult (.int (gainI bs fi i) t) (.int (gainI bs fi i) u)) Q E s :=
  mul_int h (gain_ok hb hf hi)
theorem great_at {bs : List Bool} {b : Bool} {i c : Nat} {u : Tok} (N : News h₀ L s.heap news) (hm : (D, listOf (bs.map Value.bool).toArray c) ∈ news) (hb : bs.length = 8) (hi : i < 8) (hg : bs.getD i false = b) (h : Q (.bool b) s)
    (hs : subscripted slice false (.ref D) (.int (0 + (i : Int)) u) = operate [.ref D, .int (0 + (i : Int)) u] (getItem (.ref D) (.int (0 + (i : Int)) u)) := by with_unfolding_all rfl) :
    wpAny (model prog w) A (subscriptTail value slice (.ref D) (.int (0 + (i : Int)) u)) Q E s := by
  subst hg
  exact great_item N hm hb hi h hs
theorem sum_is {vs : List Value} {ns : List Int} {K : Int} {c : Nat} (hh : A.handled = none) (F : Fr h₀ L s.heap m) (N : News h₀ L s.heap news) (hm : (D, listOf vs.toArray c) ∈ news) (hi : IntsAre vs ns) (hK : ns.sum = K)
    (h : ∀ h' tk t', Fr h₀ L h' m → News h₀ L h' news → Q (.int K t') { s with heap := h', toks := tk }) :
    wpAny (model prog w) A (call (.builtin "sum") [.ref D]) Q E s := by
  subst hK
  exact sum_led hh F N hm hi h
end
theorem news_trim2 {h₀ h : Heap} {L : Addr} {a b c d e : Addr × Obj} {rest : List (Addr × Obj)} (N : News h₀ L h (a :: b :: c :: d :: e :: rest)) : News h₀ L h (b :: c :: e :: rest) :=
  cb_drop N fun p hp => by
    rcases List.mem_cons.mp hp with rfl | hp
    · exact List.mem_cons_of_mem _ List.mem_cons_self
    rcases List.mem_cons.mp hp with rfl | hp
    · exact List.mem_cons_of_mem _ (List.mem_cons_of_mem _ List.mem_cons_self)
    · exact List.mem_cons_of_mem _ (List.mem_cons_of_mem _ (List.mem_cons_of_mem _ (List.mem_cons_of_mem _ hp)))
theorem havoc1 {m₁ m₀ : Str → Option Value} (x1 : Str) (h : ∀ z, z ≠ x1 → m₁ z = m₀ z) : ∃ a, m₁ = fun z => if z = x1 then a else m₀ z := by
  refine ⟨m₁ x1, funext fun z => ?_⟩
  by_cases h1 : z = x1
  · rw [if_pos h1, h1]
  · rw [if_neg h1, h z h1]
theorem in1 {a b c : Prop} (h : a ∧ b ∧ c) : b := h.2.1
theorem in2 {a b c d : Prop} (h : a ∧ b ∧ c ∧ d) : c := h.2.2.1
theorem in3 {a b c d e : Prop} (h : a ∧ b ∧ c ∧ d ∧ e) : d := h.2.2.2.1
theorem in4 {a b c d e f : Prop} (h : a ∧ b ∧ c ∧ d ∧ e ∧ f) : e := h.2.2.2.2.1
theorem in5 {a b c d e f g : Prop} (h : a ∧ b ∧ c ∧ d ∧ e ∧ f ∧ g) : f := h.2.2.2.2.2.1
theorem in6 {a b c d e f g i : Prop} (h : a ∧ b ∧ c ∧ d ∧ e ∧ f ∧ g ∧ i) : g := h.2.2.2.2.2.2.1
theorem in7 {a b c d e f g i j : Prop} (h : a ∧ b ∧ c ∧ d ∧ e ∧ f ∧ g ∧ i ∧ j) : i := h.2.2.2.2.2.2.2.1
theorem en2 {a b c : Prop} (h : a ∧ b ∧ c) : c := h.2.2
theorem en3 {a b c d : Prop} (h : a ∧ b ∧ c ∧ d) : d := h.2.2.2
theorem en4 {a b c d e : Prop} (h : a ∧ b ∧ c ∧ d ∧ e) : e := h.2.2.2.2
theorem en5 {a b c d e f : Prop} (h : a ∧ b ∧ c ∧ d ∧ e ∧ f) : f := h.2.2.2.2.2
theorem en6 {a b c d e f g : Prop} (h : a ∧ b ∧ c ∧ d ∧ e ∧ f ∧ g) : g := h.2.2.2.2.2.2
theorem en7 {a b c d e f g i : Prop} (h : a ∧ b ∧ c ∧ d ∧ e ∧ f ∧ g ∧ i) : i := h.2.2.2.2.2.2.2
theorem en8 {a b c d e f g i j : Prop} (h : a ∧ b ∧ c ∧ d ∧ e ∧ f ∧ g ∧ i ∧ j) : j := h.2.2.2.2.2.2.2.2
def JK (m₀ : Str → Option Value) (p1 p2 p3 p4 p5 p6 : Addr × Obj) (cK : Addr) (rest : List (Addr × Obj)) (_i : Nat) (m₁ : Str → Option Value) (nw : List (Addr × Obj)) : Prop :=
  (∀ z, z ≠ Str.ofString "total" → m₁ z = m₀ z) ∧ ∃ (oK : Obj) (v : Option Value), oK.data = Data.cell v ∧ nw = p1 :: p2 :: p3 :: p4 :: p5 :: p6 :: (cK, oK) :: rest
end Mine
end
section -- L1
open PySem PySem.W PyProof.Rows
namespace Mine
local macro_rules | `(tactic| kpc_turns) => `(tactic| ((case k1 => k_asm); (case k2 => k_asm); (case k3 => k_asm); (case k4 => k_asm); (case k5 => k_asm); (case k6 => first | exact rfl | assumption); (case k7 => first | omega | ktr_room); (case k8 => first | omega | ktr_units)))
local macro_rules | `(tactic| kpt_turns) => `(tactic| (first | (k_unfold; (try dsimp only)) | (k_end; wrow_close) | walk1 | (dsimp only; walk1) | (leave1; walk_say "STEP leave1"; try dsimp only) | fail "no step"))
local macro_rules | `(tactic| kfm_turns) => `(tactic| ((try dsimp only); (try k_fold); (try k_sweep)))
local macro_rules | `(tactic| kaf_suf) => `(tactic| (first | exact lp0_len _ _ | exact lp1_len _ _ | exact lp2_len _ _ | exact dash_len _ _ (lp0_len7 _ _) | exact dash_len _ _ (lp1_len7 _ _) | exact dash_len _ _ (lp2_len7 _ _)))
local macro_rules | `(tactic| kaf_pre) => `(tactic| first | assumption | exact And.left (by assumption) | exact in1 (by assumption) | exact in2 (by assumption) | exact in3 (by assumption) | exact in4 (by assumption) | exact in5 (by assumption) | exact in6 (by assumption) | exact in7 (by assumption) | exact And.right (by assumption) | exact en2 (by assumption) | exact en3 (by assumption) | exact en4 (by assumption) | exact en5 (by assumption) | exact en6 (by assumption) | exact en7 (by assumption) | exact en8 (by assumption))
local macro_rules | `(tactic| k_ne) => `(tactic| (refine neN ?_; (try dsimp only); with_reducible first | kaf_pre | (refine Ne.symm ?_; kaf_pre) | (refine Nat.ne_of_gt ?_; kaf_pre) | (refine Nat.ne_of_lt ?_; kaf_pre)))
local macro_rules | `(tactic| ktr_unf) => `(tactic| repeat' ((fail_if_success (with_reducible show wpAny _ _ (eval (Expr.ListComp _ _ _ _) _) _ _ _)); (fail_if_success (with_reducible show wpAny _ _ (exec (Stmt.Assign _ (Expr.ListComp _ _ _ _) _) _) _ _ _)); (fail_if_success (with_reducible show wpAny _ _ (exec (Stmt.For _ _ _ _ _) _) _ _ _)); (fail_if_success (with_reducible show UnrEnd _ _ _ _ _ _ _)); kpt_turns))
local macro_rules | `(tactic| ktn_open) => `(tactic| repeat' ((fail_if_success (show LCg.CompSrc _ _ _ _ _ _ _ _ _ _ _ _ _ _)); kpt_turns))
local macro_rules | `(tactic| kat_tups) => `(tactic| repeat' ((fail_if_success (with_reducible show LCg.CompEnd _ _ _ _ _ _ _ _ _ _ _ _ _ _)); kpt_turns))
local macro_rules | `(tactic| walk_at "call builtin:sum") => `(tactic| (k_here; (with_reducible show wpAny _ _ (call (Value.builtin "sum") [Value.ref _]) _ _ _); k_dflt (refine' sum_is ?kH ?kF ?kN ?kM ?kI ?kS ?_; (case kH => with_unfolding_all rfl); (case kF => k_asm); (case kN => k_asm); (case kM => k_mem); (case kI => assumption); (case kS => assumption); k_whole); intro h' tk' t' F' N'; (try k_sweep)))
local macro_rules | `(tactic| walk_at "call builtin:sum") => `(tactic| (k_here; (with_reducible show wpAny _ _ (call (Value.builtin "sum") [Value.ref _]) _ _ _); k_dflt (refine' sum_drop ?kH ?kF ?kN ?kI ?_; (case kH => with_unfolding_all rfl); (case kF => k_asm); (case kN => k_asm); (case kI => assumption); k_whole); intro h' tk' t' F' N'; (try k_sweep)))
local macro_rules | `(tactic| walk_at "call builtin:str.join") => `(tactic| (k_here; (with_reducible show wpAny _ _ (call (Value.builtin "str.join") [Value.str (Str.ofString "'") _, Value.ref _]) _ _ _); k_dflt (refine' join3 ?N ?hm ?ha ?hb ?hc ?_; (case N => k_asm); (case hm => k_mem); (case ha => exact lp0_len _ _); (case hb => exact lp1_len _ _); (case hc => exact lp2_len _ _)); intro t' k'))
local macro_rules | `(tactic| walk_at "call ref") => `(tactic| (k_here; (with_reducible show wpAny _ _ (call (Value.ref 62) [Value.ref _, Value.int _ _]) _ _ _); k_dflt (refine' parts_call ?hg ?hb ?hf ?k1 ?k2 ?k3 ?k4 ?k5 ?k6 ?k7 ?k8 ?_; kpc_turns; (case hg => k_mem); (case hb => assumption); (case hf => assumption); k_whole); intro r9 c9 t9 t9' t9'' h9 tk9 F9 N9 b9; (try k_lt b9); kfm_turns))
local macro_rules | `(tactic| walk_at "call ref") => `(tactic| (k_here; (with_reducible show wpAny _ _ (call (Value.ref 43) [Value.str (ofL (lp0 _ _ ++ _)) _]) _ _ _); k_dflt (refine' decode_call ?hs ?hl ?k1 ?k2 ?k3 ?k4 ?k5 ?k6 ?k7 ?k8 ?_; kpc_turns; (case hs => exact split_parts _ (by assumption)); (case hl => exact lpz _ _); k_whole); intro r9 c9 t9 t9' t9'' h9 tk9 F9 N9 b9; (try k_lt b9); kfm_turns))
local macro_rules | `(tactic| walk_at "compareOp NotEq ref ref") => `(tactic| (k_here; (with_reducible show wpAny _ _ (compareOp CmpOp.NotEq (Value.ref _) (Value.ref _)) _ _ _); k_dflt (first
  | (refine' ne_texts ?kA ?kB ?kC ?kU ?_; (case kA => k_asm); (case kB => k_mem); (case kC => k_mem); (case kU => ktr_units))
  | (refine' ne_bools ?kA ?kB ?kC ?kU ?_; (case kA => k_asm); (case kB => k_mem); (case kC => k_mem); (case kU => ktr_units)))))
local macro_rules | `(tactic| walk_at "binaryOp BitAnd int int") => `(tactic| (k_here; (with_reducible show wpAny _ _ (binaryOp _ (Value.int (0 + ((_ : Nat) : Int)) _) (Value.int (0 + ((_ : Nat) : Int)) _)) _ _ _); refine' and8 ?hi ?hj ?_; (case hi => assumption); (case hj => assumption)))
local macro_rules | `(tactic| walk_at "subscriptTail Name BinOp ref int") => `(tactic| (k_here; (with_reducible show wpAny _ _ (subscriptTail _ _ (Value.ref _) (Value.int ((_ &&& _ : Nat) : Int) _)) _ _ _); k_dflt (refine' turned_item ?k1 ?k2 ?k3 ?_; (case k1 => k_asm); (case k2 => k_mem); (case k3 => exact (and_lt _ (by assumption) _ (by assumption)).2))))
local macro_rules | `(tactic| walk_at "binaryOp Add str str") => `(tactic| (k_here; (with_reducible show wpAny _ _ (binaryOp _ (Value.str (Str.ofString "-") _) (Value.str (ofL _) _)) _ _ _); k_dflt (refine' add_ofL dash_is rfl rfl ?hz ?_; (case hz => first | exact dz (lp0_len _ _) | exact dz (lp1_len _ _) | exact dz (lp2_len _ _))); intro t' k'))
local macro_rules | `(tactic| kbt_split) => `(tactic| repeat' ((fail_if_success (with_reducible show wpAny _ _ (eval (Expr.IfExp _ _ _ _) _) _ _ _)); (fail_if_success (with_reducible show wpAny _ _ (exec (Stmt.If _ _ _ _) _) _ _ _)); (fail_if_success (with_reducible show JoinStr _ _ _ _ _ _ _ _)); (fail_if_success (with_reducible show JoinI _ _ _ _ _ _ _ _ _)); (fail_if_success (with_reducible show UnrEnd _ _ _ _ _ _ _)); kpt_turns))
local macro_rules | `(tactic| walk_at "call ref") => `(tactic| (k_here; (with_reducible show wpAny _ _ (call (Value.ref 28) [Value.str (ofL _) _, Value.str (ofL _) _, Value.int 8 _]) _ _ _); k_dflt (refine' lev_ok _ _ _ _ _ _ _ _ _ ?hx ?hy _ _ _ _ _ _ _ _ _ _ _ _ _ _ _ _ _ _ ?k1 ?k2 ?k3 ?k4 ?k5 ?k6 ?k7 ?k8 ?_; kpc_turns; (case hx => kaf_suf); (case hy => kaf_suf)); intro t9 h9 tk9 F9 N9; kfm_turns))
local macro_rules | `(tactic| walk_at "subscriptTail Name Name ref int") => `(tactic| (k_here; (with_reducible show wpAny _ _ (subscriptTail _ _ (Value.ref _) (Value.int (0 + ((_ : Nat) : Int)) _)) _ _ _); k_dflt (refine' great_at ?k1 ?k2 ?k3 ?k4 ?k5 ?_; (case k1 => k_asm); (case k2 => k_mem); (case k3 => assumption); (case k4 => assumption); (case k5 => assumption))))
local macro_rules | `(tactic| walk_at "subscriptTail Name Name ref int") => `(tactic| (k_here; (with_reducible show wpAny _ _ (subscriptTail _ _ (Value.ref _) (Value.int (0 + ((_ : Nat) : Int)) _)) _ _ _); k_dflt (refine' gains_item ?k1 ?k2 ?k3 ?k4 ?_; (case k1 => k_asm); (case k2 => k_mem); (case k3 => assumption); (case k4 => assumption)); intro t'))
set_option maxHeartbeats 8000000 in
set_option pp.maxSteps 3000 in
theorem t : PySem.Challenge.rw_sn0016_01.Holds := hd (by
  w_top off
  k_go0
  (all_goals try k_fold)
  ktr_unf
  (rename IntsAre _ _ => hI); (rename ¬ ((63 : Int) < _) => hC)
  k_dflt (refine LCg.ListComp_U (F₀ := by k_asm) (by with_unfolding_all rfl) (by decide) (by rfl) (by decide) (by rfl) ?_)
  ktn_open
  k_dflt (refine LCg.CompSrc.ledger (by rfl) (by k_asm) (by k_asm) (by k_mem) (by rw [sizeLine_eq]; have := pick_size hI hC (some 0) (some 60) (some 2); omega) ?_)
  intro gA
  refine comp_rest (fun i v => ∃ k t, v = Value.int k t) ?turn ?fin
  case turn =>
    intro i v I oI C oC D m₂ ys h tk E' hi hv hC hx F N off ne
    obtain ⟨k, t, hv⟩ := pick_at hI hv
    subst hv
    kat_tups
    refine' LCg.CompEnd.intro (by k_asm) (by k_asm) _ (fun p hp => hp) off (by k_dflt exact (Or.inr ⟨_, (by k_mem), rfl, _, rfl⟩)) (And.intro rfl ⟨_, _, rfl⟩)
  case fin =>
    intro ys hl hR
    obtain ⟨ks, hK, hl2⟩ := ints_some hR
    unfold LCg.FinE
    intro D h tk F N o1
    ktr_unf
    clear hK hl2 hR hl
    k_dflt (refine LCg.ListComp_U (F₀ := by k_asm) (by with_unfolding_all rfl) (by decide) (by rfl) (by decide) (by rfl) ?_)
    ktn_open
    k_dflt (refine LCg.CompSrc.ledger (by rfl) (by k_asm) (by k_asm) (by k_mem) (by rw [sizeLine_eq]; have := pick_size hI hC (some 1) (some 60) (some 2); omega) ?_)
    intro gA
    refine comp_rest (fun i v => ∃ k t, v = Value.int k t) ?turnX ?finX
    case turnX =>
      intro i v I oI C oC D m₂ ys h tk E' hi hv hC hx F N off ne
      obtain ⟨k, t, hv⟩ := pick_at hI hv
      subst hv
      kat_tups
      refine' LCg.CompEnd.intro (by k_asm) (by k_asm) _ (fun p hp => hp) off (by k_dflt exact (Or.inr ⟨_, (by k_mem), rfl, _, rfl⟩)) (And.intro rfl ⟨_, _, rfl⟩)
    case finX =>
      intro ys hl hR
      obtain ⟨ks2, hK, hl2⟩ := ints_some hR
      unfold LCg.FinE
      intro D h tk F N o1
      ktr_unf
      clear hK hl2 hR hl
      have hch : 0 ≤ Int.fmod (232 + ks.sum) 256 ∧ Int.fmod (232 + ks.sum) 256 < 256 := by rw [Int.fmod_eq_emod_of_nonneg _ (by decide)]; omega
      have hfi : 2 + Int.fmod (1 + ks2.sum) 2 = 2 ∨ 2 + Int.fmod (1 + ks2.sum) 2 = 3 := by
        rw [Int.fmod_eq_emod_of_nonneg _ (by decide)]
        omega
      generalize Int.fmod (232 + ks.sum) 256 = ch at *
      generalize 2 + Int.fmod (1 + ks2.sum) 2 = fi at *
      k_dflt (refine LCg.Assign_ListComp_U (F₀ := by k_asm) (by rfl) (by with_unfolding_all rfl) (by with_unfolding_all rfl) (by decide) (by rfl) (by decide) (by rfl) (by rfl) (by rfl) ?_)
      ktn_open
      k_dflt (refine LCg.CompSrc.range (by rfl) (by k_asm) (by k_asm) (by assumption) (by decide) (by rfl) (by exact Nat.le_of_ble_eq_true rfl) ?_)
      intro gA
      refine comp_rest (n := 8) (fun i v => v = Value.bool (gbit ch i)) ?turnY ?finY
      case turnY =>
        intro i v I oI C oC D m₂ ys h tk E' hi hv hC hx F N off ne
        obtain ⟨t, hv⟩ := hv
        subst hv
        repeat' ((fail_if_success (with_reducible show wpAny _ _ (binaryOp Operator.Pow _ _) _ _ _)); kpt_turns)
        k_here
        refine pow8 (by assumption) ?_
        repeat' ((fail_if_success (with_reducible show wpAny _ _ (binaryOp Operator.FloorDiv _ _) _ _ _)); kpt_turns)
        k_here
        refine fdiv8 (by assumption) ?_
        kat_tups
        refine' LCg.CompEnd.intro (by k_asm) (by k_asm) _ (fun p hp => hp) off trivial (And.intro rfl rfl)
      case finY =>
        intro ys hl hR
        have ey := bools_of hl hR
        subst ey
        clear hl hR hch
        have hb8 := len8 (gbit ch)
        generalize (List.range 8).map (gbit ch) = bs at *
        unfold LCg.FinA
        intro dG h tk F N o1
        simp only [LCg.Off1, and_true] at o1
        ktr_unf
        walk1
        k_dflt (refine LCg.ListComp_U (F₀ := by k_asm) (by with_unfolding_all rfl) (by decide) (by rfl) (by decide) (by rfl) ?_)
        ktn_open
        k_dflt (refine LCg.CompSrc.range (by rfl) (by k_asm) (by k_asm) (by assumption) (by decide) (by rfl) (by exact Nat.le_of_ble_eq_true rfl) ?_)
        intro gA
        refine comp_rest (n := 8) (fun i v => v = Value.bool (oddB i)) ?turnZ ?finZ
        case turnZ =>
          intro i v I oI C oC D m₂ ys h tk E' hi hv hC hx F N off ne
          obtain ⟨t, hv⟩ := hv
          have hc8 : i = 0 ∨ i = 1 ∨ i = 2 ∨ i = 3 ∨ i = 4 ∨ i = 5 ∨ i = 6 ∨ i = 7 := by omega
          rcases hc8 with h | h | h | h | h | h | h | h <;> subst h
          · have hv' : v = Value.int 0 t := hv
            subst hv'
            repeat' ((fail_if_success (with_reducible show wpAny _ _ (call (Value.ref 36) _) _ _ _)); kpt_turns)
            k_here
            k_dflt (refine' pf_call1 ?k1 ?k2 ?k3 ?k4 ?k5 ?k6 ?k7 ?k8 ?_; kpc_turns)
            intro t9 h9 tk9 F9 N9
            kfm_turns
            kat_tups
            refine' LCg.CompEnd.intro (by k_asm) (by k_asm) _ (fun p hp => by first | exact hp | exact List.mem_cons_of_mem _ hp) off trivial (And.intro rfl (by first | rfl | decide))
          · have hv' : v = Value.int 1 t := hv
            subst hv'
            repeat' ((fail_if_success (with_reducible show wpAny _ _ (call (Value.ref 36) _) _ _ _)); kpt_turns)
            k_here
            k_dflt (refine' pf_call3 ?k1 ?k2 ?k3 ?k4 ?k5 ?k6 ?k7 ?k8 ?_; kpc_turns)
            intro t9 h9 tk9 F9 N9
            kfm_turns
            kat_tups
            refine' LCg.CompEnd.intro (by k_asm) (by k_asm) _ (fun p hp => by first | exact hp | exact List.mem_cons_of_mem _ hp) off trivial (And.intro rfl (by first | rfl | decide))
          · have hv' : v = Value.int 2 t := hv
            subst hv'
            repeat' ((fail_if_success (with_reducible show wpAny _ _ (call (Value.ref 36) _) _ _ _)); kpt_turns)
            k_here
            k_dflt (refine' pf_call5 ?k1 ?k2 ?k3 ?k4 ?k5 ?k6 ?k7 ?k8 ?_; kpc_turns)
            intro t9 h9 tk9 F9 N9
            kfm_turns
            kat_tups
            refine' LCg.CompEnd.intro (by k_asm) (by k_asm) _ (fun p hp => by first | exact hp | exact List.mem_cons_of_mem _ hp) off trivial (And.intro rfl (by first | rfl | decide))
          · have hv' : v = Value.int 3 t := hv
            subst hv'
            repeat' ((fail_if_success (with_reducible show wpAny _ _ (call (Value.ref 36) _) _ _ _)); kpt_turns)
            k_here
            k_dflt (refine' pf_call7 ?k1 ?k2 ?k3 ?k4 ?k5 ?k6 ?k7 ?k8 ?_; kpc_turns)
            intro t9 h9 tk9 F9 N9
            kfm_turns
            kat_tups
            refine' LCg.CompEnd.intro (by k_asm) (by k_asm) _ (fun p hp => by first | exact hp | exact List.mem_cons_of_mem _ hp) off trivial (And.intro rfl (by first | rfl | decide))
          · have hv' : v = Value.int 4 t := hv
            subst hv'
            repeat' ((fail_if_success (with_reducible show wpAny _ _ (call (Value.ref 36) _) _ _ _)); kpt_turns)
            k_here
            k_dflt (refine' pf_call9 ?k1 ?k2 ?k3 ?k4 ?k5 ?k6 ?k7 ?k8 ?_; kpc_turns)
            intro t9 h9 tk9 F9 N9
            kfm_turns
            kat_tups
            refine' LCg.CompEnd.intro (by k_asm) (by k_asm) _ (fun p hp => by first | exact hp | exact List.mem_cons_of_mem _ hp) off trivial (And.intro rfl (by first | rfl | decide))
          · have hv' : v = Value.int 5 t := hv
            subst hv'
            repeat' ((fail_if_success (with_reducible show wpAny _ _ (call (Value.ref 36) _) _ _ _)); kpt_turns)
            k_here
            k_dflt (refine' pf_call11 ?k1 ?k2 ?k3 ?k4 ?k5 ?k6 ?k7 ?k8 ?_; kpc_turns)
            intro t9 h9 tk9 F9 N9
            kfm_turns
            kat_tups
            refine' LCg.CompEnd.intro (by k_asm) (by k_asm) _ (fun p hp => by first | exact hp | exact List.mem_cons_of_mem _ hp) off trivial (And.intro rfl (by first | rfl | decide))
          · have hv' : v = Value.int 6 t := hv
            subst hv'
            repeat' ((fail_if_success (with_reducible show wpAny _ _ (call (Value.ref 36) _) _ _ _)); kpt_turns)
            k_here
            k_dflt (refine' pf_call13 ?k1 ?k2 ?k3 ?k4 ?k5 ?k6 ?k7 ?k8 ?_; kpc_turns)
            intro t9 h9 tk9 F9 N9
            kfm_turns
            kat_tups
            refine' LCg.CompEnd.intro (by k_asm) (by k_asm) _ (fun p hp => by first | exact hp | exact List.mem_cons_of_mem _ hp) off trivial (And.intro rfl (by first | rfl | decide))
          · have hv' : v = Value.int 7 t := hv
            subst hv'
            repeat' ((fail_if_success (with_reducible show wpAny _ _ (call (Value.ref 36) _) _ _ _)); kpt_turns)
            k_here
            k_dflt (refine' pf_call15 ?k1 ?k2 ?k3 ?k4 ?k5 ?k6 ?k7 ?k8 ?_; kpc_turns)
            intro t9 h9 tk9 F9 N9
            kfm_turns
            kat_tups
            refine' LCg.CompEnd.intro (by k_asm) (by k_asm) _ (fun p hp => by first | exact hp | exact List.mem_cons_of_mem _ hp) off trivial (And.intro rfl (by first | rfl | decide))
        case finZ =>
          intro ys hl hR
          have ey := bools_of hl hR
          subst ey
          clear hl hR
          unfold LCg.FinE
          intro dT h tk F N o1
          simp only [LCg.Off1, and_true] at o1
          ktr_unf
          k_dflt (refine LCg.ListComp_U (F₀ := by k_asm) (by with_unfolding_all rfl) (by decide) (by rfl) (by decide) (by rfl) ?_)
          ktn_open
          k_dflt (refine LCg.CompSrc.range (by rfl) (by k_asm) (by k_asm) (by assumption) (by decide) (by rfl) (by exact Nat.le_of_ble_eq_true rfl) ?_)
          intro gA
          refine comp_rest (n := 8) (fun i v => v = Value.bool (oddB i)) ?turnW ?finW
          case turnW =>
            intro i v I oI C oC D m₂ ys h tk E' hi hv hC hx F N off ne
            obtain ⟨t, hv⟩ := hv
            subst hv
            repeat' ((fail_if_success (with_reducible show wpAny _ _ (call (Value.ref 69) _) _ _ _)); kpt_turns)
            k_here
            k_dflt (refine' odd_call ?ki ?k1 ?k2 ?k3 ?k4 ?k5 ?k6 ?k7 ?k8 ?_; (case ki => assumption); kpc_turns)
            intro h9 tk9 F9 N9
            kfm_turns
            kat_tups
            refine' LCg.CompEnd.intro (by k_asm) (by k_asm) _ (fun p hp => hp) off trivial (And.intro rfl rfl)
          case finW =>
            intro ys hl hR
            have ey := bools_of hl hR
            subst ey
            clear hl hR
            unfold LCg.FinE
            intro D h tk F N o1
            simp only [LCg.Off1, and_true] at o1
            ktr_unf
            (rename Fr _ _ _ _ => F1); (rename News _ _ _ _ => N0)
            have N1 := news_trim N0
            clear N0
            with_unfolding_all refine for_gen F1 ?_
            repeat' ((fail_if_success (with_reducible show GenSrc _ _ _ _ _ _ _ _ _ _ _ _)); kpt_turns)
            (rename Fr _ _ _ _ => F2); (rename News _ _ _ _ => N2)
            refine' ⟨⟨_, _, _, _, _, _, 8, _, _, JJ (gainI bs fi) _ _ _ _ _ _ _, by rfl, rfl, by rfl, ‹IsRange _ _ _ _ _ _ _ _›, by decide, by rfl, F2, N2, ?hJ1, ?turn1, ?done1⟩⟩
            case hJ1 =>
              refine' ⟨fun z _ _ _ _ => rfl, [], 0, _, _, ?dd1, IntsAre.nil, rfl⟩
              case dd1 => assumption
            case turn1 =>
              intro i t m₁ nw h tk I hi hJ F N off
              obtain ⟨hm, vs, c, oN, v, hcell, hI, hnw⟩ := hJ
              subst hnw
              obtain ⟨ma, mb, mc, md, hm'⟩ := havoc4 _ _ _ _ hm
              subst hm'
              have off1 := off1_of off
              clear off
              simp only [LCg.Off1, and_true] at off1
              ktr_unf
              k_dflt (refine LCg.ListComp_U (F₀ := by k_asm) (by with_unfolding_all rfl) (by decide) (by rfl) (by decide) (by rfl) ?_)
              ktn_open
              k_dflt (refine LCg.CompSrc.range (by rfl) (by k_asm) (by k_asm) (by assumption) (by decide) (by rfl) (by exact Nat.le_of_ble_eq_true rfl) ?_)
              intro gA
              refine comp_rest (n := 8) (fun j v => v = Value.bool (oddB (i &&& j))) ?turnV ?finV
              case turnV =>
                intro j v I2 oI C oC D m₂ ys h tk E' hj hv hC hx F N off2 ne
                obtain ⟨t, hv⟩ := hv
                subst hv
                kat_tups
                refine' LCg.CompEnd.intro (by k_asm) (by k_asm) _ (fun p hp => hp) off2 trivial (And.intro rfl rfl)
              case finV =>
                intro ys hl hR
                have ey : ys = (tb i).map Value.bool := bools_of hl hR
                subst ey
                clear hl hR
                have htb := tb_len i
                unfold LCg.FinE
                intro dB h tk F N o1
                simp only [LCg.Off1, and_true] at o1
                ktr_unf
                walk1
                kbt_split
                (rename Fr _ _ _ _ => F5); (rename News _ _ _ _ => N5)
                refine join_str (X := ofL (dashed i 0 (lp0 (tb i) fi))) F5 N5 ?hA0 ?kA0
                case hA0 =>
                  walk1
                  kbt_split
                  all_goals refine JoinStr.mk' ?_ (by k_asm) (by k_asm)
                  all_goals first | exact dash_pos (by assumption) | exact dash_neg (by assumption)
                case kA0 =>
                  intro u5 h5 tk5 F5 N5
                  kbt_split
                  (rename Fr _ _ _ _ => F6); (rename News _ _ _ _ => N6)
                  refine join_i (Str.ofString "told") (K := 0 + ld i (dashed i 0 (lp0 (tb i) fi)) (lp0 bs fi)) F6 N6 ?hB0 ?kB0
                  case hB0 =>
                    walk1
                    kbt_split
                    all_goals refine JoinI.mk' (by k_asm) (by k_asm) ?_ (fun p hp => hp)
                    all_goals first | exact ld_pos (by assumption) | exact ld_neg (by assumption)
                  case kB0 =>
                    intro u5 h5 tk5 F5 N5
                    kbt_split
                    walk1
                    kbt_split
                    (rename Fr _ _ _ _ => F5); (rename News _ _ _ _ => N5)
                    refine join_str (X := ofL (dashed i 1 (lp1 (tb i) fi))) F5 N5 ?hA1 ?kA1
                    case hA1 =>
                      walk1
                      kbt_split
                      all_goals refine JoinStr.mk' ?_ (by k_asm) (by k_asm)
                      all_goals first | exact dash_pos (by assumption) | exact dash_neg (by assumption)
                    case kA1 =>
                      intro u5 h5 tk5 F5 N5
                      kbt_split
                      (rename Fr _ _ _ _ => F6); (rename News _ _ _ _ => N6)
                      refine join_i (Str.ofString "told") (K := 0 + ld i (dashed i 0 (lp0 (tb i) fi)) (lp0 bs fi) + ld i (dashed i 1 (lp1 (tb i) fi)) (lp1 bs fi)) F6 N6 ?hB1 ?kB1
                      case hB1 =>
                        walk1
                        kbt_split
                        all_goals refine JoinI.mk' (by k_asm) (by k_asm) ?_ (fun p hp => hp)
                        all_goals first | exact ld_pos (by assumption) | exact ld_neg (by assumption)
                      case kB1 =>
                        intro u5 h5 tk5 F5 N5
                        kbt_split
                        walk1
                        kbt_split
                        (rename Fr _ _ _ _ => F5); (rename News _ _ _ _ => N5)
                        refine join_str (X := ofL (dashed i 2 (lp2 (tb i) fi))) F5 N5 ?hA2 ?kA2
                        case hA2 =>
                          walk1
                          kbt_split
                          all_goals refine JoinStr.mk' ?_ (by k_asm) (by k_asm)
                          all_goals first | exact dash_pos (by assumption) | exact dash_neg (by assumption)
                        case kA2 =>
                          intro u5 h5 tk5 F5 N5
                          kbt_split
                          (rename Fr _ _ _ _ => F6); (rename News _ _ _ _ => N6)
                          refine join_i (Str.ofString "told") (K := 0 + ld i (dashed i 0 (lp0 (tb i) fi)) (lp0 bs fi) + ld i (dashed i 1 (lp1 (tb i) fi)) (lp1 bs fi) + ld i (dashed i 2 (lp2 (tb i) fi)) (lp2 bs fi)) F6 N6 ?hB2 ?kB2
                          case hB2 =>
                            walk1
                            kbt_split
                            all_goals refine JoinI.mk' (by k_asm) (by k_asm) ?_ (fun p hp => hp)
                            all_goals first | exact ld_pos (by assumption) | exact ld_neg (by assumption)
                          case kB2 =>
                            intro u5 h5 tk5 F5 N5
                            kbt_split
                            walk1
                            repeat' ((fail_if_success (with_reducible show wpAny _ _ (call (Value.builtin "list.append") _) _ _ _)); kpt_turns)
                            have hvl : vs.length ≤ 1000 := by rw [hI.length, List.length_map, List.length_range]; omega
                            k_dflt (refine' append_vs ?pF ?pN ?pU hvl ?_; (case pF => k_asm); (case pN => k_asm); (case pU => k_upd))
                            intro h7 F7 N7
                            kbt_split
                            (rename Fr _ _ _ _ => F8); (rename News _ _ _ _ => N8)
                            refine' UnrEnd.intro F8 N8 _ ?sub ?off ?hJ
                            case' hJ => refine' ⟨?zz, _, _, _, _, ?dd2, gains_snoc hI rfl, rfl⟩
                            case sub =>
                              repeat (refine List.forall_mem_cons.mpr ⟨by k_mem, ?_⟩)
                              exact List.forall_mem_nil _
                            case dd2 => assumption
                            case zz =>
                              intro z h1 h2 h3 h4
                              simp only [h1, h2, h3, h4, if_false]
                            case off =>
                              simp only [List.forall_mem_cons, List.not_mem_nil, false_implies, implies_true, and_true]
                              exact off1
            case done1 =>
              intro m₁ nw h tk hJ F N
              obtain ⟨hm, vs, c, oN, v, hcell, hI, hnw⟩ := hJ
              subst hnw
              obtain ⟨ma, mb, mc, md, hm'⟩ := havoc4 _ _ _ _ hm
              subst hm'
              clear hm
              ktr_unf
              k_dflt (refine LCg.ListComp_U (F₀ := by k_asm) (by with_unfolding_all rfl) (by decide) (by rfl) (by decide) (by rfl) ?_)
              ktn_open
              k_dflt (refine LCg.CompSrc.ledger (by rfl) (by k_asm) (by k_asm) (by k_mem) (by rw [sizeLine_eq]; have := hI.length; simp only [List.length_map, List.length_range] at this; rw [List.size_toArray]; omega) ?_)
              intro gA
              refine comp_rest (fun i v => ∃ t, v = Value.int (gainI bs fi i * gainI bs fi i) t) ?turnS ?finS
              case turnS =>
                intro i v I oI C oC D m₂ ys h tk E' hi hv hC hx F N off ne
                obtain ⟨hi8, t, hv⟩ := ints_get8 hI (by simpa using hv)
                subst hv
                repeat' ((fail_if_success (with_reducible show wpAny _ _ (binaryOp Operator.Mult _ _) _ _ _)); kpt_turns)
                k_here
                refine mul_gain (by assumption) (by assumption) (by assumption) ?_
                kat_tups
                refine' LCg.CompEnd.intro (by k_asm) (by k_asm) _ (fun p hp => hp) off (by k_dflt exact (Or.inr ⟨_, (by k_mem), rfl, _, rfl⟩)) (And.intro rfl ⟨_, rfl⟩)
              case finS =>
                intro ys hl hR
                obtain ⟨ks3, hK, hS⟩ := squares_of hb8 hfi (by rw [hl, List.size_toArray, hI.length, List.length_map, List.length_range]) hR
                unfold LCg.FinE
                intro D h tk F N o1
                simp only [LCg.Off1, and_true] at o1
                ktr_unf
                (rename Fr _ _ _ _ => F1); (rename News _ _ _ _ => N0)
                have N1 := news_trim2 N0
                clear N0 hK hS hl hR
                with_unfolding_all refine for_gen F1 ?_
                repeat' ((fail_if_success (with_reducible show GenSrc _ _ _ _ _ _ _ _ _ _ _ _)); kpt_turns)
                (rename Fr _ _ _ _ => F2); (rename News _ _ _ _ => N2)
                refine' ⟨⟨_, _, _, _, _, _, 8, _, _, JK _ _ _ _ _ _ _ _ _, by rfl, rfl, by rfl, ‹IsRange _ _ _ _ _ _ _ _›, by decide, by rfl, F2, N2, ?hJ2, ?turn2, ?done2⟩⟩
                case hJ2 =>
                  refine' ⟨fun z _ => rfl, _, _, ?dd3, rfl⟩
                  case dd3 => assumption
                case turn2 =>
                  intro i t m₁ nw h tk I hi hJ F N off
                  obtain ⟨hm, oK, v, hcell, hnw⟩ := hJ
                  subst hnw
                  obtain ⟨mx, hm'⟩ := havoc1 _ hm
                  subst hm'
                  have off1 := off1_of off
                  clear off
                  simp only [LCg.Off1, and_true] at off1
                  ktr_unf
                  k_dflt (refine LCg.ListComp_U (F₀ := by k_asm) (by with_unfolding_all rfl) (by decide) (by rfl) (by decide) (by rfl) ?_)
                  ktn_open
                  k_dflt (refine LCg.CompSrc.range (by rfl) (by k_asm) (by k_asm) (by assumption) (by decide) (by rfl) (by exact Nat.le_of_ble_eq_true rfl) ?_)
                  intro gA
                  refine comp_rest (n := 8) (fun j v => ∃ t, v = Value.int (if oddB (j &&& i) then 0 - gainI bs fi j else gainI bs fi j) t) ?turnR ?finR
                  case turnR =>
                    intro j v I2 oI C oC D m₂ ys h tk E' hj hv hC hx F N off2 ne
                    obtain ⟨t, hv⟩ := hv
                    subst hv
                    kat_tups
                    all_goals refine' LCg.CompEnd.intro (by k_asm) (by k_asm) _ (fun p hp => hp) off2 trivial (And.intro rfl ⟨_, by simp only [*]; rfl⟩)
                  case finR =>
                    intro ys hl hR
                    obtain ⟨ks4, hK, hS⟩ := totals_of hi hb8 hfi hl hR
                    clear hl hR
                    unfold LCg.FinE
                    intro D h tk F N o1
                    simp only [LCg.Off1, and_true] at o1
                    cases hg : bs.getD i false
                    · rw [hg, if_neg Bool.false_ne_true] at hS
                      ktr_unf
                      (rename Fr _ _ _ _ => F8); (rename News _ _ _ _ => N8)
                      refine' UnrEnd.intro F8 N8 _ ?suba ?offa ?hJa
                      case' hJa => refine' ⟨?zza, _, _, ?dda, rfl⟩
                      case suba =>
                        repeat (refine List.forall_mem_cons.mpr ⟨by k_mem, ?_⟩)
                        exact List.forall_mem_nil _
                      case dda => assumption
                      case zza =>
                        intro z h1
                        simp only [h1, if_false]
                      case offa =>
                        simp only [List.forall_mem_cons, List.not_mem_nil, false_implies, implies_true, and_true]
                        exact off1
                    · rw [hg, if_pos rfl] at hS
                      ktr_unf
                      (rename Fr _ _ _ _ => F8); (rename News _ _ _ _ => N8)
                      refine' UnrEnd.intro F8 N8 _ ?subb ?offb ?hJb
                      case' hJb => refine' ⟨?zzb, _, _, ?ddb, rfl⟩
                      case subb =>
                        repeat (refine List.forall_mem_cons.mpr ⟨by k_mem, ?_⟩)
                        exact List.forall_mem_nil _
                      case ddb => assumption
                      case zzb =>
                        intro z h1
                        simp only [h1, if_false]
                      case offb =>
                        simp only [List.forall_mem_cons, List.not_mem_nil, false_implies, implies_true, and_true]
                        exact off1
                case done2 =>
                  intro m₁ nw h tk hJ F N
                  obtain ⟨hm, oK, v, hcell, hnw⟩ := hJ
                  subst hnw
                  obtain ⟨mx, hm'⟩ := havoc1 _ hm
                  subst hm'
                  clear hm
                  ktr_unf)
end Mine
end
theorem PySem.Challenge.cw_sn0016_01_holds : PySem.Challenge.rw_sn0016_01.Holds :=
  Mine.t
