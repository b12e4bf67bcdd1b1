import PyProof.Rows.All
import Wide.All
import OpenK.AllK
import Wide.FinOn
import PySem.Challenge.RW_fp5016_01
open PySem PySem.W PyProof.Rows
set_option Elab.async false
set_option maxRecDepth 100000
set_option maxHeartbeats 0
namespace Mine
section
variable {prog : Program} {w : World} {A : Around} {h₀ : Heap} {L : Addr} {m : PySem.Str → Option Value} {env : Env} {elt : PySem.Expr} {x : PySem.Str} {scope : Scope} {cl : List (PySem.Str × Addr)} {s : Shared} {S : List (Addr × Obj) → Prop} {P : Nat → Value → Prop} {Fin : List Value → List (Addr × Obj) → Prop}
theorem comp_inv {n : Nat} (J : Nat → List Value → List (Addr × Obj) → Prop)
    (turn : ∀ i ys news v I oI C oC D m₂ h tk (E' : Value → Shared → Prop), i < n → J i ys news → P i v → LCg.NsObj oC m₂ → m₂ x = some v → Fr h₀ L h m → News h₀ L h ((I, oI) :: (C, oC) :: (D, LCg.lst ys) :: news) → LCg.Off3 I C D news → ((@Ne Nat I C) ∧ (@Ne Nat I D) ∧ (@Ne Nat C D)) →
      wpAny (model prog w) A (eval elt (compEnvC scope cl C env)) (LCg.CompEnd h₀ L m { s with heap := h, toks := tk } I oI C oC D (LCg.lst ys) S (fun y news' => J (i + 1) (ys ++ [y]) news')) E' { s with heap := h, toks := tk })
    (fin : ∀ ys news, J n ys news → Fin ys news) {news : List (Addr × Obj)} (h0 : J 0 [] news) : LCg.CompRest prog w A h₀ L m env elt x scope cl s S P Fin n 0 [] news := by
  have key : ∀ (j i : Nat) (ys : List Value) (news : List (Addr × Obj)), i + j = n → J i ys news → LCg.CompRest prog w A h₀ L m env elt x scope cl s S P Fin j i ys news := by
    intro j
    induction j with
    | zero =>
      intro i ys news hi hy
      obtain rfl : i = n := by omega
      exact LCg.CompRest.zero (fin ys news hy)
    | succ j ih =>
      intro i ys news hi hy
      refine LCg.CompRest.succ ?_
      intro v I oI C oC D m₂ h tk E' hv hC hx F N off ne
      refine wpAny_mono (turn i ys news v I oI C oC D m₂ h tk E' (by omega) hy hv hC hx F N off ne) (fun y s₂ hq => ?_) fun _ _ e => e
      obtain ⟨h', tk', nw, e, F', N', off', hS, hJ⟩ := hq
      exact ⟨h', tk', nw, e, F', N', off', hS, ih (i + 1) _ _ (by omega) hJ⟩
  exact key n 0 [] news (by omega) h0
end
end Mine
namespace Mine
section
variable {prog : Program} {w : World} {A : Around} {h₀ : Heap} {L : Addr} {m : PySem.Str → Option Value} {env : Env} {elt : PySem.Expr} {x : PySem.Str} {scope : Scope} {cl : List (PySem.Str × Addr)}
abbrev Wd (x : PySem.Str) : Prop := x.length ≤ 4 ∧ ∀ c ∈ x.cps.toList, c < 128
/-- the words of a text being drawn: each of at most four signs -/
inductive Pieces : List Value → List PySem.Str → Prop
  | nil : Pieces [] []
  | cons (x : PySem.Str) (t : Tok) {vs xs} (h : Wd x) (r : Pieces vs xs) : Pieces (.str x t :: vs) (x :: xs)
theorem Pieces.snoc {vs : List Value} {xs : List PySem.Str} (h : Pieces vs xs) (x : PySem.Str) (t : Tok) (hx : Wd x) : Pieces (vs ++ [.str x t]) (xs ++ [x]) := by
  induction h with
  | nil => exact .cons x t hx .nil
  | cons y u hy r ih => exact .cons y u hy ih
theorem Pieces.strs {vs : List Value} {xs : List PySem.Str} (h : Pieces vs xs) : StrsAre vs xs := by
  induction h with
  | nil => exact .nil
  | cons y u hy r ih => exact .cons y u ih
theorem Pieces.wd {vs : List Value} {xs : List PySem.Str} (h : Pieces vs xs) : ∀ x ∈ xs, Wd x := by
  induction h with
  | nil => intro x hx; cases hx
  | cons y u hy r ih => intro x hx; rcases List.mem_cons.mp hx with rfl | hx; exact hy; exact ih x hx
theorem Pieces.bound {vs : List Value} {xs : List PySem.Str} (h : Pieces vs xs) : ∀ x ∈ xs, x.length ≤ 4 := fun x hx => (h.wd x hx).1
theorem lt_src {Fin : Shared → List Value → List (Addr × Obj) → Prop} {r : Addr} {b : Int} {t u v : Tok} {s₁ : Shared} {c st l : Addr} {oc : Obj} {k : Int} {tk₀ : Tok} {n n2 nn : Nat} {vs : List Value} {rest : List (Addr × Obj)}
    (hh : A.handled = none) (F : Fr h₀ L s₁.heap m) (N : News h₀ L s₁.heap ((c, oc) :: (st, listOf #[.ref l, .int k tk₀] n) :: (l, listOf vs.toArray n2) :: rest)) (hr : IsRange s₁.heap r 0 b 1 t u v) (hb0 : 0 ≤ b) (hb : b ≤ 14) (hnn : (nn : Int) = b)
    (turn : ∀ kk tt v I oI C oC D ys m₂ h tk (E' : Value → Shared → Prop), k ≤ kk → kk < k + b → LCg.NsObj oC m₂ → m₂ x = some v → Fr h₀ L h m →
      News h₀ L h ((I, oI) :: (C, oC) :: (D, LCg.lst ys) :: (c, oc) :: (st, listOf #[.ref l, .int kk tt] n) :: (l, listOf vs.toArray n2) :: rest) → LCg.Off3 I C D ((c, oc) :: (st, listOf #[.ref l, .int kk tt] n) :: (l, listOf vs.toArray n2) :: rest) → ((@Ne Nat I C) ∧ (@Ne Nat I D) ∧ (@Ne Nat C D)) →
      wpAny (model prog w) A (eval elt (compEnvC scope cl C env)) (LCg.CompEnd h₀ L m { s₁ with heap := h, toks := tk } I oI C oC D (LCg.lst ys) (fun _ => True) (fun y news' => ∃ tt' z tz, y = .str z tz ∧ Wd z ∧ news' = (c, oc) :: (st, listOf #[.ref l, .int (kk + 1) tt'] n) :: (l, listOf vs.toArray n2) :: rest)) E' { s₁ with heap := h, toks := tk })
    (fin : ∀ ys ws tt g, Pieces ys ws → ws.length = nn → Fin { s₁ with heap := g } ys ((c, oc) :: (st, listOf #[.ref l, .int (k + b) tt] n) :: (l, listOf vs.toArray n2) :: rest)) :
    LCg.CompSrc prog w A h₀ L m env elt x scope cl Fin (.ref r) s₁ := by
  subst hnn
  refine LCg.CompSrc.range hh F N hr (small_one (by omega) (by omega) (by omega) (by omega)) (n := nn) ?_ (by rw [sizeLine_eq]; omega) fun g => ?_
  · have := rangeSize_nat 0 (nn : Int)
    simpa using this
  · refine comp_inv (fun i ys nw => ∃ tt ws, Pieces ys ws ∧ ws.length = i ∧ nw = (c, oc) :: (st, listOf #[.ref l, .int (k + i) tt] n) :: (l, listOf vs.toArray n2) :: rest) ?_ ?_ ⟨tk₀, [], .nil, rfl, by simp⟩
    · rintro i ys _ v I oI C oC D m₂ h tk E' hi ⟨tt, ws, hp, hl, rfl⟩ hv hC hx F' N' off ne
      refine wpAny_mono (turn (k + i) tt v I oI C oC D ys m₂ h tk E' (by omega) (by omega) hC hx F' N' off ne) (fun y s₂ hq => ?_) fun _ _ e => e
      obtain ⟨h', tk', nw, e, F', N', off', hS, tt', z, tz, rfl, hz, rfl⟩ := hq
      refine ⟨h', tk', _, e, F', N', off', hS, tt', ws ++ [z], hp.snoc z tz hz, by simp [hl], ?_⟩
      rw [show k + (i : Int) + 1 = k + ((i + 1 : Nat) : Int) by omega]
    · rintro ys _ ⟨tt, ws, hp, hl, rfl⟩
      exact fin ys ws tt g hp hl
end
end Mine
namespace Mine
section
variable {M : Model} {prog : Program} {w : World} {A : Around} {E : Value → Shared → Prop} {s : Shared} {h₀ : Heap} {L : Addr} {m : PySem.Str → Option Value} {news : List (Addr × Obj)}
theorem my_getItem {l : Addr} {vs : List Value} {n : Nat} {k : Int} {u : Tok} {v : Value} {Q : Value → Shared → Prop} (N : News h₀ L s.heap news) (hm : (l, listOf vs.toArray n) ∈ news) (h0 : 0 ≤ k) (hhi : k < 2 ^ 63) (hx : vs[k.toNat]? = some v) (h : Q v s) :
    wpAny (model prog w) A (getItem (.ref l) (.int k u)) Q E s :=
  wpAny_getItem_list ⟨_, N.get hm, rfl, n, rfl⟩ h0 hhi (by simpa using hx) h
end
end Mine
namespace Mine
section
variable {M : Model} {prog : Program} {w : World} {A : Around} {E : Value → Shared → Prop} {s : Shared} {h₀ : Heap} {L : Addr} {m : PySem.Str → Option Value} {news : List (Addr × Obj)}
theorem strs_values {us : List Value} {ws : List PySem.Str} (h : StrsAre us ws) : ∃ l : List (PySem.Str × Tok), us = strValues l ∧ l.map (·.1) = ws := by
  induction h with
  | nil => exact ⟨[], rfl, rfl⟩
  | cons x t r ih => obtain ⟨l, e1, e2⟩ := ih; exact ⟨(x, t) :: l, by rw [e1]; rfl, by rw [← e2]; rfl⟩
theorem my_join {D : Addr} {o : Obj} {us : List Value} {ws : List PySem.Str} {n : Nat} {x : PySem.Str} {t : Tok} {Q : Value → Shared → Prop} (N : News h₀ L s.heap news) (hm : (D, o) ∈ news) (hc : o.cls = .type "list") (hd : o.data = .seq us.toArray n) (hs : StrsAre us ws)
    (hz : (ws.map (·.length)).sum + ws.length * x.length ≤ 16777216) (h : ∀ t' k, Q (.str (Txt.join x ws) t') { s with toks := k }) :
    wpAny (model prog w) A (call (.builtin "str.join") [.str x t, .ref D]) Q E s := by
  obtain ⟨l, e1, e2⟩ := strs_values hs
  subst e1
  exact SC.join ⟨o, N.get hm, hc, n, hd⟩ e2 (joinOk_of hz) h
theorem sum_le {ws : List PySem.Str} {k : Nat} (h : ∀ x ∈ ws, x.length ≤ k) : (ws.map (·.length)).sum ≤ k * ws.length := by
  induction ws with
  | nil => simp
  | cons x r ih =>
    have h1 := h x (.head _)
    have h2 := ih fun y hy => h y (.tail _ hy)
    simp only [List.map_cons, List.sum_cons, List.length_cons, Nat.mul_add, Nat.mul_one]
    omega
end
end Mine
namespace Mine
theorem getD_len {l : List PySem.Str} (h : ∀ x ∈ l, Wd x) (i : Nat) : Wd (l.getD i PySem.Str.empty) := by
  rw [List.getD_eq_getElem?_getD]
  cases e : l[i]? with
  | none => exact (by decide +kernel : Wd PySem.Str.empty)
  | some x => exact h x (List.mem_of_getElem? e)
theorem join_len {ws : List PySem.Str} (h : ∀ x ∈ ws, x.length ≤ 4) (hn : ws.length ≤ 14) : (PySem.Txt.join (PySem.Str.ofString "") ws).length ≤ 56 := by
  have h1 := sum_le h
  have h2 := StrLaws.join_length_le (PySem.Str.ofString "") ws
  have h3 : (PySem.Str.ofString "").length = 0 := by decide +kernel
  rw [h3] at h2
  cases ws with
  | nil => exact Nat.zero_le _
  | cons a r =>
    show (Builtin.Str.glued _ (a :: r)).length ≤ _
    rw [StrLaws.glued_eq_join]
    omega
theorem join_low {ws : List PySem.Str} (h : ∀ x ∈ ws, Wd x) : ∀ c ∈ (PySem.Txt.join (PySem.Str.ofString "") ws).cps.toList, c < 128 := by
  cases ws with
  | nil => intro c hc; exact absurd hc (by have : (PySem.Txt.join (PySem.Str.ofString "") []).cps.toList = [] := by decide +kernel
                                           rw [this]; exact List.not_mem_nil)
  | cons a r =>
    show ∀ c ∈ (Builtin.Str.glued _ (a :: r)).cps.toList, c < 128
    rw [StrLaws.glued_eq_join]
    intro c hc
    rcases (mem_join _ c _).mp hc with ⟨t, ht, hc⟩ | ⟨_, hc⟩
    · exact (h t ht).2 c hc
    · have : (PySem.Str.ofString "").cps.toList = [] := by decide +kernel
      rw [this] at hc; cases hc
theorem news_sub {h₀ h : Heap} {L : Addr} {a b : List (Addr × Obj)} (N : News h₀ L h a) (hs : ∀ p ∈ b, p ∈ a) : News h₀ L h b := fun p hp => N p (hs p hp)
end Mine
namespace Mine
theorem ne_of_all {l : List (Addr × Obj)} {a : Addr} (h : ∀ p ∈ l, p.1 < a) : ∀ p ∈ l, p.1 ≠ a := fun p hp => Nat.ne_of_lt (h p hp)
end Mine
namespace Mine
section
variable {prog : Program} {w : World} {A : Around} {E : Value → Shared → Prop} {s : Shared} {h₀ : Heap} {L D : Addr} {m : PySem.Str → Option Value} {news news' : List (Addr × Obj)}
theorem my_append {vs : List Value} {n : Nat} {x : Value} {Q : Value → Shared → Prop} (F : Fr h₀ L s.heap m) (N : News h₀ L s.heap news) (U : Upd D (listOf vs.toArray n) (listOf (vs ++ [x]).toArray (n + 1)) news news') (hsz : vs.length ≤ 1000000)
    (h : ∀ h', Fr h₀ L h' m → News h₀ L h' news' → Q .none { s with heap := h' }) : wpAny (model prog w) A (call (.builtin "list.append") [.ref D, x]) Q E s := by
  have e : vs.toArray.push x = (vs ++ [x]).toArray := by simp
  rw [← e] at U
  exact append_K F N U h (by rw [List.size_toArray, sizeLine_eq]; omega)
end
end Mine

namespace Mine
theorem kstB_self {m : PySem.Str → Option Value} {ps : List (PySem.Str × Value)} (h : ∀ p ∈ ps, m p.1 = some p.2) : kstB m ps = m := by
  funext y
  exact kstB_eq h fun _ => rfl
theorem fr_ps {h₀ h : Heap} {L : Addr} {m : PySem.Str → Option Value} {ps : List (PySem.Str × Value)} (F : Fr h₀ L h m) (hm : ∀ p ∈ ps, m p.1 = some p.2) : Fr h₀ L h (kstB m ps) := by
  rw [kstB_self hm]; exact F

def WEnd {σ : Type} (h₀ : Heap) (L : Addr) (s : Shared) (ps : σ → List (PySem.Str × Value)) (J : σ → List (Addr × Obj) → Prop) (μ : σ → Nat) (c : σ) (s₂ : Shared) : Prop :=
  ∃ (c' : σ) (h' : Heap) (tk : Nat) (m' : PySem.Str → Option Value) (nx : List (Addr × Obj)), s₂ = { s with heap := h', toks := tk } ∧ Fr h₀ L h' m' ∧ News h₀ L h' nx ∧ (∀ p ∈ ps c', m' p.1 = some p.2) ∧ J c' nx ∧ μ c' < μ c
def WPost {σ : Type} (h₀ : Heap) (L : Addr) (s : Shared) (ps : σ → List (PySem.Str × Value)) (J : σ → List (Addr × Obj) → Prop) (μ : σ → Nat) (Q : Flow → Shared → Prop) (c : σ) (f : Flow) (s₂ : Shared) : Prop :=
  match f with
  | .ret v => Q (.ret v) s₂
  | .brk => Q .next s₂
  | _ => WEnd h₀ L s ps J μ c s₂
theorem WEnd.intro {σ : Type} {h₀ : Heap} {L : Addr} {s : Shared} {ps : σ → List (PySem.Str × Value)} {J : σ → List (Addr × Obj) → Prop} {μ : σ → Nat} {c : σ} {h' : Heap} {tk : Nat} {m' : PySem.Str → Option Value} {all : List (Addr × Obj)}
    (F : Fr h₀ L h' m') (N : News h₀ L h' all) (c' : σ) (nx : List (Addr × Obj)) (sub : ∀ p ∈ nx, p ∈ all) (hk : ∀ p ∈ ps c', m' p.1 = some p.2) (hj : J c' nx) (hm : μ c' < μ c) : WEnd h₀ L s ps J μ c { s with heap := h', toks := tk } :=
  ⟨c', h', tk, m', nx, rfl, F, fun p hp => N p (sub p hp), hk, hj, hm⟩
section
variable {prog : Program} {w : World} {A : Around} {E : Value → Shared → Prop} {Q : Flow → Shared → Prop} {s : Shared} {env : Env} {h₀ : Heap} {L : Addr} {x : PySem.Str} {body : List Stmt}
theorem my_while {σ : Type} {test : PySem.Expr} {body : List Stmt} {pos : Pos} {m₀ : PySem.Str → Option Value} {news : List (Addr × Obj)} (ps : σ → List (PySem.Str × Value)) (J : σ → List (Addr × Obj) → Prop) (μ : σ → Nat) (c₀ : σ)
    (F : Fr h₀ L s.heap m₀) (N : News h₀ L s.heap news) (hk : ∀ p ∈ ps c₀, m₀ p.1 = some p.2) (hj : J c₀ news)
    (turn : ∀ (c : σ) (u : PySem.Str → Option Value) nx h tk, J c nx → Fr h₀ L h (kstB u (ps c)) → News h₀ L h nx →
      wpAny (model prog w) A (isTrue test env (eval test env)) (fun b s₂ =>
        if b = true then wpAny (model prog w) A (execs body env) (WPost h₀ L s ps J μ Q c) E s₂ else Q .next s₂) E { s with heap := h, toks := tk })
    (hE : PassesOwn (model prog w) A env E) :
    wpAny (model prog w) A (exec (.While test body [] pos) env) Q E s := by
  refine While_inv2 (fun n m nx => ∃ c : σ, μ c = n ∧ (∀ p ∈ ps c, m p.1 = some p.2) ∧ J c nx) F N ⟨c₀, rfl, hk, hj⟩ ?_ hE
  rintro n m₁ nx h tk F₁ N₁ ⟨c, hsz, h1, hj'⟩
  rw [← hsz]
  refine wpAny_mono (turn c m₁ nx h tk hj' (fr_ps F₁ h1) N₁) (fun b s₂ p => ?_) fun _ _ x => x
  cases b with
  | false => simpa using p
  | true =>
    simp only [if_true] at p ⊢
    refine wpAny_mono p (fun f s₃ q => ?_) fun _ _ x => x
    cases f with
    | ret v => exact q
    | brk => exact q
    | next =>
      obtain ⟨c', h', tk', m', nx', rfl, F', N', hk9, hj9, hm9⟩ := q
      exact ⟨h', tk', m', nx', μ c', rfl, F', N', hm9, c', rfl, hk9, hj9⟩
    | cont =>
      obtain ⟨c', h', tk', m', nx', rfl, F', N', hk9, hj9, hm9⟩ := q
      exact ⟨h', tk', m', nx', μ c', rfl, F', N', hm9, c', rfl, hk9, hj9⟩

/-- the end of a turn of a for: the next state, the iterator's own part kept -/
def FEnd {σ : Type} (h₀ : Heap) (L : Addr) (s : Shared) (ps : σ → List (PySem.Str × Value)) (J : Nat → σ → List (Addr × Obj) → Prop) (own : List (Addr × Obj)) (i : Nat) (s₂ : Shared) : Prop :=
  ∃ (c' : σ) (h' : Heap) (tk : Nat) (m' : PySem.Str → Option Value) (all nx : List (Addr × Obj)), s₂ = { s with heap := h', toks := tk } ∧ Fr h₀ L h' m' ∧ News h₀ L h' all ∧ (∀ p ∈ nx, p ∈ all) ∧ (∀ p ∈ own, p ∈ all) ∧ OwnOff own (nx.map (·.1)) ∧ (∀ p ∈ ps c', m' p.1 = some p.2) ∧ J i c' nx
def FPost {σ : Type} (h₀ : Heap) (L : Addr) (s : Shared) (ps : σ → List (PySem.Str × Value)) (J : Nat → σ → List (Addr × Obj) → Prop) (own : List (Addr × Obj)) (i : Nat) (Q : Flow → Shared → Prop) (f : Flow) (s₂ : Shared) : Prop :=
  match f with
  | .ret v => Q (.ret v) s₂
  | .brk => Q .next s₂
  | _ => FEnd h₀ L s ps J own i s₂
theorem FEnd.intro {σ : Type} {ps : σ → List (PySem.Str × Value)} {J : Nat → σ → List (Addr × Obj) → Prop} {own : List (Addr × Obj)} {i : Nat} {h' : Heap} {tk : Nat} {m' : PySem.Str → Option Value} {all : List (Addr × Obj)}
    (F : Fr h₀ L h' m') (N : News h₀ L h' all) (c' : σ) (nx : List (Addr × Obj)) (sub : ∀ p ∈ nx, p ∈ all) (ho : ∀ p ∈ own, p ∈ all) (hoff : OwnOff own (nx.map (·.1))) (hk : ∀ p ∈ ps c', m' p.1 = some p.2) (hj : J i c' nx) :
    FEnd h₀ L s ps J own i { s with heap := h', toks := tk } := ⟨c', h', tk, m', all, nx, rfl, F, N, sub, ho, hoff, hk, hj⟩

theorem my_iter {σ : Type} {I : Addr} {fp wr : List Addr} {n : Nat} {P : Nat → Value → Prop} {St : Nat → Heap → Prop} {m₀ : PySem.Str → Option Value} {news : List (Addr × Obj)} (ps : σ → List (PySem.Str × Value)) (J : Nat → σ → List (Addr × Obj) → Prop) (c₀ : σ)
    (W : Walks prog w A I fp wr n P St) (hfw : ∀ a ∈ fp, a ∈ wr) (hwf : ∀ b ∈ wr, b ∈ fp) (hob : ∀ i h, St i h → ∀ b ∈ wr, ∃ o, h.get? b = some o) (hLf : env.locals ∉ fp) (hwr : ∀ b ∈ wr, h₀.get? b = none) (hnw : ∀ p ∈ news, p.1 ∉ wr) (hst : St 0 s.heap)
    (F : Fr h₀ env.locals s.heap m₀) (N : News h₀ env.locals s.heap news) (hk : ∀ p ∈ ps c₀, p.1 ≠ x ∧ m₀ p.1 = some p.2) (hkx : ∀ c, ∀ p ∈ ps c, p.1 ≠ x) (hj : J 0 c₀ news)
    (turn : ∀ i v c u nx h tk own, i < n → P i v → OwnOff own (nx.map (·.1)) → J i c nx → Fr h₀ env.locals h (kstB u ((x, v) :: ps c)) → News h₀ env.locals h (nx ++ own) →
      wpAny (model prog w) A (execs body env) (FPost h₀ env.locals { s with heap := h, toks := tk } ps J own (i + 1) Q) E { s with heap := h, toks := tk })
    (done : ∀ c u nx h tk, J n c nx → Fr h₀ env.locals h (kstB u (ps c)) → News h₀ env.locals h nx → Q .next { s with heap := h, toks := tk }) :
    LoopAtV prog w A h₀ env x body Q E (.ref I) s := by
  refine kdr_loop (fun i m nx => ∃ c : σ, (∀ p ∈ ps c, m p.1 = some p.2) ∧ J i c nx) W hfw hwf hob hLf hwr hnw hst F N ⟨c₀, fun p hp => (hk p hp).2, hj⟩ ?_ ?_
  · rintro i v m₁ nx h tk own hi hP hoff ⟨c, hc, hJ⟩ F₁ N₁
    have F₂ : Fr h₀ env.locals h (kstB (fun y => if y = x then some v else m₁ y) ((x, v) :: ps c)) := fr_ps F₁ fun p hp => by
      rcases List.mem_cons.mp hp with rfl | hp
      · simp
      · simp only [if_neg (hkx c p hp)]; exact hc p hp
    refine wpAny_mono (turn i v c _ nx h tk own hi hP hoff hJ F₂ N₁) (fun f s₂ p => ?_) fun _ _ e => e
    have up : FEnd h₀ env.locals { s with heap := h, toks := tk } ps J own (i + 1) s₂ → InvEndG h₀ env.locals (fun m nx => ∃ c : σ, (∀ p ∈ ps c, m p.1 = some p.2) ∧ J (i + 1) c nx) own { s with heap := h, toks := tk } s₂ := by
      rintro ⟨c', h', tk', m', all, nx', e, F', N', sub, ho, hoff', hk', hj'⟩
      exact ⟨h', tk', m', all, nx', e, F', N', sub, ho, hoff', c', hk', hj'⟩
    cases f with
    | ret v => exact p
    | brk => exact p
    | next => exact up p
    | cont => exact up p
  · rintro m₁ nx h tk ⟨c, hc, hJ⟩ F₁ N₁
    exact done c m₁ nx h tk hJ (fr_ps F₁ hc) N₁
theorem my_text {σ : Type} {xt : PySem.Str} {tx : Tok} {m₀ : PySem.Str → Option Value} {news : List (Addr × Obj)} (ps : σ → List (PySem.Str × Value)) (J : Nat → σ → List (Addr × Obj) → Prop) (c₀ : σ)
    (hh : A.handled = none) (F : Fr h₀ env.locals s.heap m₀) (N : News h₀ env.locals s.heap news) (hk : ∀ p ∈ ps c₀, p.1 ≠ x ∧ m₀ p.1 = some p.2) (hkx : ∀ c, ∀ p ∈ ps c, p.1 ≠ x) (hj : J 0 c₀ news)
    (turn : ∀ i k t c u nx h tk own, xt.cps[i]? = some k → OwnOff own (nx.map (·.1)) → J i c nx → Fr h₀ env.locals h (kstB u ((x, .str ⟨#[k]⟩ t) :: ps c)) → News h₀ env.locals h (nx ++ own) →
      wpAny (model prog w) A (execs body env) (FPost h₀ env.locals { s with heap := h, toks := tk } ps J own (i + 1) Q) E { s with heap := h, toks := tk })
    (done : ∀ c u nx h tk, J xt.cps.size c nx → Fr h₀ env.locals h (kstB u (ps c)) → News h₀ env.locals h nx → Q .next { s with heap := h, toks := tk }) :
    wpAny (model prog w) A (pyIter (.str xt tx)) (fun it s₂ => LoopAtV prog w A h₀ env x body Q E it s₂) E s := by
  refine wpAny_pyIter_strU ?_
  have W : ∃ St : Nat → Heap → Prop, Walks prog w A s.heap.objs.size [s.heap.objs.size] [s.heap.objs.size] xt.cps.size (SignAt xt) St ∧ (∀ i h, St i h → ∃ o, h.get? s.heap.objs.size = some o) ∧ St 0 (s.heap.push { cls := .type (strIterType xt), data := .fields #[.str xt tx, .int 0 0] }) := by
    cases ha : xt.cps.all (· < 128) with
    | true =>
      refine ⟨_, Walks.strAscii hh s.heap.objs.size xt tx, fun i h st => ?_, ?_⟩
      · obtain ⟨o, e, _⟩ := st; exact ⟨o, e⟩
      · exact ⟨_, Heap.get?_push_size _ rfl, by simp [strIterType, ha], rfl⟩
    | false =>
      refine ⟨_, Walks.strWide hh s.heap.objs.size xt tx, fun i h st => ?_, ?_⟩
      · obtain ⟨o, e, _⟩ := st; exact ⟨o, e⟩
      · exact ⟨_, Heap.get?_push_size _ rfl, by simp [strIterType, ha], rfl⟩
  obtain ⟨St, W, hob, hst⟩ := W
  refine my_iter ps J c₀ W (fun _ h => h) (fun _ h => h) (fun i h hi b hb => ?_) ?_ ?_ ?_ hst (F.push _) (fun p hp => ⟨Heap.get?_push_of_some _ (N p hp).1, (N p hp).2⟩) hk hkx hj ?_ ?_
  · rw [List.mem_singleton.mp hb]; exact hob i h hi
  · intro hm
    exact absurd F.ns.lt ((List.mem_singleton.mp hm) ▸ Nat.lt_irrefl _)
  · intro b hb
    rw [List.mem_singleton.mp hb]
    exact next_is_new F
  · intro p hp hI
    exact absurd (Heap.lt_size (N p hp).1) ((List.mem_singleton.mp hI) ▸ Nat.lt_irrefl _)
  · rintro i v c u nx h tk own hi ⟨k, t, hk, rfl⟩ hoff hJ F₁ N₁
    exact turn i k t c u nx h tk own hk hoff hJ F₁ N₁
  · intro c u nx h tk hJ F₁ N₁
    exact done c u nx h tk hJ F₁ N₁
theorem my_range {σ : Type} {r : Addr} {b₀ : Int} {t₀ u₀ v₀ : Tok} {n : Nat} {m₀ : PySem.Str → Option Value} {news : List (Addr × Obj)} (ps : σ → List (PySem.Str × Value)) (J : Nat → σ → List (Addr × Obj) → Prop) (c₀ : σ)
    (hh : A.handled = none) (hr : IsRange s.heap r 0 b₀ 1 t₀ u₀ v₀) (hb : b₀ = (n : Int)) (hn : n < 2 ^ 60) (F : Fr h₀ env.locals s.heap m₀) (N : News h₀ env.locals s.heap news) (hk : ∀ p ∈ ps c₀, p.1 ≠ x ∧ m₀ p.1 = some p.2) (hkx : ∀ c, ∀ p ∈ ps c, p.1 ≠ x) (hj : J 0 c₀ news)
    (turn : ∀ (i : Nat) t c u nx h tk own, i < n → OwnOff own (nx.map (·.1)) → J i c nx → Fr h₀ env.locals h (kstB u ((x, .int i t) :: ps c)) → News h₀ env.locals h (nx ++ own) →
      wpAny (model prog w) A (execs body env) (FPost h₀ env.locals { s with heap := h, toks := tk } ps J own (i + 1) Q) E { s with heap := h, toks := tk })
    (done : ∀ c u nx h tk, J n c nx → Fr h₀ env.locals h (kstB u (ps c)) → News h₀ env.locals h nx → Q .next { s with heap := h, toks := tk }) :
    wpAny (model prog w) A (pyIter (.ref r)) (fun it s₂ => LoopAtV prog w A h₀ env x body Q E it s₂) E s := by
  subst hb
  have hsz : Builtin.Range.rangeSize 0 (n : Int) 1 = (n : Int) := by simpa using rangeSize_nat 0 (n : Int)
  refine wpAny_pyIter_range hr (small_one (by omega) (by omega) (by omega) (by omega)) ?_
  have W : Walks prog w A s.heap.objs.size [s.heap.objs.size] [s.heap.objs.size] n (fun i v => i < n ∧ ∃ t, v = .int (0 + i * 1) t)
      (fun i h => IsRangeIter h s.heap.objs.size (0 + (i : Nat) * 1) ((n : Int) - (i : Nat)) 1) := (Walks.range hh _ 0 1 n).bound
  refine my_iter ps J c₀ W (fun _ h => h) (fun _ h => h) (fun i h hi b hb => ?_) ?_ ?_ ?_ (by show IsRangeIter _ _ _ _ _; rw [hsz]; simpa using Heap.get?_push_size _ rfl) (F.push _) (fun p hp => ⟨Heap.get?_push_of_some _ (N p hp).1, (N p hp).2⟩) hk hkx hj ?_ ?_
  · rw [List.mem_singleton.mp hb]; exact ⟨_, hi⟩
  · intro hm
    exact absurd F.ns.lt ((List.mem_singleton.mp hm) ▸ Nat.lt_irrefl _)
  · intro b hb
    rw [List.mem_singleton.mp hb]
    exact next_is_new F
  · intro p hp hI
    exact absurd (Heap.lt_size (N p hp).1) ((List.mem_singleton.mp hI) ▸ Nat.lt_irrefl _)
  · rintro i v c u nx h tk own hi ⟨hi', t, rfl⟩ hoff hJ F₁ N₁
    rw [show (0 : Int) + (i : Int) * 1 = (i : Int) by omega] at F₁
    exact turn i t c u nx h tk own hi hoff hJ F₁ N₁
  · intro c u nx h tk hJ F₁ N₁
    exact done c u nx h tk hJ F₁ N₁
end
end Mine
namespace Mine
section
variable {prog : Program} {w : World} {A : Around} {E : Value → Shared → Prop} {Q : Flow → Shared → Prop} {s : Shared} {env : Env} {h₀ : Heap} {L : Addr} {x : PySem.Str} {body : List Stmt}
theorem my_while1 {α σ : Type} {test : PySem.Expr} {body : List Stmt} {pos : Pos} {m₀ : PySem.Str → Option Value} {news : List (Addr × Obj)} (a : α) (ps : α → σ → List (PySem.Str × Value)) (J : α → σ → List (Addr × Obj) → Prop) (μ : σ → Nat) (c₀ : σ)
    (F : Fr h₀ L s.heap m₀) (N : News h₀ L s.heap news) (hk : ∀ p ∈ ps a c₀, m₀ p.1 = some p.2) (hj : J a c₀ news)
    (turn : ∀ (c : σ) (u : PySem.Str → Option Value) nx h tk, J a c nx → Fr h₀ L h (kstB u (ps a c)) → News h₀ L h nx →
      wpAny (model prog w) A (isTrue test env (eval test env)) (fun b s₂ =>
        if b = true then wpAny (model prog w) A (execs body env) (WPost h₀ L s (ps a) (J a) μ Q c) E s₂ else Q .next s₂) E { s with heap := h, toks := tk })
    (hE : PassesOwn (model prog w) A env E) :
    wpAny (model prog w) A (exec (.While test body [] pos) env) Q E s := my_while (ps a) (J a) μ c₀ F N hk hj turn hE
end
end Mine

namespace Mine
/-- a quoted piece: the word so far, the rest behind the opening quote -/
def quo (acc : List Nat) : List Nat → Option (List Nat × List Nat)
  | [] => none
  | c :: r => if c = 34 then some (acc, r) else if c = 92 then (match r with | [] => none | d :: r' => quo (acc ++ [d]) r') else quo (acc ++ [c]) r
theorem quo_len : ∀ (n : Nat) (acc cs : List Nat) (w r : List Nat), cs.length ≤ n → quo acc cs = some (w, r) → r.length < cs.length
  | n, acc, [], w, r, _, h => by simp [quo] at h
  | n, acc, c :: cs, w, r, hn, h => by
    cases n with
    | zero => simp at hn
    | succ n =>
      unfold quo at h
      split at h
      · cases h; simp
      · split at h
        · cases cs with
          | nil => simp at h
          | cons d r' =>
            have := quo_len n _ _ _ _ (by simp at hn; omega) h
            simp only [List.length_cons] at *; omega
        · have := quo_len n _ _ _ _ (by simp at hn; omega) h
          simp only [List.length_cons] at *; omega

inductive Tk where
  | op | cl | nul
  | leaf (w : List Nat)
  deriving DecidableEq
/-- does a bare piece go on at this sign -/
def bareGo (c : Nat) : Bool := !(c == 125 || c == 44)
def NULLs : List Nat := [78, 85, 76, 76]
def tkOf (p : List Nat) : Tk := if p = NULLs then .nul else .leaf p
def toksF : Nat → List Nat → List Tk
  | 0, _ => []
  | _ + 1, [] => []
  | n + 1, c :: r =>
    if c = 123 then .op :: toksF n r else if c = 125 then .cl :: toksF n r else if c = 44 then toksF n r
    else if c = 34 then (match quo [] r with | none => [] | some (w, r') => .leaf w :: toksF n r')
    else (match (c :: r).dropWhile bareGo with | [] => [] | q :: q' => tkOf ((c :: r).takeWhile bareGo) :: toksF n (q :: q'))
end Mine
namespace Mine
theorem dw_len (p : Nat → Bool) : ∀ l : List Nat, (l.dropWhile p).length ≤ l.length
  | [] => Nat.le_refl _
  | a :: l => by
    rw [List.dropWhile_cons]
    split
    · have := dw_len p l; simp only [List.length_cons]; omega
    · exact Nat.le_refl _
theorem toksF_fuel : ∀ (n m : Nat) (cs : List Nat), cs.length < n → cs.length < m → toksF n cs = toksF m cs := by
  intro n
  induction n with
  | zero => intro m cs h; omega
  | succ n ih =>
    intro m cs hn hm
    cases m with
    | zero => omega
    | succ m =>
      cases cs with
      | nil => rfl
      | cons c r =>
        simp only [List.length_cons] at hn hm
        have e := ih m r (by omega) (by omega)
        unfold toksF
        rw [e]
        by_cases h1 : c = 123
        · simp [h1]
        rw [if_neg h1, if_neg h1]
        by_cases h2 : c = 125
        · simp [h2]
        rw [if_neg h2, if_neg h2]
        by_cases h3 : c = 44
        · simp [h3]
        rw [if_neg h3, if_neg h3]
        by_cases h4 : c = 34
        · rw [if_pos h4, if_pos h4]
          cases hq : quo [] r with
          | none => rfl
          | some q =>
            obtain ⟨w, r'⟩ := q
            have := quo_len _ _ _ _ _ (Nat.le_refl _) hq
            dsimp only
            rw [ih m r' (by omega) (by omega)]
        · rw [if_neg h4, if_neg h4]
          have hb : bareGo c = true := by simp [bareGo, h2, h3]
          cases hd : (c :: r).dropWhile bareGo with
          | nil => rfl
          | cons q q' =>
            dsimp only
            have hl : (q :: q').length ≤ r.length := by
              rw [← hd, List.dropWhile_cons, if_pos hb]; exact dw_len _ _
            rw [ih m (q :: q') (by omega) (by omega)]
def toks (cs : List Nat) : List Tk := toksF (cs.length + 1) cs
theorem toks_of {n : Nat} {cs : List Nat} (h : cs.length < n) : toksF n cs = toks cs := toksF_fuel _ _ _ h (Nat.lt_succ_self _)
theorem toks_nil : toks [] = [] := rfl
theorem toks_op (r : List Nat) : toks (123 :: r) = .op :: toks r := by
  conv => lhs; unfold toks; unfold toksF
  simp only [if_true]; rw [toks_of (by simp)]
theorem toks_cl (r : List Nat) : toks (125 :: r) = .cl :: toks r := by
  conv => lhs; unfold toks; unfold toksF
  simp only [if_true]; rw [toks_of (by simp)]; rfl
theorem toks_cm (r : List Nat) : toks (44 :: r) = toks r := by
  conv => lhs; unfold toks; unfold toksF
  simp only [if_true]; rw [toks_of (by simp)]; rfl
theorem toks_qn {r : List Nat} (h : quo [] r = none) : toks (34 :: r) = [] := by
  conv => lhs; unfold toks; unfold toksF
  simp [h]
theorem toks_qs {r w r' : List Nat} (h : quo [] r = some (w, r')) : toks (34 :: r) = .leaf w :: toks r' := by
  have := quo_len _ _ _ _ _ (Nat.le_refl _) h
  conv => lhs; unfold toks; unfold toksF
  rw [if_neg (by decide), if_neg (by decide), if_neg (by decide), if_pos rfl, h]
  dsimp only
  rw [toks_of (by simp only [List.length_cons]; omega)]
theorem tw_app (p : Nat → Bool) : ∀ (a b : List Nat), (∀ x ∈ a, p x = true) → (a ++ b).takeWhile p = a ++ b.takeWhile p ∧ (a ++ b).dropWhile p = b.dropWhile p
  | [], b, _ => by simp
  | x :: a, b, h => by
    have ih := tw_app p a b fun y hy => h y (.tail _ hy)
    have hx := h x (.head _)
    simp only [List.cons_append, List.takeWhile_cons, List.dropWhile_cons, hx, if_true, ih.1, ih.2, and_self]
theorem toks_bare0 {c : Nat} {r : List Nat} (h1 : c ≠ 123) (h4 : c ≠ 34) (h : ∀ x ∈ c :: r, bareGo x = true) : toks (c :: r) = [] := by
  have hc := h c (.head _)
  simp only [bareGo, Bool.not_eq_true', Bool.or_eq_false_iff, beq_eq_false_iff_ne] at hc
  have e := tw_app bareGo (c :: r) [] h
  rw [List.append_nil] at e
  conv => lhs; unfold toks; unfold toksF
  rw [if_neg h1, if_neg hc.1, if_neg hc.2, if_neg h4, e.2]
  rfl
theorem toks_bare {c : Nat} {r p q : List Nat} {d : Nat} (h1 : c ≠ 123) (h4 : c ≠ 34) (hp : ∀ x ∈ p, bareGo x = true) (e : c :: r = p ++ d :: q) (hd : bareGo d = false) (hc : bareGo c = true) : toks (c :: r) = tkOf p :: toks (d :: q) := by
  simp only [bareGo, Bool.not_eq_true', Bool.or_eq_false_iff, beq_eq_false_iff_ne] at hc
  have t := tw_app bareGo p (d :: q) hp
  rw [← e, List.takeWhile_cons, List.dropWhile_cons, List.takeWhile_cons, List.dropWhile_cons] at t
  have hc' : bareGo c = true := by simp [bareGo, hc.1, hc.2]
  simp only [hd, hc', if_true] at t
  simp only [Bool.false_eq_true, if_false, List.append_nil] at t
  conv => lhs; unfold toks; unfold toksF
  rw [if_neg h1, if_neg hc.1, if_neg hc.2, if_neg h4, List.dropWhile_cons, if_pos hc', t.2, List.takeWhile_cons, if_pos hc', t.1]
  dsimp only
  have hl : (c :: r).length = (p ++ d :: q).length := by rw [e]
  have hp0 : p ≠ [] := by
    rintro rfl
    simp only [List.nil_append, List.cons.injEq] at e
    rw [← e.1, hc'] at hd; cases hd
  rw [toks_of (by
    cases p with
    | nil => exact absurd rfl hp0
    | cons a p => simp only [List.length_cons, List.length_append] at hl ⊢; omega)]
end Mine

namespace Mine
def tx (w : List Nat) : PySem.Str := ⟨w.toArray⟩
theorem tx_len (w : List Nat) : (tx w).length = w.length := by simp [tx, PySem.Str.length]
theorem tx_snoc (a b : List Nat) : tx a ++ tx b = tx (a ++ b) := by
  show PySem.Str.mk _ = _
  simp [tx]
theorem tx_inj {a b : List Nat} (h : tx a = tx b) : a = b := by
  simp only [tx, PySem.Str.mk.injEq] at h
  simpa using h
theorem tx_cps (x : PySem.Str) : tx x.cps.toList = x := by simp [tx]
theorem tx_beq (a b : List Nat) : (tx a == tx b) = decide (a = b) := by
  by_cases h : a = b
  · subst h; simp
  · rw [decide_eq_false h]
    exact beq_eq_false_iff_ne.mpr fun e => h (tx_inj e)
theorem sign_at {x : PySem.Str} {j : Nat} (h : j < x.length) : ∃ c, x.cps.toList.drop j = c :: x.cps.toList.drop (j + 1) ∧ ∀ k : Int, k = (j : Int) → PySem.Txt.item x k = tx [c] := by
  have hj : j < x.cps.toList.length := by simpa [PySem.Str.length] using h
  refine ⟨x.cps.toList[j], by rw [List.drop_eq_getElem_cons hj], ?_⟩
  rintro k rfl
  exact item_meets (by omega) (by simp at hj; simp [hj])
theorem drop_end {x : PySem.Str} {j : Nat} (h : x.length ≤ j) : x.cps.toList.drop j = [] := List.drop_eq_nil_of_le (by simpa [PySem.Str.length] using h)
theorem qt : PySem.Str.ofString "\"" = tx [34] := by decide +kernel
theorem bs : PySem.Str.ofString "\\" = tx [92] := by decide +kernel
theorem ob : PySem.Str.ofString "{" = tx [123] := by decide +kernel
theorem cb : PySem.Str.ofString "}" = tx [125] := by decide +kernel
theorem cm : PySem.Str.ofString "," = tx [44] := by decide +kernel
section
variable {prog : Program} {w : World} {A : Around} {E : Value → Shared → Prop} {s : Shared}
theorem my_iadd {a b : List Nat} {t u : Tok} {y : PySem.Str} {Q : Value → Shared → Prop} (hb : y = tx b) (hsz : a.length + b.length ≤ 1000) (h : ∀ t' tk, Q (.str (tx (a ++ b)) t') { s with toks := tk }) :
    wpAny (model prog w) A (inplaceOp .Add (.str (tx a) t) (.str y u)) Q E s := by
  subst hb
  exact PyProof.Rows.iadd_str (hsz := by rw [tx_len, tx_len, sizeLine_eq]; omega) (by rw [tx_snoc]; exact h)
end
end Mine
namespace Mine
theorem two_signs {P : Prop} (x : PySem.Str) (j : Nat)
    (h1 : ∀ c d, j < x.length → j + 1 < x.length → x.cps.toList.drop j = c :: d :: x.cps.toList.drop (j + 2) → x.cps.toList.drop (j + 1) = d :: x.cps.toList.drop (j + 2) → PySem.Txt.item x (j : Int) = tx [c] → PySem.Txt.item x ((j : Int) + 1) = tx [d] → P)
    (h2 : ∀ c, j < x.length → x.length ≤ j + 1 → x.cps.toList.drop j = [c] → x.cps.toList.drop (j + 1) = [] → PySem.Txt.item x (j : Int) = tx [c] → P)
    (h3 : x.length ≤ j → x.cps.toList.drop j = [] → P) : P := by
  rcases Nat.lt_or_ge j x.length with hlt | hge
  · obtain ⟨c, hc, hitA⟩ := sign_at hlt
    rcases Nat.lt_or_ge (j + 1) x.length with hlt2 | hge2
    · obtain ⟨d, hd, hitB⟩ := sign_at hlt2
      exact h1 c d hlt hlt2 (by rw [hc, hd]) hd (hitA _ rfl) (hitB _ rfl)
    · have hd := drop_end hge2
      exact h2 c hlt hge2 (by rw [hc, hd]) hd (hitA _ rfl)
  · exact h3 hge (drop_end hge)
theorem one_sign {P : Prop} (x : PySem.Str) (j : Nat)
    (h1 : ∀ c, j < x.length → x.cps.toList.drop j = c :: x.cps.toList.drop (j + 1) → PySem.Txt.item x (j : Int) = tx [c] → P)
    (h3 : x.length ≤ j → x.cps.toList.drop j = [] → P) : P := by
  rcases Nat.lt_or_ge j x.length with hlt | hge
  · obtain ⟨c, hc, hitA⟩ := sign_at hlt
    exact h1 c hlt hc (hitA _ rfl)
  · exact h3 hge (drop_end hge)
end Mine
namespace Mine
theorem quo_end {c : Nat} {w r : List Nat} (h : c = 34) : quo w (c :: r) = some (w, r) := by subst h; unfold quo; simp
theorem quo_esc {c d : Nat} {w r : List Nat} (h : c = 92) : quo w (c :: d :: r) = quo (w ++ [d]) r := by
  subst h
  conv => lhs; unfold quo
  simp
theorem quo_esc0 {c : Nat} {w : List Nat} (h : c = 92) : quo w [c] = none := by subst h; unfold quo; simp
theorem quo_nil {w : List Nat} : quo w [] = none := by unfold quo; rfl
theorem quo_go {c : Nat} {w r : List Nat} (h1 : c ≠ 34) (h2 : c ≠ 92) : quo w (c :: r) = quo (w ++ [c]) r := by
  conv => lhs; unfold quo
  rw [if_neg h1, if_neg h2]
theorem is_sign {y z : PySem.Str} {c k : Nat} (hit : y = tx [c]) (hz : z = tx [k]) (h : (y == z) = true) : c = k := by
  subst hit; subst hz
  rw [tx_beq] at h
  simpa using h
theorem not_sign {y z : PySem.Str} {c k : Nat} (hit : y = tx [c]) (hz : z = tx [k]) (h : (y == z) = false) : c ≠ k := by
  subst hit; subst hz
  rw [tx_beq] at h
  simpa using h
end Mine
namespace Mine
section
variable {prog : Program} {w : World} {A : Around} {E : Value → Shared → Prop} {s : Shared}
theorem in_signs {l : List Nat} {c : Nat} {t u : Tok} {y z : PySem.Str} {Q : Value → Shared → Prop} (hb : y = tx [c]) (hz : z = tx l) (h : Q (.bool (decide (c ∈ l))) s) :
    wpAny (model prog w) A (compareOp .In (.str y u) (.str z t)) Q E s := by
  subst hb; subst hz
  refine PyProof.Rows.in_str ?_
  have e := StrLaws.found_one (tx l) c
  have e' : (tx l).cps.toList = l := by simp [tx]
  rw [e'] at e
  show Q (.bool (!(Builtin.Str.occurrences (tx l) ⟨#[c]⟩ 0 (tx l).length 1).isEmpty)) s
  rw [e]; exact h
theorem notin_signs {l : List Nat} {c : Nat} {t u : Tok} {y z : PySem.Str} {Q : Value → Shared → Prop} (hb : y = tx [c]) (hz : z = tx l) (h : Q (.bool (!decide (c ∈ l))) s) :
    wpAny (model prog w) A (compareOp .NotIn (.str y u) (.str z t)) Q E s := by
  subst hb; subst hz
  refine PyProof.Rows.notIn_str ?_
  have e := StrLaws.found_one (tx l) c
  have e' : (tx l).cps.toList = l := by simp [tx]
  rw [e'] at e
  show Q (.bool (!(!(Builtin.Str.occurrences (tx l) ⟨#[c]⟩ 0 (tx l).length 1).isEmpty))) s
  rw [e]; exact h
end
theorem braces : PySem.Str.ofString "{}" = tx [123, 125] := by decide +kernel
theorem bracecomma : PySem.Str.ofString "}," = tx [125, 44] := by decide +kernel
theorem nullT : PySem.Str.ofString "NULL" = tx NULLs := by decide +kernel
end Mine
namespace Mine
theorem slice_tx {x : PySem.Str} {a b : Nat} {p : List Nat} (hab : a ≤ b) (hb : b ≤ x.length) (hp : x.cps.toList.drop a = p ++ x.cps.toList.drop b) : PySem.Txt.slice x (some (a : Int)) (some (b : Int)) = tx p := by
  have hlen : x.cps.toList.length = x.length := by simp [PySem.Str.length]
  have hpl : p.length = b - a := by
    have h := congrArg List.length hp
    simp only [List.length_drop, List.length_append, hlen] at h
    omega
  have hpick : (x.cps.toList.drop a).take (b - a) = p := by
    rw [hp, ← hpl]; simp
  unfold PySem.Txt.slice
  have hs := StrLaws.sliced_plain x hab hb
  rw [hpick] at hs
  split
  · rename_i hc
    simp only [beq_self_eq_true, Bool.true_and, beq_iff_eq] at hc
    rw [StrLaws.strSliceIndices_plain hab hb] at hc
    simp only [List.length_map, List.length_range] at hc
    have ha : a = 0 := by omega
    have hb' : b = x.length := by omega
    subst ha; subst hb'
    rw [List.drop_zero, drop_end (Nat.le_refl _), List.append_nil] at hp
    rw [← hp, tx_cps]
  · rw [hs]; rfl
end Mine

namespace Mine
abbrev leafObj (w : List Nat) (t1 t2 : Tok) (n : Nat) : Obj := { cls := .type "tuple", data := .seq #[.str (PySem.Str.ofString "leaf") t1, .str (tx w) t2] n }
inductive TokIn (nw : List (Addr × Obj)) : Value → Tk → Prop
  | op (t : Tok) : TokIn nw (.str (tx [123]) t) .op
  | cl (t : Tok) : TokIn nw (.str (tx [125]) t) .cl
  | nul : TokIn nw .none .nul
  | leaf (a : Addr) (w : List Nat) (t1 t2 : Tok) (n : Nat) : (a, leafObj w t1 t2 n) ∈ nw → TokIn nw (.ref a) (.leaf w)
inductive TokAll (nw : List (Addr × Obj)) : List Value → List Tk → Prop
  | nil : TokAll nw [] []
  | cons {v : Value} {vs : List Value} {d : Tk} {ds : List Tk} : TokIn nw v d → TokAll nw vs ds → TokAll nw (v :: vs) (d :: ds)
section
variable {nw nw' : List (Addr × Obj)} {v : Value} {d : Tk} {vs ws : List Value} {ds es : List Tk}
theorem TokIn.mono (hs : ∀ p ∈ nw, p ∈ nw') (h : TokIn nw v d) : TokIn nw' v d := by
  cases h with
  | op t => exact .op t
  | cl t => exact .cl t
  | nul => exact .nul
  | leaf a w t1 t2 n hm => exact .leaf a w t1 t2 n (hs _ hm)
theorem TokAll.mono (hs : ∀ p ∈ nw, p ∈ nw') (h : TokAll nw vs ds) : TokAll nw' vs ds := by
  induction h with
  | nil => exact .nil
  | cons a _ ih => exact .cons (a.mono hs) ih
theorem TokAll.length (h : TokAll nw vs ds) : vs.length = ds.length := by
  induction h with
  | nil => rfl
  | cons _ _ ih => rw [List.length_cons, List.length_cons, ih]
theorem TokAll.snoc (h : TokAll nw vs ds) (k : TokIn nw v d) : TokAll nw (vs ++ [v]) (ds ++ [d]) := by
  induction h with
  | nil => exact .cons k .nil
  | cons a _ ih => exact .cons a ih
theorem TokAll.get (h : TokAll nw vs ds) {i : Nat} (hi : i < ds.length) : ∃ v, vs[i]? = some v ∧ TokIn nw v (ds[i]'hi) := by
  induction h generalizing i with
  | nil => exact absurd hi (Nat.not_lt_zero _)
  | @cons v vs d ds a r ih =>
    cases i with
    | zero => exact ⟨v, rfl, a⟩
    | succ i => exact ih (Nat.lt_of_succ_lt_succ hi)
theorem TokAll.take (h : TokAll nw vs ds) (n : Nat) : TokAll nw (vs.take n) (ds.take n) := by
  induction h generalizing n with
  | nil => simp; exact .nil
  | cons a _ ih =>
    cases n with
    | zero => exact .nil
    | succ n => exact .cons a (ih n)
end
end Mine

namespace Mine
def braceTk (c : Nat) : Tk := if c = 123 then .op else .cl
theorem tok_brace {nw : List (Addr × Obj)} {y : PySem.Str} {c : Nat} {t : Tok} (hit : y = tx [c]) (h : c ∈ [123, 125]) : TokIn nw (.str y t) (braceTk c) := by
  subst hit
  simp only [List.mem_cons, List.not_mem_nil, or_false] at h
  rcases h with rfl | rfl
  · exact .op t
  · exact .cl t
theorem tok_brace_eq {all ts : List Tk} {c : Nat} {r : List Nat} (hq : all = ts ++ toks (c :: r)) (h : c ∈ [123, 125]) : all = ts ++ [braceTk c] ++ toks r := by
  simp only [List.mem_cons, List.not_mem_nil, or_false] at h
  rcases h with rfl | rfl
  · rw [hq, toks_op]; simp [braceTk]
  · rw [hq, toks_cl]; simp [braceTk]
end Mine
namespace Mine
theorem sub_q {α : Type} {a b c : α} {l : List α} : ∀ p ∈ c :: (a :: l), p ∈ a :: b :: c :: l := by
  intro p hp
  simp only [List.mem_cons] at hp ⊢
  rcases hp with h | h | h
  · exact .inr (.inr (.inl h))
  · exact .inl h
  · exact .inr (.inr (.inr h))
theorem sub_b {α : Type} {a c : α} {l : List α} : ∀ p ∈ c :: (a :: l), p ∈ a :: c :: l := by
  intro p hp
  simp only [List.mem_cons] at hp ⊢
  rcases hp with h | h | h
  · exact .inr (.inl h)
  · exact .inl h
  · exact .inr (.inr h)
theorem quo_adv {x : PySem.Str} {a b : Nat} {w : List Nat} (h : quo [] (x.cps.toList.drop a) = some (w, x.cps.toList.drop b)) (hb : b ≤ x.length) : a < b := by
  have hl : x.cps.toList.length = x.length := by simp [PySem.Str.length]
  have := quo_len _ _ _ _ _ (Nat.le_refl _) h
  simp only [List.length_drop, hl] at this
  omega
theorem go_of {c : Nat} (h : ¬ c ∈ [125, 44]) : bareGo c = true := by
  simp only [List.mem_cons, List.not_mem_nil, or_false, not_or] at h
  simp [bareGo, h.1, h.2]
theorem nogo_of {c : Nat} (h : c ∈ [125, 44]) : bareGo c = false := by
  simp only [List.mem_cons, List.not_mem_nil, or_false] at h
  rcases h with rfl | rfl <;> rfl
theorem bare_c {c : Nat} (h1 : ¬ c ∈ [123, 125]) (h2 : c ≠ 44) : c ≠ 123 ∧ bareGo c = true := by
  simp only [List.mem_cons, List.not_mem_nil, or_false, not_or] at h1
  exact ⟨h1.1, by simp [bareGo, h1.2, h2]⟩
theorem bare_adv {x : PySem.Str} {j e c c2 : Nat} {p r : List Nat} (hj : x.cps.toList.drop j = c :: x.cps.toList.drop (j + 1)) (hp : x.cps.toList.drop j = p ++ c2 :: r) (hr : r = x.cps.toList.drop (e + 1)) (h1 : bareGo c = true) (h2 : bareGo c2 = false) (he : j ≤ e) (hlt : e < x.length) : j < e := by
  rcases Nat.lt_or_ge j e with h | h
  · exact h
  · obtain rfl : j = e := by omega
    have hl : x.cps.toList.length = x.length := by simp [PySem.Str.length]
    have hlen := congrArg List.length hp
    rw [hr] at hlen
    simp only [List.length_append, List.length_cons, List.length_drop, hl] at hlen
    have : p.length = 0 := by omega
    have hp0 : p = [] := List.eq_nil_of_length_eq_zero this
    rw [hp0, hj] at hp
    simp only [List.nil_append, List.cons.injEq] at hp
    rw [hp.1, h2] at h1; cases h1
theorem eq_leaf {all ts : List Tk} {r w r' : List Nat} {c : Nat} (hq : all = ts ++ toks (c :: r)) (h : c = 34) (hq9 : quo [] r = some (w, r')) : all = ts ++ [.leaf w] ++ toks r' := by
  subst h; rw [hq, toks_qs hq9]; simp
theorem eq_none {all ts : List Tk} {r : List Nat} {c : Nat} (hq : all = ts ++ toks (c :: r)) (h : c = 34) (hq9 : quo [] r = none) : all = ts := by
  subst h; rw [hq, toks_qn hq9]; simp
theorem eq_bare0 {all ts : List Tk} {r p : List Nat} {c : Nat} (hq : all = ts ++ toks (c :: r)) (h1 : c ≠ 123) (h4 : c ≠ 34) (hp : c :: r = p ++ []) (hpa : ∀ y ∈ p, bareGo y = true) : all = ts := by
  rw [List.append_nil] at hp
  rw [hq, toks_bare0 h1 h4 (by rw [hp]; exact hpa)]; simp
theorem eq_bare {all ts : List Tk} {r p q : List Nat} {c d : Nat} (hq : all = ts ++ toks (c :: r)) (h1 : c ≠ 123 ∧ bareGo c = true) (h4 : c ≠ 34) (hp : c :: r = p ++ d :: q) (hpa : ∀ y ∈ p, bareGo y = true) (hd : bareGo d = false) : all = ts ++ [tkOf p] ++ toks (d :: q) := by
  rw [hq, toks_bare h1.1 h4 hpa hp hd h1.2]; simp
theorem null_of {y : PySem.Str} {p : List Nat} (h : y = tx p) (hn : (y == PySem.Str.ofString "NULL") = true) : tkOf p = .nul := by
  subst h; rw [nullT, tx_beq] at hn
  rw [tkOf, if_pos (by simpa using hn)]
theorem leaf_of {y : PySem.Str} {p : List Nat} (h : y = tx p) (hn : (y == PySem.Str.ofString "NULL") = false) : tkOf p = .leaf p := by
  subst h; rw [nullT, tx_beq] at hn
  rw [tkOf, if_neg (by simpa using hn)]
theorem snoc_go {p : List Nat} {c : Nat} (hp : ∀ y ∈ p, bareGo y = true) (hc : bareGo c = true) : ∀ y ∈ p ++ [c], bareGo y = true := by
  intro y hy
  rcases List.mem_append.mp hy with h | h
  · exact hp y h
  · rw [List.mem_singleton.mp h]; exact hc
end Mine

namespace Mine
def leafD (w : List Nat) : Dat := .tuple [.str (PySem.Str.ofString "leaf"), .str (tx w)]
def tkDat : Tk → Dat
  | .op => .str (tx [123])
  | .cl => .str (tx [125])
  | .nul => .none
  | .leaf w => leafD w
theorem TokIn.dat {nw : List (Addr × Obj)} {v : Value} {k : Tk} (h : TokIn nw v k) : DatIn nw v (tkDat k) := by
  cases h with
  | op t => exact .str _ t
  | cl t => exact .str _ t
  | nul => exact .none
  | leaf a w t1 t2 n hm => exact .tuple (vs := [.str (PySem.Str.ofString "leaf") t1, .str (tx w) t2]) hm (.cons (.str _ t1) (.cons (.str _ t2) .nil))
/-- built by descent: the things up to the closing brace, what is left -/
def arrF : Nat → List Tk → List Dat × List Tk
  | 0, ts => ([], ts)
  | _ + 1, [] => ([], [])
  | n + 1, .cl :: r => ([], r)
  | n + 1, .op :: r => (.list (arrF n r).1 :: (arrF n (arrF n r).2).1, (arrF n (arrF n r).2).2)
  | n + 1, k :: r => (tkDat k :: (arrF n r).1, (arrF n r).2)
theorem arrF_len : ∀ (n : Nat) (ts : List Tk), (arrF n ts).2.length ≤ ts.length
  | 0, ts => Nat.le_refl _
  | n + 1, [] => Nat.le_refl _
  | n + 1, k :: r => by
    have h1 := arrF_len n r
    cases k with
    | cl => simp [arrF]
    | op =>
      have h2 := arrF_len n (arrF n r).2
      simp only [arrF, List.length_cons]; omega
    | nul => simp only [arrF, List.length_cons]; omega
    | leaf w => simp only [arrF, List.length_cons]; omega
theorem arrF_fuel : ∀ (n m : Nat) (ts : List Tk), ts.length < n → ts.length < m → arrF n ts = arrF m ts := by
  intro n
  induction n with
  | zero => intro m ts h; omega
  | succ n ih =>
    intro m ts hn hm
    cases m with
    | zero => omega
    | succ m =>
      cases ts with
      | nil => rfl
      | cons k r =>
        simp only [List.length_cons] at hn hm
        have e := ih m r (by omega) (by omega)
        cases k with
        | cl => rfl
        | op =>
          have hl := arrF_len m r
          simp only [arrF, e]
          rw [ih m (arrF m r).2 (by omega) (by omega)]
        | nul => simp only [arrF, e]
        | leaf w => simp only [arrF, e]
def arr (ts : List Tk) : List Dat × List Tk := arrF (ts.length + 1) ts
theorem arr_of {n : Nat} {ts : List Tk} (h : ts.length < n) : arrF n ts = arr ts := arrF_fuel _ _ _ h (Nat.lt_succ_self _)
theorem arr_nil : arr [] = ([], []) := rfl
theorem arr_cl (r : List Tk) : arr (.cl :: r) = ([], r) := rfl
theorem arr_len (ts : List Tk) : (arr ts).2.length ≤ ts.length := arrF_len _ _
theorem arr_op (r : List Tk) : arr (.op :: r) = (.list (arr r).1 :: (arr (arr r).2).1, (arr (arr r).2).2) := by
  have hl := arr_len r
  conv => lhs; unfold arr; simp only [List.length_cons, arrF]
  rw [arr_of (n := r.length + 1) (Nat.lt_succ_self _), arr_of (n := r.length + 1) (by omega)]
theorem arr_go {k : Tk} (r : List Tk) (h1 : k ≠ .op) (h2 : k ≠ .cl) : arr (k :: r) = (tkDat k :: (arr r).1, (arr r).2) := by
  cases k with
  | op => exact absurd rfl h1
  | cl => exact absurd rfl h2
  | nul => conv => lhs; unfold arr; simp only [List.length_cons, arrF]
           rw [arr_of (n := r.length + 1) (Nat.lt_succ_self _)]
  | leaf w => conv => lhs; unfold arr; simp only [List.length_cons, arrF]
              rw [arr_of (n := r.length + 1) (Nat.lt_succ_self _)]
/-- all words of signs below 128 -/
def OkTk : Tk → Prop
  | .leaf w => ∀ c ∈ w, c < 128
  | _ => True
theorem strOk_tx {w : List Nat} (h : ∀ c ∈ w, c < 128) : PyData.strOk (tx w) = true := by
  unfold PyData.strOk tx
  simp only [Array.all_eq_true_iff_forall_mem, List.mem_toArray, decide_eq_true_eq]
  intro c hc
  have := h c hc
  omega
theorem ok_tkDat {k : Tk} (h : OkTk k) : kqdOk 1 (tkDat k) = true := by
  cases k with
  | op => decide +kernel
  | cl => decide +kernel
  | nul => rfl
  | leaf w => simp only [tkDat, leafD, kqdOk, List.all_cons, List.all_nil, Bool.and_true, strOk_tx h]; decide +kernel
section
variable {prog : Program} {w : World} {A : Around} {E : Value → Shared → Prop} {s : Shared} {h₀ : Heap} {L : Addr} {news n₁ n₂ : List (Addr × Obj)} {a b : Value} {d e : Dat} {Q : Value → Shared → Prop}
open Classical in
theorem my_eqD (N : News h₀ L s.heap news) (Da : DatIn n₁ a d) (sa : ∀ p ∈ n₁, p ∈ news) (Db : DatIn n₂ b e) (sb : ∀ p ∈ n₂, p ∈ news) (ha : kqdOk 60 d = true) (hb : kqdOk 60 e = true) (hu : A.units + 64 < cLine) (h : Q (.bool (decide (d = e))) s) :
    wpAny (model prog w) A (compareOp .Eq a b) Q E s := by
  obtain ⟨as, ra⟩ := kqd_in N 60 (Da.mono sa) ha
  obtain ⟨bs, rb⟩ := kqd_in N 60 (Db.mono sb) hb
  have la := kqd_lay 60 d ha
  have lb := kqd_lay 60 e hb
  have e' : PyData.eqv (kqdP d) (kqdP e) = decide (d = e) := by
    have q := kqd_eqv 60 d e 60 ha hb
    by_cases hq : d = e
    · rw [decide_eq_true hq]; exact q.mpr hq
    · rw [decide_eq_false hq]; exact Bool.eq_false_iff.mpr fun x => hq (q.mp x)
  refine eq_dataH ra rb ?_ ?_ hu (by rw [e']; exact h)
  · unfold SeqAt.shaped; rw [la.1, Bool.true_and]; exact decide_eq_true (Nat.le_trans la.2 (by decide))
  · unfold SeqAt.shaped; rw [lb.1, Bool.true_and]; exact decide_eq_true (Nat.le_trans lb.2 (by decide))
end
theorem kqdOk_mono : ∀ (n m : Nat) (d : Dat), n ≤ m → kqdOk n d = true → kqdOk m d = true := by
  intro n
  induction n with
  | zero => intro m d _ h; cases d <;> cases m <;> simp_all [kqdOk]
  | succ n ih =>
    intro m d hm h
    cases m with
    | zero => omega
    | succ m =>
      cases d with
      | tuple ds => simp only [kqdOk, List.all_eq_true] at h ⊢; exact fun x hx => ih m x (by omega) (h x hx)
      | list ds => simp only [kqdOk, List.all_eq_true] at h ⊢; exact fun x hx => ih m x (by omega) (h x hx)
      | _ => simp_all [kqdOk]
end Mine
namespace Mine
section
variable {prog : Program} {w : World} {A : Around} {E : Value → Shared → Prop} {s : Shared} {h₀ : Heap} {L l : Addr} {news : List (Addr × Obj)}
theorem my_len {vs : List Value} {n : Nat} {Q : Value → Shared → Prop} (N : News h₀ L s.heap news) (hm : (l, listOf vs.toArray n) ∈ news) (hfit : vs.length < 1000000) (h : Q (.int (vs.length : Int) (s.toks + 1)) { s with toks := s.toks + 1 + 1 }) :
    wpAny (model prog w) A (call (.builtin "len") [.ref l]) Q E s := by
  have hl : s.heap.IsList l vs.toArray := ⟨_, (N _ hm).1, rfl, n, rfl⟩
  have e : vs.toArray.size = vs.length := List.size_toArray
  exact len_list hl (by rw [e]; omega) (by rw [e]; exact h)
theorem my_item {value slice : PySem.Expr} {vs : List Value} {n i : Nat} {k : Int} {u : Tok} {v : Value} {Q : Value → Shared → Prop} (N : News h₀ L s.heap news) (hm : (l, listOf vs.toArray n) ∈ news) (hv : vs[i]? = some v) (hk : k = (i : Int)) (hi : i < 1000000) (h : Q v s)
    (hs : subscripted slice false (.ref l) (.int k u) = operate [.ref l, .int k u] (getItem (.ref l) (.int k u))) :
    wpAny (model prog w) A (subscriptTail value slice (.ref l) (.int k u)) Q E s := by
  subst hk
  have hl : s.heap.IsList l vs.toArray := ⟨_, (N _ hm).1, rfl, n, rfl⟩
  exact tail_any hl.typeIs slot_list_getitem.lookup (wpAny_getItem_list hl (by omega) (by omega) (by simpa using hv) h) hs
theorem my_eqstr {y z : PySem.Str} {t u : Tok} {b : Bool} {Q : Value → Shared → Prop} (hb : (y == z) = b) (h : Q (.bool b) s) : wpAny (model prog w) A (compareOp .Eq (.str y t) (.str z u)) Q E s := by
  subst hb; exact eq_str h
open Classical in
theorem my_leafstr {x : Addr} {wd : List Nat} {t1 t2 t : Tok} {n : Nat} {y : PySem.Str} {Q : Value → Shared → Prop} (N : News h₀ L s.heap news) (hm : (x, leafObj wd t1 t2 n) ∈ news) (hw : ∀ c ∈ wd, c < 128) (hy : PyData.strOk y = true) (hu : A.units + 64 < cLine) (h : Q (.bool false) s) :
    wpAny (model prog w) A (compareOp .Eq (.ref x) (.str y t)) Q E s := by
  refine my_eqD N (TokIn.dat (TokIn.leaf x wd t1 t2 n hm)) (fun _ h => h) (DatIn.str y t) (fun _ h => h) (kqdOk_mono 1 60 _ (by decide) (ok_tkDat (k := .leaf wd) hw)) (by simpa [kqdOk] using hy) hu ?_
  have e : ¬ (tkDat (.leaf wd) = Dat.str y) := by simp [tkDat, leafD]
  rw [decide_eq_false e]
  exact h
end
theorem one_tok {P : Prop} {nw : List (Addr × Obj)} {vs : List Value} {ts : List Tk} (hall : TokAll nw vs ts) (i : Nat)
    (h1 : ∀ v k, i < vs.length → vs[i]? = some v → TokIn nw v k → ts.drop i = k :: ts.drop (i + 1) → P) (h3 : vs.length ≤ i → ts.drop i = [] → P) : P := by
  have hl := hall.length
  rcases Nat.lt_or_ge i vs.length with h | h
  · obtain ⟨v, hv, hk⟩ := hall.get (i := i) (by omega)
    exact h1 v _ h hv hk (List.drop_eq_getElem_cons _)
  · exact h3 h (List.drop_eq_nil_of_le (by omega))
/-- what the descent from a place hands back -/
def ArrSpec (prog : Program) (w : World) (K : Frag) (p : Program) (loose : List PySem.Str) (f : Addr) (k : Nat) : Prop :=
  ∀ {mean : ExcName → Option Value} {mg mb : PySem.Str → Option Value} {dp un : Nat} {gd : Option (List Code)} {cn : PySem.Str} {nm : List (PySem.Str × NameKind)} {ig ic : Bool} {mo : List (PySem.Str × Const)} {a : Addr} {ccd : Value} {cl : List (PySem.Str × Addr)} {outer : List Env} {A₀ : Around} {base h₀ : Heap} {L : Addr} {m : PySem.Str → Option Value} {s : Shared}
    {Q E : Value → Shared → Prop} {lt : Addr} {vs : List Value} {n : Nat} {ts : List Tk} {i : Nat} {ii : Int} {u : Tok} {news nt : List (Addr × Obj)},
    Below A₀ base outer h₀ → Fr h₀ L s.heap m → K.In h₀ → News h₀ L s.heap news → Top p loose mean mg mb h₀ →
    dp + 2 * k < 850 → un + 10 * k < 8000 → (lt, listOf vs.toArray n) ∈ news → TokAll nt vs ts → (∀ p ∈ nt, p ∈ news) → (∀ t ∈ ts, OkTk t) → ii = (i : Int) → i ≤ vs.length → vs.length ≤ i + k → vs.length ≤ 1000 →
    (∀ r ra us nu (j : Nat) (ji : Int) tj nr tl h' tk', ji = (j : Int) → j ≤ vs.length → i ≤ j → (arr (ts.drop i)).2 = ts.drop j → DatAll (tl ++ nt) us (arr (ts.drop i)).1 → us.length ≤ j → (ra, listOf us.toArray nu) ∈ tl → (∀ q ∈ news, ∀ p ∈ tl, q.1 < p.1) → (∀ p ∈ tl ++ news, p.1 < r) →
      Fr h₀ L h' m → News h₀ L h' ((r, { cls := .type "tuple", data := .seq #[.ref ra, .int ji tj] nr }) :: (tl ++ news)) → Q (.ref r) { s with heap := h', toks := tk' }) →
    wpAny (model prog w) (ktrTop dp un gd cn { kind := .function, names := nm, isGenerator := ig, isCoroutine := ic, more := mo } L a ccd cl outer) (call (.ref f) [.ref lt, .int ii u]) Q E s
theorem ne_mid {h₀ h : Heap} {L x : Addr} {o : Obj} {a : Addr × Obj} {l r : List (Addr × Obj)} (_ : News h₀ L h (a :: (l ++ (x, o) :: r))) (h1 : ∀ p ∈ l ++ (x, o) :: r, p.1 < a.1) (h2 : ∀ q ∈ (x, o) :: r, ∀ p ∈ l, q.1 < p.1) (h3 : ∀ p ∈ r, p.1 ≠ x) : ∀ p ∈ a :: (l ++ r), p.1 ≠ x := by
  intro p hp
  rcases List.mem_cons.mp hp with rfl | hp
  · exact Nat.ne_of_gt (h1 (x, o) (List.mem_append_right _ (.head _)))
  · rcases List.mem_append.mp hp with hp | hp
    · exact Nat.ne_of_gt (h2 _ (.head _) p hp)
    · exact h3 p hp
theorem lt_cons {a d : Addr} {o : Obj} {l : List (Addr × Obj)} (h : a < d ∧ AllLt d l) : ∀ p ∈ (a, o) :: l, p.1 < d := List.forall_mem_cons.mpr ⟨h.1, tb_ltOf h.2⟩
theorem mem_of {h₀ h : Heap} {L : Addr} {news nx : List (Addr × Obj)} {q : Addr × Obj} (_ : News h₀ L h nx) (hq : q ∈ news) (hs : ∀ p ∈ news, p ∈ nx) : q ∈ nx := hs _ hq
theorem tok_of {h₀ h : Heap} {L : Addr} {news nx : List (Addr × Obj)} {vs : List Value} {ts : List Tk} (_ : News h₀ L h nx) (ht : TokAll news vs ts) (hs : ∀ p ∈ news, p ∈ nx) : TokAll nx vs ts := ht.mono hs
theorem mem_drop {α : Type} {l r : List α} {i : Nat} {x : α} (h : l.drop i = x :: r) : x ∈ l := List.mem_of_mem_drop (h ▸ List.mem_cons_self)
theorem news_mid {h₀ h : Heap} {L : Addr} {a b : Addr × Obj} {l r : List (Addr × Obj)} (N : News h₀ L h (a :: (l ++ b :: r))) : News h₀ L h (b :: a :: (l ++ r)) := by
  intro p hp
  apply N
  simp only [List.mem_cons, List.mem_append] at hp ⊢
  rcases hp with h | h | h | h <;> simp [h]
theorem arr_step_op {ts : List Tk} {ds : List Dat} {i j k : Nat} (hq : arr (ts.drop i) = (ds ++ (arr (ts.drop j)).1, (arr (ts.drop j)).2)) (hd : ts.drop j = .op :: ts.drop (j + 1)) (h2 : (arr (ts.drop (j + 1))).2 = ts.drop k) :
    arr (ts.drop i) = ((ds ++ [Dat.list (arr (ts.drop (j + 1))).1]) ++ (arr (ts.drop k)).1, (arr (ts.drop k)).2) := by
  rw [hq, hd, arr_op, h2, List.append_assoc]; rfl
theorem arr_step_go {ts : List Tk} {ds : List Dat} {i j : Nat} {k : Tk} (hq : arr (ts.drop i) = (ds ++ (arr (ts.drop j)).1, (arr (ts.drop j)).2)) (hd : ts.drop j = k :: ts.drop (j + 1)) (h1 : k ≠ .op) (h2 : k ≠ .cl) :
    arr (ts.drop i) = ((ds ++ [tkDat k]) ++ (arr (ts.drop (j + 1))).1, (arr (ts.drop (j + 1))).2) := by
  rw [hq, hd, arr_go _ h1 h2, List.append_assoc]; rfl
theorem arr_end_cl {ts : List Tk} {ds : List Dat} {i j : Nat} (hq : arr (ts.drop i) = (ds ++ (arr (ts.drop j)).1, (arr (ts.drop j)).2)) (hd : ts.drop j = .cl :: ts.drop (j + 1)) : arr (ts.drop i) = (ds, ts.drop (j + 1)) := by
  rw [hq, hd, arr_cl, List.append_nil]
theorem arr_end_nil {ts : List Tk} {ds : List Dat} {i j : Nat} (hq : arr (ts.drop i) = (ds ++ (arr (ts.drop j)).1, (arr (ts.drop j)).2)) (hd : ts.drop j = []) : arr (ts.drop i) = (ds, ts.drop j) := by
  rw [hq, hd, arr_nil, List.append_nil]
theorem DatAll.snoc9 {nw : List (Addr × Obj)} {vs : List Value} {ds : List Dat} {v : Value} {d : Dat} (h : DatAll nw vs ds) (k : DatIn nw v d) : DatAll nw (vs ++ [v]) (ds ++ [d]) := by
  induction ds generalizing vs with
  | nil => cases h; exact .cons k .nil
  | cons e ds ih => cases h with | cons a r => exact .cons a (ih r)
section
variable {α : Type} {a b : α} {l r q : List α}
theorem sub_m1 : ∀ p ∈ b :: ((l ++ r) ++ q), p ∈ b :: a :: (l ++ (r ++ q)) := by
  intro p hp
  simp only [List.mem_cons, List.mem_append] at hp ⊢
  rcases hp with h | (h | h) | h <;> simp [h]
theorem sub_m2 : ∀ p ∈ (l ++ r) ++ q, p ∈ a :: (l ++ (r ++ q)) := by
  intro p hp
  simp only [List.mem_cons, List.mem_append] at hp ⊢
  rcases hp with (h | h) | h <;> simp [h]
theorem sub_m3 : ∀ p ∈ r ++ q, p ∈ (l ++ r) ++ q := by
  intro p hp
  simp only [List.mem_append] at hp ⊢
  rcases hp with h | h <;> simp [h]
theorem sub_m4 : ∀ p ∈ l ++ q, p ∈ (l ++ r) ++ q := by
  intro p hp
  simp only [List.mem_append] at hp ⊢
  rcases hp with h | h <;> simp [h]
end
end Mine

namespace Mine
def dl : Tk → Int
  | .op => 1
  | .cl => -1
  | _ => 0
/-- how far the depth stays from falling below nought -/
def outF : Int → List Tk → Nat
  | _, [] => 0
  | d, k :: r => if d + dl k < 0 then 0 else outF (d + dl k) r + 1
theorem outF_le : ∀ (d : Int) (ts : List Tk), outF d ts ≤ ts.length
  | _, [] => Nat.le_refl _
  | d, k :: r => by
    have := outF_le (d + dl k) r
    unfold outF
    split <;> simp only [List.length_cons] <;> omega
theorem out_stop {ts : List Tk} {d : Int} {i : Nat} {k : Tk} (hq : outF 0 ts = i + outF d (ts.drop i)) (hd : ts.drop i = k :: ts.drop (i + 1)) (h : d + dl k < 0) : outF 0 ts = i := by
  rw [hq, hd, outF, if_pos h]; rfl
theorem out_go {ts : List Tk} {d : Int} {i : Nat} {k : Tk} (hq : outF 0 ts = i + outF d (ts.drop i)) (hd : ts.drop i = k :: ts.drop (i + 1)) (h : ¬ d + dl k < 0) : outF 0 ts = (i + 1) + outF (d + dl k) (ts.drop (i + 1)) := by
  rw [hq, hd, outF, if_neg h]
  omega
theorem out_end {ts : List Tk} {d : Int} {i : Nat} (hq : outF 0 ts = i + outF d (ts.drop i)) (hd : ts.drop i = []) : outF 0 ts = i := by
  rw [hq, hd]; rfl
theorem tx_op : tx [123] = PySem.Str.ofString "{" := by decide +kernel
theorem tx_cl : tx [125] = PySem.Str.ofString "}" := by decide +kernel
section
variable {prog : Program} {w : World} {A : Around} {E : Value → Shared → Prop} {Q : Flow → Shared → Prop} {s : Shared} {env : Env} {h₀ : Heap} {L : Addr} {x : PySem.Str} {body : List Stmt}
theorem my_range1 {σ : Type} {r : Addr} {b₀ : Int} {t₀ u₀ v₀ : Tok} {n : Nat} {m₀ : PySem.Str → Option Value} {news : List (Addr × Obj)} (ps : σ → List (PySem.Str × Value)) (J : Nat → σ → List (Addr × Obj) → Prop) (c₀ : σ)
    (hr : IsRange s.heap r 0 b₀ 1 t₀ u₀ v₀) (hb : b₀ = (n : Int)) (hh : A.handled = none) (hn : n < 2 ^ 60) (F : Fr h₀ env.locals s.heap m₀) (N : News h₀ env.locals s.heap news) (hk : ∀ p ∈ ps c₀, m₀ p.1 = some p.2) (hkx : ∀ c, ∀ p ∈ ps c, p.1 ≠ x) (hj : J 0 c₀ news)
    (turn : ∀ (i : Nat) t c u nx h tk own, i < n → OwnOff own (nx.map (·.1)) → J i c nx → Fr h₀ env.locals h (kstB u ((x, .int i t) :: ps c)) → News h₀ env.locals h (nx ++ own) →
      wpAny (model prog w) A (execs body env) (FPost h₀ env.locals { s with heap := h, toks := tk } ps J own (i + 1) Q) E { s with heap := h, toks := tk })
    (done : ∀ c u nx h tk, J n c nx → Fr h₀ env.locals h (kstB u (ps c)) → News h₀ env.locals h nx → Q .next { s with heap := h, toks := tk }) :
    wpAny (model prog w) A (pyIter (.ref r)) (fun it s₂ => LoopAtV prog w A h₀ env x body Q E it s₂) E s :=
  my_range ps J c₀ hh hr hb hn F N (fun p hp => ⟨hkx _ p hp, hk p hp⟩) hkx hj turn done
theorem my_text1 {α σ : Type} {xt : PySem.Str} {tx : Tok} {m₀ : PySem.Str → Option Value} {news : List (Addr × Obj)} (a : α) (ps : α → σ → List (PySem.Str × Value)) (J : α → Nat → σ → List (Addr × Obj) → Prop) (c₀ : σ)
    (hh : A.handled = none) (F : Fr h₀ env.locals s.heap m₀) (N : News h₀ env.locals s.heap news) (hk : ∀ p ∈ ps a c₀, m₀ p.1 = some p.2) (hkx : ∀ c, ∀ p ∈ ps a c, p.1 ≠ x) (hj : J a 0 c₀ news)
    (turn : ∀ i k t c u nx h tk own, xt.cps[i]? = some k → OwnOff own (nx.map (·.1)) → J a i c nx → Fr h₀ env.locals h (kstB u ((x, .str ⟨#[k]⟩ t) :: ps a c)) → News h₀ env.locals h (nx ++ own) →
      wpAny (model prog w) A (execs body env) (FPost h₀ env.locals { s with heap := h, toks := tk } (ps a) (J a) own (i + 1) Q) E { s with heap := h, toks := tk })
    (done : ∀ c u nx h tk, J a xt.cps.size c nx → Fr h₀ env.locals h (kstB u (ps a c)) → News h₀ env.locals h nx → Q .next { s with heap := h, toks := tk }) :
    wpAny (model prog w) A (pyIter (.str xt tx)) (fun it s₂ => LoopAtV prog w A h₀ env x body Q E it s₂) E s :=
  my_text (ps a) (J a) c₀ hh F N (fun p hp => ⟨hkx _ p hp, hk p hp⟩) hkx hj turn done
end
end Mine

namespace Mine
inductive Mode where
  | out | str | esc | val
def Mode.ref : Mode → Addr
  | .out => 639
  | .str => 633
  | .esc => 635
  | .val => 637
def quoLeft (v cs : List Nat) : List Tk := match quo v cs with
  | none => []
  | some (w, r) => .leaf w :: toks r
def valLeft (v cs : List Nat) : List Tk := match cs.dropWhile bareGo with
  | [] => []
  | q :: q' => tkOf (v ++ cs.takeWhile bareGo) :: toks (q :: q')
/-- the tokens that the rest of a text still gives -/
def left : Mode → List Nat → List Nat → List Tk
  | .out, _, cs => toks cs
  | .str, v, cs => quoLeft v cs
  | .esc, _, [] => []
  | .esc, v, d :: r => quoLeft (v ++ [d]) r
  | .val, v, cs => valLeft v cs
theorem left_nil (md : Mode) (v : List Nat) : left md v [] = [] := by
  cases md with
  | out => rfl
  | str => simp [left, quoLeft, quo_nil]
  | esc => rfl
  | val => rfl
theorem left_op {c : Nat} {v r : List Nat} (h : c = 123) : left .out v (c :: r) = .op :: toks r := by subst h; exact toks_op r
theorem left_cl {c : Nat} {v r : List Nat} (h : c = 125) : left .out v (c :: r) = .cl :: toks r := by subst h; exact toks_cl r
theorem left_cm {c : Nat} {v r : List Nat} (h : c = 44) : left .out v (c :: r) = toks r := by subst h; exact toks_cm r
theorem left_qt {c : Nat} {v r : List Nat} (h : c = 34) : left .out v (c :: r) = left .str [] r := by
  subst h
  show toks (34 :: r) = quoLeft [] r
  unfold quoLeft
  cases hq : quo [] r with
  | none => exact toks_qn hq
  | some q => obtain ⟨w, r'⟩ := q; exact toks_qs hq
theorem tw_all (p : Nat → Bool) : ∀ (l : List Nat), ∀ x ∈ l.takeWhile p, p x = true
  | [], x, h => by cases h
  | a :: l, x, h => by
    rw [List.takeWhile_cons] at h
    split at h
    · rename_i ha
      rcases List.mem_cons.mp h with rfl | h
      · exact ha
      · exact tw_all p l x h
    · cases h
theorem left_val {c : Nat} {v r : List Nat} (h1 : c ≠ 123) (h2 : c ≠ 125) (h3 : c ≠ 44) (h4 : c ≠ 34) : left .out v (c :: r) = left .val [c] r := by
  have hc : bareGo c = true := by simp [bareGo, h2, h3]
  show toks (c :: r) = valLeft [c] r
  unfold valLeft
  have e := List.takeWhile_append_dropWhile (p := bareGo) (l := r)
  have ht : ∀ x ∈ r.takeWhile bareGo, bareGo x = true := tw_all bareGo r
  cases hd : r.dropWhile bareGo with
  | nil =>
    rw [hd, List.append_nil] at e
    refine toks_bare0 h1 h4 fun x hx => ?_
    rcases List.mem_cons.mp hx with rfl | hx
    · exact hc
    · rw [← e] at hx; exact ht x hx
  | cons q q' =>
    rw [hd] at e
    have hq : bareGo q = false := by
      have := List.head_dropWhile_not (p := bareGo) (l := r) (by rw [hd]; simp)
      simp only [hd, List.head_cons] at this
      exact this
    refine toks_bare (p := c :: r.takeWhile bareGo) h1 h4 (fun x hx => ?_) (by rw [List.cons_append, e]) hq hc
    rcases List.mem_cons.mp hx with rfl | hx
    · exact hc
    · exact ht x hx
theorem left_end {c : Nat} {v r : List Nat} (h : bareGo c = false) : left .val v (c :: r) = tkOf v :: toks (c :: r) := by
  show valLeft v (c :: r) = _
  unfold valLeft
  rw [List.dropWhile_cons, h, List.takeWhile_cons, h]
  simp
theorem left_go {c : Nat} {v r : List Nat} (h : bareGo c = true) : left .val v (c :: r) = left .val (v ++ [c]) r := by
  show valLeft v (c :: r) = valLeft (v ++ [c]) r
  unfold valLeft
  rw [List.dropWhile_cons, h, List.takeWhile_cons, h]
  simp
theorem left_close {c : Nat} {v r : List Nat} (h : c = 34) : left .str v (c :: r) = .leaf v :: toks r := by
  show quoLeft v (c :: r) = _
  unfold quoLeft; rw [quo_end h]
theorem left_esc {c : Nat} {v r : List Nat} (h : c = 92) : left .str v (c :: r) = left .esc v r := by
  cases r with
  | nil => show quoLeft v [c] = []; unfold quoLeft; rw [quo_esc0 h]
  | cons d r => show quoLeft v (c :: d :: r) = quoLeft (v ++ [d]) r; unfold quoLeft; rw [quo_esc h]
theorem left_sgo {c : Nat} {v r : List Nat} (h1 : c ≠ 34) (h2 : c ≠ 92) : left .str v (c :: r) = left .str (v ++ [c]) r := by
  show quoLeft v (c :: r) = quoLeft (v ++ [c]) r; unfold quoLeft; rw [quo_go h1 h2]
theorem left_egot {c : Nat} {v r : List Nat} : left .esc v (c :: r) = left .str (v ++ [c]) r := rfl

/-- one token on the open lists, the top first -/
def tstep : List (List Dat) → Tk → Option (List (List Dat))
  | [], _ => none
  | ds :: S, .op => some ([] :: ds :: S)
  | [_], .cl => some []
  | ds :: es :: S, .cl => some ((es ++ [.list ds]) :: S)
  | ds :: S, k => some ((ds ++ [tkDat k]) :: S)
def trun : List (List Dat) → List Tk → Option (List (List Dat))
  | S, [] => some S
  | S, k :: r => (tstep S k).bind fun S' => trun S' r
theorem trun_snoc : ∀ (ts : List Tk) {S S' S'' : List (List Dat)} {k : Tk}, trun S ts = some S' → tstep S' k = some S'' → trun S (ts ++ [k]) = some S''
  | [], S, S', S'', k, h1, h2 => by cases h1; simp [trun, h2]
  | t :: ts, S, S', S'', k, h1, h2 => by
    simp only [trun, List.cons_append] at h1 ⊢
    cases hs : tstep S t with
    | none => rw [hs] at h1; cases h1
    | some S₁ => rw [hs] at h1; exact trun_snoc ts h1 h2
def wordsOf : List Tk → List (List Nat)
  | [] => []
  | .leaf w :: r => w :: wordsOf r
  | _ :: r => wordsOf r
theorem words_app : ∀ (a b : List Tk), wordsOf (a ++ b) = wordsOf a ++ wordsOf b
  | [], b => rfl
  | k :: a, b => by
    have ih := words_app a b
    cases k <;> simp [wordsOf, ih]
/-- an open list: its place, its items but the open one, its turns, what they read as -/
abbrev Ent := Addr × List Value × Nat × List Dat
def chain : List Value → List Ent → List (Addr × Obj)
  | _, [] => []
  | kid, e :: S => (e.1, listOf (e.2.1 ++ kid).toArray e.2.2.1) :: chain [.ref e.1] S
def srefs : List Ent → List Value
  | [] => []
  | e :: S => srefs S ++ [.ref e.1]
def dats (S : List Ent) : List (List Dat) := S.map (·.2.2.2)
def AllDat (nw : List (Addr × Obj)) : List Ent → Prop
  | [] => True
  | e :: S => DatAll nw e.2.1 e.2.2.2 ∧ AllDat nw S
theorem AllDat.mono {nw nw' : List (Addr × Obj)} (hs : ∀ p ∈ nw, p ∈ nw') : ∀ {S : List Ent}, AllDat nw S → AllDat nw' S
  | [], _ => trivial
  | _ :: _, h => ⟨h.1.mono hs, AllDat.mono hs h.2⟩
theorem srefs_len : ∀ S : List Ent, (srefs S).length = S.length
  | [] => rfl
  | e :: S => by simp only [srefs, List.length_append, srefs_len S, List.length_cons, List.length_nil]
/-- the lowest list, all above it closed -/
def fin : List Dat → List (List Dat) → List Dat
  | kid, [] => kid
  | kid, [ds] => ds ++ kid
  | kid, ds :: es :: S => fin [.list (ds ++ kid)] (es :: S)
theorem root_of : ∀ (S : List Ent) (kid : List Value) (kd : List Dat) (nw : List (Addr × Obj)), S ≠ [] → AllDat nw S → (∀ p ∈ chain kid S, p ∈ nw) → DatAll nw kid kd →
    ∃ r vs n, (srefs S)[0]? = some (.ref r) ∧ (r, listOf vs.toArray n) ∈ nw ∧ DatAll nw vs (fin kd (dats S)) ∧ (r, listOf vs.toArray n) ∈ chain kid S
  | [], _, _, _, h, _, _, _ => absurd rfl h
  | [e], kid, kd, nw, _, hd, hs, hk => ⟨e.1, e.2.1 ++ kid, e.2.2.1, rfl, hs _ (.head _), dat_app hd.1 hk, .head _⟩
  | e :: e' :: S, kid, kd, nw, _, hd, hs, hk => by
    obtain ⟨r, vs, n, h1, h2, h3, h4⟩ := root_of (e' :: S) [.ref e.1] [.list (e.2.2.2 ++ kd)] nw (by simp) hd.2 (fun p hp => hs p (.tail _ hp)) (.cons (.list (hs _ (.head _)) (dat_app hd.1 hk)) .nil)
    refine ⟨r, vs, n, ?_, h2, h3, .tail _ h4⟩
    show (srefs (e' :: S) ++ [.ref e.1])[0]? = _
    rw [List.getElem?_append_left (by rw [srefs_len]; simp)]
    exact h1
where
  dat_app {nw : List (Addr × Obj)} : ∀ {vs us : List Value} {ds es : List Dat}, DatAll nw vs ds → DatAll nw us es → DatAll nw (vs ++ us) (ds ++ es)
    | [], us, [], es, _, h => h
    | v :: vs, us, d :: ds, es, .cons a r, h => .cons a (dat_app r h)
section
variable {prog : Program} {w : World} {A : Around} {E : Value → Shared → Prop} {s : Shared} {h₀ : Heap} {L l D : Addr} {m : PySem.Str → Option Value} {news news' : List (Addr × Obj)}
theorem my_last {p : List Value} {y : Value} {n : Nat} {u : Tok} {Q : Value → Shared → Prop} {value slice : PySem.Expr} (N : News h₀ L s.heap news) (hm : (l, listOf (p ++ [y]).toArray n) ∈ news) (hz : p.length ≤ 1000) (h : Q y s)
    (hs : subscripted slice false (.ref l) (.int (-1) u) = operate [.ref l, .int (-1) u] (getItem (.ref l) (.int (-1) u))) :
    wpAny (model prog w) A (subscriptTail value slice (.ref l) (.int (-1) u)) Q E s := by
  have hl : s.heap.IsList l (p ++ [y]).toArray := ⟨_, (N _ hm).1, rfl, n, rfl⟩
  have hsz : (p ++ [y]).toArray.size = p.length + 1 := by simp
  refine tail_any hl.typeIs slot_list_getitem.lookup (wpAny_getItem_list_neg (x := y) hl (by omega) (by rw [hsz]; omega) (by omega) ?_ h) hs
  rw [hsz]
  have : ((-1 : Int) + ((p.length + 1 : Nat) : Int)).toNat = p.length := by omega
  rw [this]; simp
theorem my_out {vs : List Value} {n : Nat} {k : Int} {u : Tok} {Q : Value → Shared → Prop} {value slice : PySem.Expr} (hA : A.handled = none) (N : News h₀ L s.heap news) (hm : (l, listOf vs.toArray n) ∈ news) (hv : vs = []) (hk : k = 0 ∨ k = -1)
    (h : ∀ h' tk e, Heap.NewExc s.heap h' e "IndexError" → E (.ref e) { s with heap := h', toks := tk })
    (hs : subscripted slice false (.ref l) (.int k u) = operate [.ref l, .int k u] (getItem (.ref l) (.int k u))) :
    wpAny (model prog w) A (subscriptTail value slice (.ref l) (.int k u)) Q E s := by
  subst hv
  have hl : s.heap.IsList l #[] := ⟨_, (N _ hm).1, rfl, n, rfl⟩
  refine tail_any hl.typeIs slot_list_getitem.lookup (wpAny_getItem_list_out hA hl ?_ (by omega) (by omega) h) hs
  show k < -((0 : Nat) : Int) ∨ ((0 : Nat) : Int) ≤ k
  omega
theorem my_pop {p : List Value} {y : Value} {n : Nat} {Q : Value → Shared → Prop} (F : Fr h₀ L s.heap m) (N : News h₀ L s.heap news) (U : Upd D (listOf (p ++ [y]).toArray n) (listOf p.toArray (n + 1)) news news') (hz : p.length ≤ 1000)
    (h : ∀ h', Fr h₀ L h' m → News h₀ L h' news' → Q y { s with heap := h' }) : wpAny (model prog w) A (call (.builtin "list.pop") [.ref D]) Q E s := by
  refine kl_pop F N (p := p) (y := y) ?_ U (by rw [sizeLine_eq]; simp; omega) h
  have e := kpa_last y p
  simpa using e
theorem my_popout {n : Nat} {Q : Value → Shared → Prop} (hA : A.handled = none) (N : News h₀ L s.heap news) (hm : (D, listOf ([] : List Value).toArray n) ∈ news)
    (h : ∀ h' tk e, Heap.NewExc s.heap h' e "IndexError" → E (.ref e) { s with heap := h', toks := tk }) : wpAny (model prog w) A (call (.builtin "list.pop") [.ref D]) Q E s := by
  refine call_meets PySem.F.slot_list_pop ⟨_, (N _ hm).1, rfl⟩ PySem.F.entry_list_pop (PySem.F.args_list_pop_1 _) (PySem.AutoSeq1.list_pop_list_0 D _ n rfl) ⟨(N _ hm).1, hA, h⟩
end
end Mine

namespace Mine
structure Sep (A : List Addr) (dn itr : List (Addr × Obj)) : Prop where
  nd : A.Nodup
  off : ∀ p ∈ dn, p.1 ∉ A
  ioff : ∀ p ∈ itr, p.1 ∉ A
  io : ∀ p ∈ itr, ∀ q ∈ dn, p.1 ≠ q.1
structure Fresh (d : Addr) (A : List Addr) (dn itr : List (Addr × Obj)) : Prop where
  a : ∀ b ∈ A, b < d
  dn : ∀ p ∈ dn, p.1 < d
  itr : ∀ p ∈ itr, p.1 < d
theorem chain_addr : ∀ (S : List Ent) (kid : List Value), (chain kid S).map (·.1) = S.map (·.1)
  | [], _ => rfl
  | e :: S, kid => by simp only [chain, List.map_cons, chain_addr S]
section
variable {va va' sa hl r d : Addr} {R A : List Addr} {dn itr : List (Addr × Obj)} {o : Obj}
theorem Sep.val (h : Sep (va :: sa :: R) dn itr) (f : Fresh d (va :: sa :: R) dn itr) : Sep (d :: sa :: R) dn itr where
  nd := List.nodup_cons.mpr ⟨fun q => Nat.lt_irrefl _ (f.a _ (.tail _ q)), (List.nodup_cons.mp h.nd).2⟩
  off := fun p hp q => (List.mem_cons.mp q).elim (fun e => Nat.lt_irrefl _ (e ▸ f.dn p hp)) fun q => h.off p hp (.tail _ q)
  ioff := fun p hp q => (List.mem_cons.mp q).elim (fun e => Nat.lt_irrefl _ (e ▸ f.itr p hp)) fun q => h.ioff p hp (.tail _ q)
  io := h.io
theorem Sep.more (h : Sep A dn itr) (f : Fresh d A dn itr) : Sep A ((d, o) :: dn) itr where
  nd := h.nd
  off := fun p hp => (List.mem_cons.mp hp).elim (fun e => by rw [e]; exact fun q => Nat.lt_irrefl _ (f.a _ q)) fun hp => h.off p hp
  ioff := h.ioff
  io := fun p hp q hq => (List.mem_cons.mp hq).elim (fun e => by rw [e]; exact Nat.ne_of_lt (f.itr p hp)) fun hq => h.io p hp q hq
theorem Sep.push (h : Sep (va :: sa :: hl :: R) dn itr) (f : Fresh d (va :: sa :: hl :: R) dn itr) : Sep (va :: sa :: hl :: d :: R) dn itr := by
  have e : (va :: sa :: hl :: d :: R).Perm (d :: va :: sa :: hl :: R) := by
    have h1 : (hl :: d :: R).Perm (d :: hl :: R) := List.Perm.swap ..
    have h2 : (sa :: hl :: d :: R).Perm (d :: sa :: hl :: R) := (h1.cons sa).trans (List.Perm.swap ..)
    exact (h2.cons va).trans (List.Perm.swap ..)
  exact {
    nd := e.nodup_iff.mpr (List.nodup_cons.mpr ⟨fun q => Nat.lt_irrefl _ (f.a _ q), h.nd⟩)
    off := fun p hp q => (List.mem_cons.mp (e.mem_iff.mp q)).elim (fun e => Nat.lt_irrefl _ (e ▸ f.dn p hp)) fun q => h.off p hp q
    ioff := fun p hp q => (List.mem_cons.mp (e.mem_iff.mp q)).elim (fun e => Nat.lt_irrefl _ (e ▸ f.itr p hp)) fun q => h.ioff p hp q
    io := h.io }
theorem Sep.pop (h : Sep (va :: sa :: hl :: r :: R) dn itr) : Sep (va :: sa :: hl :: R) ((r, o) :: dn) itr := by
  have e : (va :: sa :: hl :: r :: R).Perm (r :: va :: sa :: hl :: R) := by
    have h1 : (hl :: r :: R).Perm (r :: hl :: R) := List.Perm.swap ..
    have h2 : (sa :: hl :: r :: R).Perm (r :: sa :: hl :: R) := (h1.cons sa).trans (List.Perm.swap ..)
    exact (h2.cons va).trans (List.Perm.swap ..)
  have n := List.nodup_cons.mp (e.nodup_iff.mp h.nd)
  exact {
    nd := n.2
    off := fun p hp q => (List.mem_cons.mp hp).elim (fun e' => n.1 (by rw [e'] at q; exact q)) fun hp => h.off p hp (e.mem_iff.mpr (.tail _ q))
    ioff := fun p hp q => h.ioff p hp (e.mem_iff.mpr (.tail _ q))
    io := fun p hp q hq => (List.mem_cons.mp hq).elim (fun e' => by rw [e']; exact fun z => h.ioff p hp (e.mem_iff.mpr (by show p.1 ∈ r :: _; rw [z]; exact .head _))) fun hq => h.io p hp q hq }
theorem Sep.drop (h : Sep A dn itr) : Sep A dn [] := ⟨h.nd, h.off, fun _ h => (nomatch h), fun _ h => (nomatch h)⟩
theorem Sep.fold {S : List Ent} {o1 o2 o3 : Obj} {kid : List Value} (h : Sep (va :: sa :: hl :: S.map (·.1)) dn []) (ho : OwnOff itr (((va, o1) :: (sa, o2) :: (hl, o3) :: (chain kid S ++ dn)).map (·.1))) : Sep (va :: sa :: hl :: S.map (·.1)) dn itr := by
  simp only [List.map_cons, List.map_append, chain_addr] at ho
  refine ⟨h.nd, h.off, fun p hp q => ho p hp p.1 ?_ rfl, fun p hp q hq => ho p hp _ ?_⟩
  · rw [← List.cons_append, ← List.cons_append, ← List.cons_append]; exact List.mem_append_left _ q
  · exact .tail _ (.tail _ (.tail _ (List.mem_append_right _ (List.mem_map_of_mem hq))))
theorem Sep.unfold {S : List Ent} {o1 o2 o3 : Obj} {kid : List Value} (h : Sep (va :: sa :: hl :: S.map (·.1)) dn itr) : OwnOff itr (((va, o1) :: (sa, o2) :: (hl, o3) :: (chain kid S ++ dn)).map (·.1)) := by
  intro p hp b hb
  simp only [List.map_cons, List.map_append, chain_addr] at hb
  rw [← List.cons_append, ← List.cons_append, ← List.cons_append] at hb
  rcases List.mem_append.mp hb with hb | hb
  · exact fun e => h.ioff p hp (e ▸ hb)
  · obtain ⟨q, hq, rfl⟩ := List.mem_map.mp hb
    exact h.io p hp q hq
theorem fresh_of {S : List Ent} {o1 o2 o3 : Obj} {kid : List Value} (h : ∀ p ∈ (va, o1) :: (sa, o2) :: (hl, o3) :: ((chain kid S ++ dn) ++ itr), p.1 < d) : Fresh d (va :: sa :: hl :: S.map (·.1)) dn itr where
  a := fun b hb => by
    rcases List.mem_cons.mp hb with rfl | hb
    · exact h (b, o1) (.head _)
    rcases List.mem_cons.mp hb with rfl | hb
    · exact h (b, o2) (.tail _ (.head _))
    rcases List.mem_cons.mp hb with rfl | hb
    · exact h (b, o3) (.tail _ (.tail _ (.head _)))
    rw [← chain_addr S kid] at hb
    obtain ⟨p, hp, rfl⟩ := List.mem_map.mp hb
    exact h p (.tail _ (.tail _ (.tail _ (List.mem_append_left _ (List.mem_append_left _ hp)))))
  dn := fun p hp => h p (.tail _ (.tail _ (.tail _ (List.mem_append_left _ (List.mem_append_right _ hp)))))
  itr := fun p hp => h p (.tail _ (.tail _ (.tail _ (List.mem_append_right _ hp))))
/-- what a turn may lean on -/
theorem Sep.facts {S : List Ent} {kid : List Value} (h : Sep (va :: sa :: hl :: r :: S.map (·.1)) dn itr) :
    (va ≠ sa ∧ va ≠ hl ∧ va ≠ r ∧ sa ≠ hl ∧ sa ≠ r ∧ hl ≠ r) ∧ (∀ p ∈ (chain kid S ++ dn) ++ itr, p.1 ≠ va) ∧ (∀ p ∈ (chain kid S ++ dn) ++ itr, p.1 ≠ sa) ∧ (∀ p ∈ (chain kid S ++ dn) ++ itr, p.1 ≠ hl) ∧ (∀ p ∈ (chain kid S ++ dn) ++ itr, p.1 ≠ r) := by
  have n := h.nd
  simp only [List.nodup_cons, List.mem_cons, not_or] at n
  obtain ⟨⟨a1, a2, a3, a4⟩, ⟨b1, b2, b3⟩, ⟨c1, c2⟩, d1, _⟩ := n
  have key : ∀ b, b ∈ va :: sa :: hl :: [r] → b ∉ S.map (·.1) → ∀ p ∈ (chain kid S ++ dn) ++ itr, p.1 ≠ b := by
    intro b hb hn p hp e
    have hb' : b ∈ va :: sa :: hl :: r :: S.map (·.1) := by
      simp only [List.mem_cons, List.not_mem_nil, or_false] at hb ⊢
      rcases hb with h | h | h | h <;> simp [h]
    rcases List.mem_append.mp hp with hp | hp
    · rcases List.mem_append.mp hp with hp | hp
      · exact hn (by rw [← chain_addr S kid, ← e]; exact List.mem_map_of_mem hp)
      · exact h.off p hp (e ▸ hb')
    · exact h.ioff p hp (e ▸ hb')
  exact ⟨⟨a1, a2, a3, b1, b2, c1⟩, key va (.head _) a4, key sa (.tail _ (.head _)) b3, key hl (.tail _ (.tail _ (.head _))) c2, key r (.tail _ (.tail _ (.tail _ (.head _)))) d1⟩
theorem Sep.facts0 (h : Sep (va :: sa :: hl :: []) dn itr) :
    (va ≠ sa ∧ va ≠ hl ∧ sa ≠ hl) ∧ (∀ p ∈ dn ++ itr, p.1 ≠ va) ∧ (∀ p ∈ dn ++ itr, p.1 ≠ sa) ∧ (∀ p ∈ dn ++ itr, p.1 ≠ hl) := by
  have n := h.nd
  simp only [List.nodup_cons, List.mem_cons, not_or, List.not_mem_nil] at n
  have key : ∀ b, b ∈ va :: sa :: [hl] → ∀ p ∈ dn ++ itr, p.1 ≠ b := by
    intro b hb p hp e
    rcases List.mem_append.mp hp with hp | hp
    · exact h.off p hp (e ▸ hb)
    · exact h.ioff p hp (e ▸ hb)
  exact ⟨⟨n.1.1, n.1.2.1, n.2.1.1⟩, key va (.head _), key sa (.tail _ (.head _)), key hl (.tail _ (.tail _ (.head _)))⟩
end
theorem news_perm {h₀ h : Heap} {L : Addr} {a b c d : Addr × Obj} {l : List (Addr × Obj)} (N : News h₀ L h (a :: b :: c :: d :: l)) : News h₀ L h (a :: b :: d :: c :: l) := by
  intro p hp
  apply N
  simp only [List.mem_cons] at hp ⊢
  rcases hp with h | h | h | h | h <;> simp [h]
def one (c : Nat) : PySem.Str := tx [c]
theorem sep0 {hl r0 sa va : Addr} {news : List (Addr × Obj)} (h1 : hl < r0 ∧ AllLt r0 news) (h2 : r0 < sa ∧ hl < sa ∧ AllLt sa news) (h3 : sa < va ∧ r0 < va ∧ hl < va ∧ AllLt va news) (hne : ∀ p ∈ news, p.1 ≠ hl) : Sep [va, sa, hl, r0] news [] where
  nd := by
    have a1 : (va : Nat) ≠ sa := Nat.ne_of_gt h3.1
    have a2 : (va : Nat) ≠ hl := Nat.ne_of_gt h3.2.2.1
    have a3 : (va : Nat) ≠ r0 := Nat.ne_of_gt h3.2.1
    have a4 : (sa : Nat) ≠ hl := Nat.ne_of_gt h2.2.1
    have a5 : (sa : Nat) ≠ r0 := Nat.ne_of_gt h2.1
    have a6 : (hl : Nat) ≠ r0 := Nat.ne_of_lt h1.1
    simp only [List.nodup_cons, List.mem_cons, not_or, List.not_mem_nil, not_false_eq_true, and_true, List.nodup_nil]
    exact ⟨⟨a1, a2, a3⟩, ⟨a4, a5⟩, a6⟩
  off := fun p hp q => by
    rcases List.mem_cons.mp q with e | q
    · exact Nat.ne_of_lt (tb_ltOf h3.2.2.2 p hp) e
    rcases List.mem_cons.mp q with e | q
    · exact Nat.ne_of_lt (tb_ltOf h2.2.2 p hp) e
    rcases List.mem_cons.mp q with e | q
    · exact hne p hp e
    rcases List.mem_cons.mp q with e | q
    · exact Nat.ne_of_lt (tb_ltOf h1.2 p hp) e
    · cases q
  ioff := fun _ h => nomatch h
  io := fun _ h => nomatch h
theorem strs_len {us : List Value} {ws : List PySem.Str} (h : StrsAre us ws) : us.length = ws.length := by
  induction h with
  | nil => rfl
  | cons x t r ih => simp only [List.length_cons, ih]
theorem strs_snoc {us : List Value} {ws : List PySem.Str} (h : StrsAre us ws) (x : PySem.Str) (t : Tok) : StrsAre (us ++ [.str x t]) (ws ++ [x]) := by
  induction h with
  | nil => exact .cons x t .nil
  | cons y u r ih => exact .cons y u ih
theorem join_ones : ∀ v : List Nat, PySem.Txt.join (PySem.Str.ofString "") (v.map one) = tx v := by
  intro v
  have e0 : (PySem.Str.ofString "") = tx [] := by decide +kernel
  have key : ∀ v : List Nat, Str.join (tx []) (v.map one) = tx v := by
    intro v
    induction v with
    | nil => rfl
    | cons a v ih =>
      cases v with
      | nil => rfl
      | cons b v =>
        show one a ++ tx [] ++ Str.join (tx []) ((b :: v).map one) = _
        rw [ih]
        unfold one
        rw [tx_snoc, tx_snoc]; rfl
  rw [e0]
  cases v with
  | nil => rfl
  | cons a v =>
    show Builtin.Str.glued _ ((a :: v).map one) = _
    rw [StrLaws.glued_eq_join]
    exact key _
section
variable {prog : Program} {w : World} {A : Around} {E : Value → Shared → Prop} {s : Shared} {h₀ : Heap} {L : Addr} {news : List (Addr × Obj)}
theorem my_joinones {D : Addr} {o : Obj} {us : List Value} {v : List Nat} {n : Nat} {t : Tok} {Q : Value → Shared → Prop} (N : News h₀ L s.heap news) (hm : (D, o) ∈ news) (hc : o.cls = .type "list") (hd : o.data = .seq us.toArray n) (hs : StrsAre us (v.map one)) (hz : v.length ≤ 1000)
    (h : ∀ t' k, Q (.str (tx v) t') { s with toks := k }) : wpAny (model prog w) A (call (.builtin "str.join") [.str (PySem.Str.ofString "") t, .ref D]) Q E s := by
  refine my_join N hm hc hd hs ?_ (by rw [join_ones]; exact h)
  have e0 : (PySem.Str.ofString "").length = 0 := by decide +kernel
  have h1 : ∀ y ∈ v.map one, y.length ≤ 1 := fun y hy => by
    obtain ⟨c, _, rfl⟩ := List.mem_map.mp hy
    exact Nat.le_refl _
  have h2 := sum_le h1
  rw [List.length_map] at h2
  rw [e0]; omega
end
theorem sign_of {x : PySem.Str} {i k : Nat} (hx : x.length ≤ 60) (h : x.cps[i]? = some k) : x.cps.toList.drop i = k :: x.cps.toList.drop (i + 1) ∧ i < 60 := by
  have hl : i < x.cps.size := by
    rcases Nat.lt_or_ge i x.cps.size with q | q
    · exact q
    · rw [Array.getElem?_eq_none q] at h; cases h
  have h2 : x.cps.size ≤ 60 := hx
  refine ⟨?_, Nat.lt_of_lt_of_le hl h2⟩
  have h3 : x.cps.toList[i]? = some k := by rw [Array.getElem?_toList]; exact h
  obtain ⟨h4, h5⟩ := List.getElem?_eq_some_iff.mp h3
  rw [List.drop_eq_getElem_cons h4, h5]
end Mine

namespace Mine
section
variable {prog : Program} {w : World} {A : Around} {E : Value → Shared → Prop} {s : Shared} {K : Frag} {x y C L : Addr} {h₀ : Heap} {m : PySem.Str → Option Value} {ox oy : Obj} {od oe : Option Obj}
theorem ifBoundB {M : Model} {id : String} {name : PySem.Str} {args : List Value} {Q : Option Value → Shared → Prop} (X : K.In s.heap) (I : InstAt s.heap x ox C od) (hs : findIn K (.ref C) name = some (some (.builtin id))) (hb : ∀ self, bindSpecial (.builtin id) self = pure (.builtin id, [self]))
    (h : wpAny M A (call (.builtin id) (.ref x :: args)) (fun v => Q (some v)) E s) : wpAny M A (callSpecialIfBound? (.ref x) name args) Q E s := by
  simp only [callSpecialIfBound?, bindSpecialIfBound?]
  refine wpAny_holding (wpAny_bind (wpAny_bind (wpAny_bind (I.type.here ((looks_findIn X hs).here ?_)))))
  refine wpAny_bind (wpAny_askSetting (wpAny_ite ?_))
  have fin : wpAny M A (call (.builtin id) ([.ref x] ++ args) >>= fun v => pure (some v)) Q E s := wpAny_bind (wpAny_mono h (fun v s' h' => wpAny_pure h') fun _ _ h' => h')
  split
  · exact wpAny_bind ((Looks.of_pure (hb _)).here (wpAny_pure (by exact fin)))
  · exact wpAny_tryCatch (wpAny_bind ((Looks.of_pure (hb _)).here (wpAny_pure (by exact fin))))
theorem check_oeq {M : Model} {rest : List Value} {Q : Unit → Shared → Prop} (X : K.In s.heap) (I : InstAt s.heap x ox C od) (hob : subIn K (.ref C) (.type "object") = some true) (ha : argsOk "object.__eq__" ⟨.ref x :: rest, []⟩) (hq : Q () s) :
    wpAny M A (checkBuiltinCall "object.__eq__" ⟨.ref x :: rest, []⟩) Q E s := by
  simp only [checkBuiltinCall, F.cmpKind_eq, F.cmpSplit_eq]
  refine wpAny_bind ?_
  unfold isInstance
  refine wpAny_bind (I.type.here ?_)
  refine (looks_subIn X hob).here ?_
  cases hsig : Manifest.signature? "object.__eq__" with
  | none => exact wpAny_pure hq
  | some sig =>
    simp only [argsOk, hsig] at ha
    have h2 : Bind.checkArgs "object.__eq__" sig ⟨.ref x :: rest, []⟩ = pure () := ha
    show wpAny M A (Bind.checkArgs "object.__eq__" sig ⟨.ref x :: rest, []⟩) Q E _
    rw [h2]; exact wpAny_pure hq
theorem call_oeq {Q : Value → Shared → Prop} (X : K.In s.heap) (I : InstAt s.heap x ox C od) (J : s.heap.get? y = some oy) (hob : subIn K (.ref C) (.type "object") = some true) (hc : ox.cls ≠ .type "tuple")
    (h : Q (if x = y then .bool true else .notImplemented) s) : wpAny (model prog w) A (call (.builtin "object.__eq__") [.ref x, .ref y]) Q E s := by
  refine wpAny_call (codeAny_call_builtin F.cmp_object.eq.plain F.cmpEntry_eq (check_oeq X I hob (F.cmpArgs_eq _ _) ?_))
  by_cases e : x = y
  · subst e
    rw [if_pos rfl] at h
    exact objEq_entry_same h
  · rw [if_neg e] at h
    exact objEq_entry_other e I.at_ J hc h
theorem eqid_K {Q : Value → Shared → Prop} (hu : A.units < cLine) (F₁ : Fr h₀ L s.heap m) (X₀ : K.In h₀) (I : InstAt s.heap x ox C od) (J : InstAt s.heap y oy C oe)
    (hs : findIn K (.ref C) "__eq__" = some (some (.builtin "object.__eq__"))) (hob : subIn K (.ref C) (.type "object") = some true) (h : Q (.bool (decide (x = y))) s) :
    wpAny (model prog w) A (compareOp .Eq (.ref x) (.ref y)) Q E s := by
  have X := X₀.keeps F₁.keep
  have nt : ∀ {o : Obj}, o.cls = .ref C → o.cls ≠ .type "tuple" := fun e q => by rw [e] at q; cases q
  have one : ∀ {a b : Addr} {oa ob : Obj} {da db : Option Obj} {R : Option Value → Shared → Prop}, InstAt s.heap a oa C da → InstAt s.heap b ob C db → R (if a = b then some (.bool true) else none) s →
      wpAny (model prog w) A (tryCompare (.ref a) "__eq__" (.ref b)) R E s := by
    intro a b oa ob da db R Ia Ib hR
    unfold tryCompare
    refine wpAny_bind (ifBoundB X Ia hs (F.cmp_object.eq.bind) (call_oeq X Ia Ib.at_ hob (nt Ia.cls) ?_))
    by_cases e : a = b
    · rw [if_pos e] at hR ⊢; exact wpAny_pure hR
    · rw [if_neg e] at hR ⊢; exact wpAny_pure hR
  show wpAny (model prog w) A (richCompare .Eq (.ref x) (.ref y)) Q E s
  simp only [richCompare, cmpInfo_Eq, oneThing_ref]
  refine wpAny_holding (wpAny_bind (wpAny_cRoomFor hu ?_))
  refine wpAny_bind (I.type.here (wpAny_bind (J.type.here ?_)))
  rw [if_neg (by simp)]
  refine wpAny_bind (wpAny_pure ?_)
  simp only [Bool.false_eq_true, if_false]
  by_cases e : x = y
  · rw [decide_eq_true e] at h
    refine wpAny_bind (one I J ?_)
    rw [if_pos e]
    exact wpAny_pure h
  · rw [decide_eq_false e] at h
    refine wpAny_bind (one I J ?_)
    rw [if_neg e]
    have two : ∀ {R : Option Value → Shared → Prop}, R none s → wpAny (model prog w) A (tryCompare (.ref y) "__eq__" (.ref x)) R E s := fun hR => one J I (by rw [if_neg (fun q => e q.symm)]; exact hR)
    repeat (first | with_reducible refine two ?_ | with_reducible refine wpAny_isSame_ref_other e I.at_ J.at_ (nt I.cls) ?_ | wp_step)
    exact h
theorem eqid_B {Q : Value → Shared → Prop} {b : Bool} (hu : A.units < cLine) (F₁ : Fr h₀ L s.heap m) (X₀ : K.In h₀) (I : InstAt s.heap x ox C od) (J : InstAt s.heap y oy C oe)
    (hs : findIn K (.ref C) "__eq__" = some (some (.builtin "object.__eq__"))) (hob : subIn K (.ref C) (.type "object") = some true) (hb : decide (x = y) = b) (h : Q (.bool b) s) :
    wpAny (model prog w) A (compareOp .Eq (.ref x) (.ref y)) Q E s := eqid_K hu F₁ X₀ I J hs hob (by rw [hb]; exact h)
end
end Mine

namespace Mine
structure PSt where
  md : Mode
  v : List Nat
  vv : List Value
  va : Addr
  nv : Nat
  S : List Ent
  ns : Nat
  hv : List Value
  nh : Nat
  dyn : List (Addr × Obj)
  ts : List Tk
/-- a goal put by: the walk does not open it -/
structure Held (P : Prop) : Prop where
  h : P
def led (hl sa : Addr) (news : List (Addr × Obj)) (c : PSt) : List (Addr × Obj) :=
  (c.va, listOf c.vv.toArray c.nv) :: (sa, listOf (srefs c.S).toArray c.ns) :: (hl, listOf c.hv.toArray c.nh) :: (chain [] c.S ++ (c.dyn ++ news))
structure PInv (x : PySem.Str) (hl sa : Addr) (news own : List (Addr × Obj)) (i j : Nat) (c : PSt) : Prop where
  sep : Sep (c.va :: sa :: hl :: c.S.map (·.1)) (c.dyn ++ news) own
  vv : StrsAre c.vv (c.v.map one)
  ad : AllDat c.dyn c.S
  hv : StrsAre c.hv ((wordsOf c.ts).map tx)
  run : trun [[]] c.ts = some (dats c.S)
  q : toks x.cps.toList = c.ts ++ left c.md c.v (x.cps.toList.drop i)
  b1 : c.v.length ≤ j
  b2 : c.S.length ≤ j + 1
  b3 : ∀ e ∈ c.S, e.2.1.length ≤ j
  b4 : c.hv.length ≤ j
def pps (f : Addr) (a : Addr × Addr × Addr) (c : PSt) : List (PySem.Str × Value) := [(Str.ofString "adapter", Value.ref f), (Str.ofString "state", Value.ref c.md.ref), (Str.ofString "stack", Value.ref a.1), (Str.ofString "val", Value.ref c.va)]
def PJ (x : PySem.Str) (hl : Addr) (news : List (Addr × Obj)) (a : Addr × Addr × Addr) (i : Nat) (c : PSt) (nx : List (Addr × Obj)) : Prop := nx = led hl a.1 news c ∧ PInv x hl a.1 news [] i (2 * i) c
section
variable {x : PySem.Str} {hl sa va d r : Addr} {news own : List (Addr × Obj)} {i j k : Nat} {md : Mode} {v : List Nat} {vv : List Value} {nv : Nat} {S : List Ent} {ns : Nat} {hv : List Value} {nh : Nat} {dyn : List (Addr × Obj)} {ts : List Tk} {us : List Value} {n : Nat} {ds : List Dat} {t : Tok} {c : PSt}
theorem PInv.owned (h : PInv x hl sa news [] i j c) (ho : OwnOff own ((led hl sa news c).map (·.1))) : PInv x hl sa news own i j c := ⟨Sep.fold h.sep ho, h.vv, h.ad, h.hv, h.run, h.q, h.b1, h.b2, h.b3, h.b4⟩
theorem PInv.bare (h : PInv x hl sa news own i j c) : PInv x hl sa news [] i j c := ⟨h.sep.drop, h.vv, h.ad, h.hv, h.run, h.q, h.b1, h.b2, h.b3, h.b4⟩
theorem PInv.off (h : PInv x hl sa news own i j c) : OwnOff own ((led hl sa news c).map (·.1)) := Sep.unfold h.sep
theorem PInv.up {j' : Nat} (h : PInv x hl sa news own i j c) (hj : j ≤ j') : PInv x hl sa news own i j' c := ⟨h.sep, h.vv, h.ad, h.hv, h.run, h.q, Nat.le_trans h.b1 hj, by have := h.b2; omega, fun e he => Nat.le_trans (h.b3 e he) hj, Nat.le_trans h.b4 hj⟩
theorem PInv.fin {h₀ : Heap} {L f : Addr} {s : Shared} {a : Addr × Addr × Addr} {h' : Heap} {tk : Nat} {m' : PySem.Str → Option Value} {all : List (Addr × Obj)}
    (F : Fr h₀ L h' m') (N : News h₀ L h' all) (c : PSt) (I : PInv x hl a.1 news own (i + 1) j c) (hj : j ≤ 2 * (i + 1)) (sub : ∀ p ∈ led hl a.1 news c, p ∈ all) (ho : ∀ p ∈ own, p ∈ all) (hk : ∀ p ∈ pps f a c, m' p.1 = some p.2) :
    FEnd h₀ L s (pps f a) (PJ x hl news a) own (i + 1) { s with heap := h', toks := tk } :=
  FEnd.intro F N c _ sub ho I.off hk ⟨rfl, (I.up hj).bare⟩
/-- nothing but the place -/
theorem PInv.skip (h : PInv x hl sa news own i j ⟨.out, v, vv, va, nv, S, ns, hv, nh, dyn, ts⟩) (hd : x.cps.toList.drop i = 44 :: x.cps.toList.drop (i + 1)) : PInv x hl sa news own (i + 1) j ⟨.out, v, vv, va, nv, S, ns, hv, nh, dyn, ts⟩ :=
  ⟨h.sep, h.vv, h.ad, h.hv, h.run, by have := h.q; dsimp only at this ⊢; rw [this, hd, left_cm rfl]; rfl, h.b1, h.b2, h.b3, h.b4⟩
/-- the opening quote -/
theorem PInv.quote {nd : Nat} (h : PInv x hl sa news own i j ⟨.out, v, vv, va, nv, S, ns, hv, nh, dyn, ts⟩) (hd : x.cps.toList.drop i = 34 :: x.cps.toList.drop (i + 1)) (f : Fresh d (va :: sa :: hl :: S.map (·.1)) (dyn ++ news) own) :
    PInv x hl sa news own (i + 1) j ⟨.str, [], [], d, nd, S, ns, hv, nh, dyn, ts⟩ :=
  ⟨h.sep.val f, .nil, h.ad, h.hv, h.run, by have := h.q; dsimp only at this ⊢; rw [this, hd, left_qt rfl], Nat.zero_le _, h.b2, h.b3, h.b4⟩
/-- a bare piece begins -/
theorem PInv.bgn {nd : Nat} (h : PInv x hl sa news own i j ⟨.out, v, vv, va, nv, S, ns, hv, nh, dyn, ts⟩) (hd : x.cps.toList.drop i = k :: x.cps.toList.drop (i + 1)) (h1 : k ≠ 123) (h2 : k ≠ 125) (h3 : k ≠ 44) (h4 : k ≠ 34) (f : Fresh d (va :: sa :: hl :: S.map (·.1)) (dyn ++ news) own) :
    PInv x hl sa news own (i + 1) (j + 1) ⟨.val, [k], [.str (one k) t], d, nd, S, ns, hv, nh, dyn, ts⟩ :=
  ⟨h.sep.val f, .cons _ _ .nil, h.ad, h.hv, h.run, by have := h.q; dsimp only at this ⊢; rw [this, hd, left_val h1 h2 h3 h4], by simp, Nat.le_succ_of_le h.b2, fun e he => Nat.le_succ_of_le (h.b3 e he), Nat.le_succ_of_le h.b4⟩
theorem PInv.more (h : PInv x hl sa news own i j ⟨md, v, vv, va, nv, S, ns, hv, nh, dyn, ts⟩) (md' : Mode) (hq : left md v (x.cps.toList.drop i) = left md' (v ++ [k]) (x.cps.toList.drop (i + 1))) :
    PInv x hl sa news own (i + 1) (j + 1) ⟨md', v ++ [k], vv ++ [.str (one k) t], va, nv + 1, S, ns, hv, nh, dyn, ts⟩ :=
  ⟨h.sep, by dsimp only; rw [List.map_append]; exact strs_snoc h.vv _ _, h.ad, h.hv, h.run, by have := h.q; dsimp only at this ⊢; rw [this, hq], by have := h.b1; simpa using this, Nat.le_succ_of_le h.b2, fun e he => Nat.le_succ_of_le (h.b3 e he), Nat.le_succ_of_le h.b4⟩
/-- a bare piece goes on -/
theorem PInv.vgo (h : PInv x hl sa news own i j ⟨.val, v, vv, va, nv, S, ns, hv, nh, dyn, ts⟩) (hd : x.cps.toList.drop i = k :: x.cps.toList.drop (i + 1)) (h2 : k ≠ 125) (h3 : k ≠ 44) :
    PInv x hl sa news own (i + 1) (j + 1) ⟨.val, v ++ [k], vv ++ [.str (one k) t], va, nv + 1, S, ns, hv, nh, dyn, ts⟩ :=
  h.more .val (by rw [hd, left_go (by simp [bareGo, h2, h3])])
theorem PInv.sgo (h : PInv x hl sa news own i j ⟨.str, v, vv, va, nv, S, ns, hv, nh, dyn, ts⟩) (hd : x.cps.toList.drop i = k :: x.cps.toList.drop (i + 1)) (h2 : k ≠ 34) (h3 : k ≠ 92) :
    PInv x hl sa news own (i + 1) (j + 1) ⟨.str, v ++ [k], vv ++ [.str (one k) t], va, nv + 1, S, ns, hv, nh, dyn, ts⟩ :=
  h.more .str (by rw [hd, left_sgo h2 h3])
theorem PInv.ego (h : PInv x hl sa news own i j ⟨.esc, v, vv, va, nv, S, ns, hv, nh, dyn, ts⟩) (hd : x.cps.toList.drop i = k :: x.cps.toList.drop (i + 1)) :
    PInv x hl sa news own (i + 1) (j + 1) ⟨.str, v ++ [k], vv ++ [.str (one k) t], va, nv + 1, S, ns, hv, nh, dyn, ts⟩ :=
  h.more .str (by rw [hd, left_egot])
theorem PInv.esc (h : PInv x hl sa news own i j ⟨.str, v, vv, va, nv, S, ns, hv, nh, dyn, ts⟩) (hd : x.cps.toList.drop i = 92 :: x.cps.toList.drop (i + 1)) :
    PInv x hl sa news own (i + 1) j ⟨.esc, v, vv, va, nv, S, ns, hv, nh, dyn, ts⟩ :=
  ⟨h.sep, h.vv, h.ad, h.hv, h.run, by have := h.q; dsimp only at this ⊢; rw [this, hd, left_esc rfl], h.b1, h.b2, h.b3, h.b4⟩
/-- a brace opens -/
theorem PInv.opn {m0 : Nat} (h : PInv x hl sa news own i j ⟨.out, v, vv, va, nv, (r, us, n, ds) :: S, ns, hv, nh, dyn, ts⟩) (hd : x.cps.toList.drop i = 123 :: x.cps.toList.drop (i + 1)) (f : Fresh d (va :: sa :: hl :: r :: S.map (·.1)) (dyn ++ news) own) :
    PInv x hl sa news own (i + 1) (j + 1) ⟨.out, v, vv, va, nv, (d, [], m0, []) :: (r, us, n + 1, ds) :: S, ns + 1, hv, nh, dyn, ts ++ [.op]⟩ where
  sep := h.sep.push f
  vv := h.vv
  ad := ⟨.nil, h.ad⟩
  hv := by have := h.hv; dsimp only at this ⊢; rw [words_app]; simpa [wordsOf] using this
  run := trun_snoc _ h.run (by rfl)
  q := by have := h.q; dsimp only at this ⊢; rw [this, hd, left_op rfl]; simp [left]
  b1 := Nat.le_succ_of_le h.b1
  b2 := by have := h.b2; simp only [List.length_cons] at this ⊢; omega
  b3 := fun e he => by
    rcases List.mem_cons.mp he with rfl | he
    · exact Nat.zero_le _
    rcases List.mem_cons.mp he with rfl | he
    · have b0 := h.b3 _ (.head _); exact Nat.le_succ_of_le b0
    · exact Nat.le_succ_of_le (h.b3 _ (.tail _ he))
  b4 := Nat.le_succ_of_le h.b4
def popS (r : Addr) (ds : List Dat) : List Ent → List Ent
  | [] => []
  | e :: S => (e.1, e.2.1 ++ [.ref r], e.2.2.1, e.2.2.2 ++ [.list ds]) :: S
theorem srefs_pop : ∀ S : List Ent, srefs (popS r ds S) = srefs S
  | [] => rfl
  | _ :: _ => rfl
theorem chain_pop : ∀ S : List Ent, chain [] (popS r ds S) = chain [.ref r] S
  | [] => rfl
  | e :: S => by simp only [popS, chain, List.append_nil]
theorem addr_pop : ∀ S : List Ent, (popS r ds S).map (·.1) = S.map (·.1)
  | [] => rfl
  | _ :: _ => rfl
/-- a brace closes -/
theorem PInv.cls {n' : Nat} (h : PInv x hl sa news own i j ⟨.out, v, vv, va, nv, (r, us, n, ds) :: S, ns, hv, nh, dyn, ts⟩) (hd : x.cps.toList.drop i = 125 :: x.cps.toList.drop (i + 1)) :
    PInv x hl sa news own (i + 1) (j + 1) ⟨.out, v, vv, va, nv, popS r ds S, n', hv, nh, (r, listOf us.toArray n) :: dyn, ts ++ [.cl]⟩ where
  sep := by dsimp only; rw [addr_pop]; exact h.sep.pop
  vv := h.vv
  ad := by
    have a1 := h.ad
    have a3 := AllDat.mono (fun p hp => List.mem_cons_of_mem (r, listOf us.toArray n) hp) a1.2
    dsimp only
    cases S with
    | nil => trivial
    | cons e S => exact ⟨DatAll.snoc9 a3.1 (.list (.head _) (DatAll.mono (fun p hp => .tail _ hp) a1.1)), a3.2⟩
  hv := by have := h.hv; dsimp only at this ⊢; rw [words_app]; simpa [wordsOf] using this
  run := trun_snoc _ h.run (by cases S <;> rfl)
  q := by have := h.q; dsimp only at this ⊢; rw [this, hd, left_cl rfl]; simp [left]
  b1 := Nat.le_succ_of_le h.b1
  b2 := by
    have := h.b2
    cases S with
    | nil => exact Nat.zero_le _
    | cons e S => simp only [popS, List.length_cons] at this ⊢; omega
  b3 := by
    intro e he
    cases S with
    | nil => cases he
    | cons e0 S =>
      have b0 := h.b3 e0 (.tail _ (.head _))
      rcases List.mem_cons.mp he with rfl | he
      · simp only [List.length_append, List.length_cons, List.length_nil]; omega
      · exact Nat.le_succ_of_le (h.b3 _ (.tail _ (.tail _ he)))
  b4 := Nat.le_succ_of_le h.b4
/-- a leaf is put away; the place moves by the caller's word -/
theorem PInv.leaf {i' : Nat} {t1 t2 : Tok} {n0 : Nat} (h : PInv x hl sa news own i j ⟨md, v, vv, va, nv, (r, us, n, ds) :: S, ns, hv, nh, dyn, ts⟩) (f : Fresh d (va :: sa :: hl :: r :: S.map (·.1)) (dyn ++ news) own)
    (hq : left md v (x.cps.toList.drop i) = .leaf v :: left .out v (x.cps.toList.drop i')) :
    PInv x hl sa news own i' (j + 1) ⟨.out, v, vv, va, nv, (r, us ++ [.ref d], n + 1, ds ++ [leafD v]) :: S, ns, hv ++ [.str (tx v) t2], nh + 1, (d, leafObj v t1 t2 n0) :: dyn, ts ++ [.leaf v]⟩ where
  sep := Sep.more h.sep f
  vv := h.vv
  ad := by
    have a1 := AllDat.mono (fun p hp => List.mem_cons_of_mem (d, leafObj v t1 t2 n0) hp) h.ad
    exact ⟨DatAll.snoc9 a1.1 (TokIn.dat (TokIn.leaf d v t1 t2 n0 (.head _))), a1.2⟩
  hv := by have := h.hv; dsimp only at this ⊢; rw [words_app, List.map_append]; exact strs_snoc this _ _
  run := trun_snoc _ h.run (by cases S <;> rfl)
  q := by have := h.q; dsimp only at this ⊢; rw [this, hq]; simp
  b1 := Nat.le_succ_of_le h.b1
  b2 := Nat.le_succ_of_le h.b2
  b3 := fun e he => by
    rcases List.mem_cons.mp he with rfl | he
    · have b0 := h.b3 _ (.head _); simp only [List.length_append, List.length_cons, List.length_nil] at b0 ⊢; omega
    · exact Nat.le_succ_of_le (h.b3 _ (.tail _ he))
  b4 := by have := h.b4; simp only [List.length_append, List.length_cons, List.length_nil] at this ⊢; omega
theorem PInv.nul (h : PInv x hl sa news own i j ⟨.val, v, vv, va, nv, (r, us, n, ds) :: S, ns, hv, nh, dyn, ts⟩)
    (hd : x.cps.toList.drop i = k :: x.cps.toList.drop (i + 1)) (hk : bareGo k = false) (hv0 : v = NULLs) :
    PInv x hl sa news own i (j + 1) ⟨.out, v, vv, va, nv, (r, us ++ [.none], n + 1, ds ++ [.none]) :: S, ns, hv, nh, dyn, ts ++ [.nul]⟩ where
  sep := h.sep
  vv := h.vv
  ad := ⟨DatAll.snoc9 h.ad.1 .none, h.ad.2⟩
  hv := by have := h.hv; dsimp only at this ⊢; rw [words_app]; simpa [wordsOf] using this
  run := trun_snoc _ h.run (by cases S <;> rfl)
  q := by have := h.q; dsimp only at this ⊢; rw [this, hd, left_end hk, tkOf, if_pos hv0]; simp [left]
  b1 := Nat.le_succ_of_le h.b1
  b2 := Nat.le_succ_of_le h.b2
  b3 := fun e he => by
    rcases List.mem_cons.mp he with rfl | he
    · have b0 := h.b3 _ (.head _); simp only [List.length_append, List.length_cons, List.length_nil] at b0 ⊢; omega
    · exact Nat.le_succ_of_le (h.b3 _ (.tail _ he))
  b4 := Nat.le_succ_of_le h.b4
theorem left_vleaf (hd : x.cps.toList.drop i = k :: x.cps.toList.drop (i + 1)) (hk : bareGo k = false) (hv0 : v ≠ NULLs) : left .val v (x.cps.toList.drop i) = .leaf v :: left .out v (x.cps.toList.drop i) := by
  rw [hd, left_end hk, tkOf, if_neg hv0]; rfl
theorem left_sleaf (hd : x.cps.toList.drop i = 34 :: x.cps.toList.drop (i + 1)) : left .str v (x.cps.toList.drop i) = .leaf v :: left .out v (x.cps.toList.drop (i + 1)) := by
  rw [hd, left_close rfl]; rfl
theorem null_is {y : PySem.Str} (h : y = tx v) (hn : (y == PySem.Str.ofString "NULL") = true) : v = NULLs := by
  subst h; rw [nullT, tx_beq] at hn; simpa using hn
theorem null_not {y : PySem.Str} (h : y = tx v) (hn : (y == PySem.Str.ofString "NULL") = false) : v ≠ NULLs := by
  subst h; rw [nullT, tx_beq] at hn; simpa using hn
theorem PInv.init {va₀ : Addr} (hs : Sep [va₀, sa, hl, r] news []) : PInv x hl sa news [] 0 (2 * 0) ⟨.out, [], [], va₀, 0, [(r, [], 0, [])], 0, [], nh, [], []⟩ where
  sep := hs
  vv := .nil
  ad := ⟨.nil, trivial⟩
  hv := .nil
  run := rfl
  q := rfl
  b1 := Nat.le_refl _
  b2 := Nat.le_refl _
  b3 := by intro e he; rcases List.mem_singleton.mp he with rfl; exact Nat.le_refl _
  b4 := Nat.le_refl _
/-- the end of the text -/
theorem PInv.at_end (h : PInv x hl sa news own x.cps.size j c) : toks x.cps.toList = c.ts := by
  have := h.q
  rw [List.drop_eq_nil_of_le (by simp), left_nil, List.append_nil] at this
  exact this
theorem PInv.vlen (h : PInv x hl sa news own i j c) : c.vv.length = c.v.length := by have := strs_len h.vv; simpa using this
theorem sub_c {α : Type} {a : α} {l r : List α} (h : a ∈ l) (hr : ∀ p ∈ r, p ∈ l) : ∀ p ∈ a :: r, p ∈ l := List.forall_mem_cons.mpr ⟨h, hr⟩
theorem sub_a {α : Type} {q l r : List α} (h : ∀ p ∈ q, p ∈ l) (hr : ∀ p ∈ r, p ∈ l) : ∀ p ∈ q ++ r, p ∈ l := fun p hp => (List.mem_append.mp hp).elim (h p) (hr p)
theorem Sep.factsG {kid : List Value} {dn itr : List (Addr × Obj)} (h : Sep (va :: sa :: hl :: S.map (·.1)) dn itr) :
    (va ≠ sa ∧ va ≠ hl ∧ sa ≠ hl) ∧ (∀ p ∈ (chain kid S ++ dn) ++ itr, p.1 ≠ va) ∧ (∀ p ∈ (chain kid S ++ dn) ++ itr, p.1 ≠ sa) ∧ (∀ p ∈ (chain kid S ++ dn) ++ itr, p.1 ≠ hl) := by
  have n := h.nd
  simp only [List.nodup_cons, List.mem_cons, not_or] at n
  obtain ⟨⟨a1, a2, a4⟩, ⟨b1, b3⟩, ⟨c2, _⟩⟩ := n
  have key : ∀ b, b ∈ va :: sa :: [hl] → b ∉ S.map (·.1) → ∀ p ∈ (chain kid S ++ dn) ++ itr, p.1 ≠ b := by
    intro b hb hn p hp e
    have hb' : b ∈ va :: sa :: hl :: S.map (·.1) := by
      simp only [List.mem_cons, List.not_mem_nil, or_false] at hb ⊢
      rcases hb with h | h | h <;> simp [h]
    rcases List.mem_append.mp hp with hp | hp
    · rcases List.mem_append.mp hp with hp | hp
      · exact hn (by rw [← chain_addr S kid, ← e]; exact List.mem_map_of_mem hp)
      · exact h.off p hp (e ▸ hb')
    · exact h.ioff p hp (e ▸ hb')
  exact ⟨⟨a1, a2, b1⟩, key va (.head _) a4, key sa (.tail _ (.head _)) b3, key hl (.tail _ (.tail _ (.head _))) c2⟩
theorem fresh1 {kid : List Value} {dn itr : List (Addr × Obj)} (h : @LT.lt Nat _ va d ∧ @LT.lt Nat _ sa d ∧ @LT.lt Nat _ hl d ∧ AllLt d ((chain kid S ++ dn) ++ itr)) : Fresh d (va :: sa :: hl :: S.map (·.1)) dn itr := by
  have e := tb_ltOf h.2.2.2
  exact {
    a := fun b hb => by
      rcases List.mem_cons.mp hb with rfl | hb
      · exact h.1
      rcases List.mem_cons.mp hb with rfl | hb
      · exact h.2.1
      rcases List.mem_cons.mp hb with rfl | hb
      · exact h.2.2.1
      rw [← chain_addr S kid] at hb
      obtain ⟨p, hp, rfl⟩ := List.mem_map.mp hb
      exact e p (List.mem_append_left _ (List.mem_append_left _ hp))
    dn := fun p hp => e p (List.mem_append_left _ (List.mem_append_right _ hp))
    itr := fun p hp => e p (List.mem_append_right _ hp) }
theorem fresh2 {kid : List Value} {dn itr : List (Addr × Obj)} (h : @LT.lt Nat _ va d ∧ @LT.lt Nat _ sa d ∧ @LT.lt Nat _ hl d ∧ @LT.lt Nat _ r d ∧ AllLt d ((chain kid S ++ dn) ++ itr)) : Fresh d (va :: sa :: hl :: r :: S.map (·.1)) dn itr := by
  have g := fresh1 (va := va) (sa := sa) (hl := hl) (S := S) ⟨h.1, h.2.1, h.2.2.1, h.2.2.2.2⟩
  exact {
    a := fun b hb => by
      rcases List.mem_cons.mp hb with rfl | hb
      · exact h.1
      rcases List.mem_cons.mp hb with rfl | hb
      · exact h.2.1
      rcases List.mem_cons.mp hb with rfl | hb
      · exact h.2.2.1
      rcases List.mem_cons.mp hb with rfl | hb
      · exact h.2.2.2.1
      exact g.a b (.tail _ (.tail _ (.tail _ hb)))
    dn := g.dn
    itr := g.itr }
theorem PInv.root {e : Ent} (h : PInv x hl sa news own i j ⟨md, v, vv, va, nv, e :: S, ns, hv, nh, dyn, ts⟩) :
    ∃ r vs n, (srefs (e :: S))[0]? = some (.ref r) ∧ (r, listOf vs.toArray n) ∈ chain [] (e :: S) ∧ DatAll (chain [] (e :: S) ++ dyn) vs (Mine.fin [] (dats (e :: S))) := by
  obtain ⟨r, vs, n, h1, _, h3, h4⟩ := root_of (e :: S) [] [] (chain [] (e :: S) ++ dyn) (by simp) (AllDat.mono (fun p hp => List.mem_append_right _ hp) h.ad) (fun p hp => List.mem_append_left _ hp) .nil
  exact ⟨r, vs, n, h1, h4, h3⟩
theorem dat_hd {nw : List (Addr × Obj)} {w : Value} {vs : List Value} {ds : List Dat} (h : DatAll nw (w :: vs) ds) : ∃ d rest, ds = d :: rest ∧ DatIn nw w d := by
  cases h with | cons a r => exact ⟨_, _, rfl, a⟩
theorem dat_no {nw : List (Addr × Obj)} {ds : List Dat} (h : DatAll nw [] ds) : ds = [] := by cases h; rfl
theorem PInv.factsG (h : PInv x hl sa news own i j ⟨md, v, vv, va, nv, S, ns, hv, nh, dyn, ts⟩) :
    (@Ne Nat va sa ∧ @Ne Nat va hl ∧ @Ne Nat sa hl) ∧ (∀ p ∈ (chain [] S ++ (dyn ++ news)) ++ own, p.1 ≠ va) ∧ (∀ p ∈ (chain [] S ++ (dyn ++ news)) ++ own, p.1 ≠ sa) ∧ (∀ p ∈ (chain [] S ++ (dyn ++ news)) ++ own, p.1 ≠ hl) := Sep.factsG h.sep
theorem PInv.facts0 (h : PInv x hl sa news own i j ⟨md, v, vv, va, nv, [], ns, hv, nh, dyn, ts⟩) :
    (@Ne Nat va sa ∧ @Ne Nat va hl ∧ @Ne Nat sa hl) ∧ (∀ p ∈ (dyn ++ news) ++ own, p.1 ≠ va) ∧ (∀ p ∈ (dyn ++ news) ++ own, p.1 ≠ sa) ∧ (∀ p ∈ (dyn ++ news) ++ own, p.1 ≠ hl) := Sep.facts0 h.sep
theorem PInv.facts1 (h : PInv x hl sa news own i j ⟨md, v, vv, va, nv, (r, us, n, ds) :: S, ns, hv, nh, dyn, ts⟩) :
    (@Ne Nat va sa ∧ @Ne Nat va hl ∧ @Ne Nat va r ∧ @Ne Nat sa hl ∧ @Ne Nat sa r ∧ @Ne Nat hl r) ∧ (∀ p ∈ (chain [.ref r] S ++ (dyn ++ news)) ++ own, p.1 ≠ va) ∧ (∀ p ∈ (chain [.ref r] S ++ (dyn ++ news)) ++ own, p.1 ≠ sa) ∧ (∀ p ∈ (chain [.ref r] S ++ (dyn ++ news)) ++ own, p.1 ≠ hl) ∧ (∀ p ∈ (chain [.ref r] S ++ (dyn ++ news)) ++ own, p.1 ≠ r) := Sep.facts (kid := [Value.ref r]) h.sep
theorem PInv.get (h : PInv x hl sa news own i j ⟨md, v, vv, va, nv, S, ns, hv, nh, dyn, ts⟩) : v.length ≤ j ∧ vv.length = v.length ∧ S.length ≤ j + 1 ∧ hv.length ≤ j := ⟨h.b1, h.vlen, h.b2, h.b4⟩
theorem PInv.get1 (h : PInv x hl sa news own i j ⟨md, v, vv, va, nv, (r, us, n, ds) :: S, ns, hv, nh, dyn, ts⟩) : us.length ≤ j ∧ (srefs S).length = S.length ∧ S.length ≤ j := ⟨h.b3 _ (.head _), srefs_len S, by have := h.b2; simp only [List.length_cons] at this; omega⟩
end
theorem eq_pick {k : Nat} (ks : List Nat) : (∃ c ∈ ks, k = c) ∨ ∀ c ∈ ks, k ≠ c := by
  by_cases h : k ∈ ks
  · exact .inl ⟨k, h, rfl⟩
  · exact .inr fun c hc e => h (e ▸ hc)
theorem sign_ne {k c : Nat} {y : PySem.Str} (h : k ≠ c) (hy : y = tx [c]) : ((⟨#[k]⟩ : PySem.Str) == y) = false := by
  subst hy
  exact (tx_beq [k] [c]).trans (decide_eq_false (by simpa using h))
section
variable {prog : Program} {w : World} {A : Around} {E : Value → Shared → Prop} {s : Shared} {h₀ : Heap} {L D : Addr} {news : List (Addr × Obj)}
theorem in_no {k : Nat} {t t1 t2 : Tok} {n : Nat} {Q : Value → Shared → Prop} (N : News h₀ L s.heap news) (hm : (D, ({ cls := .type "tuple", data := .seq #[.str (PySem.Str.ofString "}") t1, .str (PySem.Str.ofString ",") t2] n } : Obj)) ∈ news)
    (h1 : k ≠ 125) (h2 : k ≠ 44) (h : Q (.bool false) s) : wpAny (model prog w) A (compareOp .In (.str ⟨#[k]⟩ t) (.ref D)) Q E s := by
  refine in_tuple_strs (News.isTup N hm) (.cons _ t1 (.cons _ t2 .nil)) ?_
  have e1 : (PySem.Str.ofString "}" == (⟨#[k]⟩ : PySem.Str)) = false := by rw [cb]; exact (tx_beq [125] [k]).trans (decide_eq_false (by simpa using fun e => h1 e.symm))
  have e2 : (PySem.Str.ofString "," == (⟨#[k]⟩ : PySem.Str)) = false := by rw [cm]; exact (tx_beq [44] [k]).trans (decide_eq_false (by simpa using fun e => h2 e.symm))
  simp only [List.any_cons, List.any_nil, e1, e2, Bool.or_false]
  exact h
theorem my_lastK {l : Addr} {p : List Value} {y : Value} {n : Nat} {k : Int} {u : Tok} {Q : Value → Shared → Prop} {value slice : PySem.Expr} (hk : k = -1) (N : News h₀ L s.heap news) (hm : (l, listOf (p ++ [y]).toArray n) ∈ news) (hz : p.length ≤ 1000) (h : Q y s)
    (hs : subscripted slice false (.ref l) (.int k u) = operate [.ref l, .int k u] (getItem (.ref l) (.int k u))) :
    wpAny (model prog w) A (subscriptTail value slice (.ref l) (.int k u)) Q E s := by
  subst hk; exact my_last N hm hz h hs
theorem my_item0 {l : Addr} {value slice : PySem.Expr} {y : Value} {vs : List Value} {n : Nat} {k : Int} {u : Tok} {Q : Value → Shared → Prop} (hk : k = 0) (N : News h₀ L s.heap news) (hm : (l, listOf (y :: vs).toArray n) ∈ news) (h : Q y s)
    (hs : subscripted slice false (.ref l) (.int k u) = operate [.ref l, .int k u] (getItem (.ref l) (.int k u))) :
    wpAny (model prog w) A (subscriptTail value slice (.ref l) (.int k u)) Q E s :=
  my_item (i := 0) N hm rfl hk (by decide) h hs
end
def MarkSpec (prog : Program) (w : World) (K : Frag) (p : Program) (loose : List PySem.Str) (f hl : Addr) (core : List (Addr × Obj)) : Prop :=
  ∀ {mean : ExcName → Option Value} {mg mb : PySem.Str → Option Value} {dp un : Nat} {gd : Option (List Code)} {cn : PySem.Str} {nm : List (PySem.Str × NameKind)} {ig ic : Bool} {mo : List (PySem.Str × Const)} {a : Addr} {ccd : Value} {cl : List (PySem.Str × Addr)} {outer : List Env} {A₀ : Around} {base h₀ : Heap} {L : Addr} {m : PySem.Str → Option Value} {s : Shared}
    {Q E : Value → Shared → Prop} {wd : List Nat} {t : Tok} {us : List Value} {nh : Nat} {news news' : List (Addr × Obj)},
    Below A₀ base outer h₀ → Fr h₀ L s.heap m → K.In h₀ → News h₀ L s.heap news → Top p loose mean mg mb h₀ → dp < 890 → un < 8900 →
    Upd hl (listOf us.toArray nh) (listOf (us ++ [Value.str (tx wd) t]).toArray (nh + 1)) news news' → (∀ p ∈ core, p ∈ news) → us.length ≤ 1000 →
    (∀ r t1 n h' tk', (∀ q ∈ news', q.1 < r) → Fr h₀ L h' m → News h₀ L h' ((r, leafObj wd t1 t n) :: news') → Q (.ref r) { s with heap := h', toks := tk' }) →
    wpAny (model prog w) (ktrTop dp un gd cn { kind := .function, names := nm, isGenerator := ig, isCoroutine := ic, more := mo } L a ccd cl outer) (call (.ref f) [Value.str (tx wd) t]) Q E s
end Mine

namespace Mine
theorem trun_nil {r : List Tk} {S : List (List Dat)} (h : trun [] r = some S) : r = [] ∧ S = [] := by
  cases r with
  | nil => cases h; exact ⟨rfl, rfl⟩
  | cons k r => simp [trun, tstep] at h
theorem fin_kid (kid : List Dat) (e : List Dat) : ∀ T : List (List Dat), fin kid (e :: T) = fin [] ((e ++ kid) :: T)
  | [] => by simp [fin]
  | e' :: T => by simp [fin]
theorem trun_descent : ∀ (n : Nat) (ts : List Tk), ts.length ≤ n → ∀ (ds e : List Dat) (T S : List (List Dat)), trun (ds :: e :: T) ts = some S → S ≠ [] →
    ∃ S2, trun ((e ++ [.list (ds ++ (arr ts).1)]) :: T) (arr ts).2 = some S2 ∧ S2 ≠ [] ∧ fin [] S2 = fin [] S := by
  intro n
  induction n with
  | zero =>
    intro ts hn ds e T S h hS
    obtain rfl : ts = [] := List.eq_nil_of_length_eq_zero (by omega)
    cases h
    refine ⟨_, rfl, by simp, ?_⟩
    exact (fin_kid [.list (ds ++ [])] e T).symm
  | succ n ih =>
    intro ts hn ds e T S h hS
    cases ts with
    | nil =>
      cases h
      refine ⟨_, rfl, by simp, ?_⟩
      exact (fin_kid [.list (ds ++ [])] e T).symm
    | cons k r =>
      have hr : r.length ≤ n := by simpa using hn
      have go : ∀ d, tkDat k = d → k ≠ .op → k ≠ .cl → trun ((ds ++ [d]) :: e :: T) r = some S → ∃ S2, trun ((e ++ [.list (ds ++ (arr (k :: r)).1)]) :: T) (arr (k :: r)).2 = some S2 ∧ S2 ≠ [] ∧ fin [] S2 = fin [] S := by
        rintro d rfl h1 h2 h
        obtain ⟨S2, a, b, c⟩ := ih r hr _ _ _ _ h hS
        rw [arr_go r h1 h2]
        exact ⟨S2, by simpa using a, b, c⟩
      cases k with
      | op =>
        have h' : trun ([] :: ds :: e :: T) r = some S := h
        obtain ⟨S2, a, b, c⟩ := ih r hr _ _ _ _ h' hS
        obtain ⟨S3, a3, b3, c3⟩ := ih (arr r).2 (Nat.le_trans (arr_len r) hr) _ _ _ _ a b
        rw [arr_op]
        exact ⟨S3, by simpa using a3, b3, c3.trans c⟩
      | cl =>
        have h' : trun ((e ++ [.list ds]) :: T) r = some S := h
        rw [arr_cl]
        exact ⟨S, by simpa using h', hS, rfl⟩
      | nul => exact go _ rfl (by simp) (by simp) h
      | leaf w => exact go _ rfl (by simp) (by simp) h
theorem trun_root : ∀ (n : Nat) (ts : List Tk), ts.length ≤ n → ∀ (b : List Dat) (S : List (List Dat)), trun [b] ts = some S → S ≠ [] → ∃ q, fin [] S = b ++ q := by
  intro n
  induction n with
  | zero =>
    intro ts hn b S h hS
    obtain rfl : ts = [] := List.eq_nil_of_length_eq_zero (by omega)
    cases h; exact ⟨[], rfl⟩
  | succ n ih =>
    intro ts hn b S h hS
    cases ts with
    | nil => cases h; exact ⟨[], rfl⟩
    | cons k r =>
      have hr : r.length ≤ n := by simpa using hn
      have go : ∀ d, trun [b ++ [d]] r = some S → ∃ q, fin [] S = b ++ q := fun d h => by
        obtain ⟨q, hq⟩ := ih r hr _ _ h hS
        exact ⟨d :: q, by rw [hq]; simp⟩
      cases k with
      | op =>
        obtain ⟨S2, a, b2, c⟩ := trun_descent _ r (Nat.le_refl _) _ _ _ _ (show trun [[], b] r = some S from h) hS
        obtain ⟨q, hq⟩ := ih (arr r).2 (Nat.le_trans (arr_len r) hr) _ _ a b2
        exact ⟨_ :: q, by rw [← c, hq, List.append_assoc]; rfl⟩
      | cl => exact absurd (trun_nil (show trun [] r = some S from h)).2 hS
      | nul => exact go _ h
      | leaf w => exact go _ h
def firstD : Tk → List Tk → Dat
  | .op, r => .list (arr r).1
  | k, _ => tkDat k
theorem first_of {k : Tk} {r : List Tk} {S : List (List Dat)} (h : trun [[]] (k :: r) = some S) (hS : S ≠ []) : k ≠ .cl ∧ ∃ q, fin [] S = firstD k r :: q := by
  cases k with
  | op =>
    obtain ⟨S2, a, b2, c⟩ := trun_descent _ r (Nat.le_refl _) _ _ _ _ (show trun [[], []] r = some S from h) hS
    obtain ⟨q, hq⟩ := trun_root _ _ (Nat.le_refl _) _ _ a b2
    exact ⟨by simp, q, by rw [← c, hq]; rfl⟩
  | cl => exact absurd (trun_nil (show trun [] r = some S from h)).2 hS
  | nul =>
    obtain ⟨q, hq⟩ := trun_root _ r (Nat.le_refl _) _ _ (show trun [[tkDat .nul]] r = some S from h) hS
    exact ⟨by simp, q, hq⟩
  | leaf w =>
    obtain ⟨q, hq⟩ := trun_root _ r (Nat.le_refl _) _ _ (show trun [[tkDat (.leaf w)]] r = some S from h) hS
    exact ⟨by simp, q, hq⟩
theorem out_whole : ∀ (ts : List Tk) (T S : List (List Dat)) (n : Nat), T.length = n + 1 → trun T ts = some S → S ≠ [] → outF n ts = ts.length
  | [], _, _, _, _, _, _ => rfl
  | k :: r, T, S, n, hT, h, hS => by
    cases T with
    | nil => cases hT
    | cons ds T =>
      have ih := out_whole r
      cases k with
      | op =>
        have e := ih ([] :: ds :: T) S (n + 1) (by simpa using hT) h hS
        unfold outF
        rw [if_neg (by simp only [dl]; omega)]
        simp only [dl, List.length_cons]
        have : ((n : Int) + 1) = ((n + 1 : Nat) : Int) := by omega
        rw [this, e]
      | cl =>
        cases T with
        | nil => exact absurd (trun_nil (show trun [] r = some S from h)).2 hS
        | cons es T =>
          simp only [List.length_cons] at hT
          have e := ih ((es ++ [.list ds]) :: T) S (n - 1) (by simp only [List.length_cons]; omega) h hS
          unfold outF
          rw [if_neg (by simp only [dl]; omega)]
          simp only [dl, List.length_cons]
          have : ((n : Int) + -1) = ((n - 1 : Nat) : Int) := by omega
          rw [this, e]
      | nul =>
        have e := ih ((ds ++ [tkDat .nul]) :: T) S n (by simpa using hT) (by cases T <;> exact h) hS
        unfold outF
        rw [if_neg (by simp only [dl]; omega)]
        simp only [dl, List.length_cons, Int.add_zero]
        rw [e]
      | leaf w =>
        have e := ih ((ds ++ [tkDat (.leaf w)]) :: T) S n (by simpa using hT) (by cases T <;> exact h) hS
        unfold outF
        rw [if_neg (by simp only [dl]; omega)]
        simp only [dl, List.length_cons, Int.add_zero]
        rw [e]
theorem out_at : ∀ (ts us : List Tk) (T : List (List Dat)) (n : Nat), T.length = n + 1 → trun T ts = some [] → ∃ ts0, ts = ts0 ++ [.cl] ∧ outF n (ts ++ us) = ts0.length
  | [], _, T, n, hT, h => by cases h; cases hT
  | k :: r, us, T, n, hT, h => by
    cases T with
    | nil => cases hT
    | cons ds T =>
      have ih := out_at r us
      have up : ∀ (m : Nat), (n : Int) + dl k = (m : Int) → (∃ ts0, r = ts0 ++ [.cl] ∧ outF m (r ++ us) = ts0.length) → ∃ ts0, k :: r = ts0 ++ [.cl] ∧ outF n (k :: r ++ us) = ts0.length := by
        rintro m hm ⟨ts0, e, ho⟩
        refine ⟨k :: ts0, by rw [e]; rfl, ?_⟩
        show outF n (k :: (r ++ us)) = _
        unfold outF
        rw [if_neg (by omega), hm, ho]; rfl
      cases k with
      | op => exact up (n + 1) (by simp only [dl]; omega) (ih ([] :: ds :: T) (n + 1) (by simpa using hT) h)
      | cl =>
        cases T with
        | nil =>
          have hr := (trun_nil (show trun [] r = some [] from h)).1
          subst hr
          refine ⟨[], rfl, ?_⟩
          obtain rfl : n = 0 := by simpa using hT.symm
          rfl
        | cons es T =>
          simp only [List.length_cons] at hT
          exact up (n - 1) (by simp only [dl]; omega) (ih ((es ++ [.list ds]) :: T) (n - 1) (by simp only [List.length_cons]; omega) h)
      | nul => exact up n (by simp only [dl]; omega) (ih ((ds ++ [tkDat .nul]) :: T) n (by simpa using hT) (by cases T <;> exact h))
      | leaf w => exact up n (by simp only [dl]; omega) (ih ((ds ++ [tkDat (.leaf w)]) :: T) n (by simpa using hT) (by cases T <;> exact h))
/-- told -/
theorem told_case {ts : List Tk} {S : List (List Dat)} {d : Dat} {rest : List Dat} (h : trun [[]] ts = some S) (hS : S ≠ []) (hf : fin [] S = d :: rest) :
    outF 0 ts = ts.length ∧ ∃ k r, ts = k :: r ∧ k ≠ .cl ∧ d = firstD k r := by
  refine ⟨out_whole ts [[]] S 0 rfl h hS, ?_⟩
  cases ts with
  | nil => cases h; cases hf
  | cons k r =>
    obtain ⟨hk, q, hq⟩ := first_of h hS
    rw [hf] at hq
    exact ⟨k, r, rfl, hk, (List.cons.inj hq).1⟩
/-- refused -/
theorem err_case {ts ts1 ts2 : List Tk} (h : ts = ts1 ++ ts2) (h2 : trun [[]] ts1 = some [] ∨ (ts2 = [] ∧ ∃ S, trun [[]] ts1 = some S ∧ fin [] S = [])) :
    wordsOf ts1 = wordsOf (ts.take (outF 0 ts)) ∧ (ts = [] ∨ outF 0 ts < ts.length) := by
  have one : trun [[]] ts1 = some [] → wordsOf ts1 = wordsOf (ts.take (outF 0 ts)) ∧ (ts = [] ∨ outF 0 ts < ts.length) := fun e => by
    obtain ⟨ts0, e0, ho⟩ := out_at ts1 ts2 [[]] 0 rfl e
    subst h
    rw [show ((0 : Nat) : Int) = 0 from rfl] at ho
    rw [ho, e0]
    refine ⟨?_, .inr (by simp)⟩
    rw [words_app, List.append_assoc, List.take_left]
    simp [wordsOf]
  rcases h2 with e | ⟨rfl, S, e, hf⟩
  · exact one e
  · rw [List.append_nil] at h
    subst h
    cases S with
    | nil => exact one e
    | cons ds S =>
      cases ts with
      | nil => exact ⟨rfl, .inl rfl⟩
      | cons k r =>
        obtain ⟨_, q, hq⟩ := first_of e (by simp)
        rw [hf] at hq; cases hq
end Mine

namespace Mine
section
variable {prog : Program} {w : World} {A : Around} {E : Value → Shared → Prop} {s : Shared} {h₀ : Heap} {L : Addr} {news n₁ n₂ : List (Addr × Obj)} {a b : Value} {d e : Dat} {Q : Value → Shared → Prop}
open Classical in
theorem my_neD (N : News h₀ L s.heap news) (Da : DatIn n₁ a d) (sa : ∀ p ∈ n₁, p ∈ news) (Db : DatIn n₂ b e) (sb : ∀ p ∈ n₂, p ∈ news) (ha : kqdOk 60 d = true) (hb : kqdOk 60 e = true) (hu : A.units + 64 < cLine) (hde : d = e) (h : Q (.bool false) s) :
    wpAny (model prog w) A (compareOp .NotEq a b) Q E s := by
  obtain ⟨as, ra⟩ := kqd_in N 60 (Da.mono sa) ha
  obtain ⟨bs, rb⟩ := kqd_in N 60 (Db.mono sb) hb
  have la := kqd_lay 60 d ha
  have lb := kqd_lay 60 e hb
  have e' : PyData.eqv (kqdP d) (kqdP e) = true := (kqd_eqv 60 d e 60 ha hb).mpr hde
  refine ne_dataH ra rb ?_ ?_ hu (by rw [e']; exact h)
  · unfold SeqAt.shaped; rw [la.1, Bool.true_and]; exact decide_eq_true (Nat.le_trans la.2 (by decide))
  · unfold SeqAt.shaped; rw [lb.1, Bool.true_and]; exact decide_eq_true (Nat.le_trans lb.2 (by decide))
open Classical in
theorem my_eqT (N : News h₀ L s.heap news) (Da : DatIn n₁ a d) (sa : ∀ p ∈ n₁, p ∈ news) (Db : DatIn n₂ b e) (sb : ∀ p ∈ n₂, p ∈ news) (ha : kqdOk 60 d = true) (hb : kqdOk 60 e = true) (hu : A.units + 64 < cLine) (hde : d = e) (h : Q (.bool true) s) :
    wpAny (model prog w) A (compareOp .Eq a b) Q E s := my_eqD N Da sa Db sb ha hb hu (by rw [decide_eq_true hde]; exact h)
open Classical in
theorem my_eqF (N : News h₀ L s.heap news) (Da : DatIn n₁ a d) (sa : ∀ p ∈ n₁, p ∈ news) (Db : DatIn n₂ b e) (sb : ∀ p ∈ n₂, p ∈ news) (ha : kqdOk 60 d = true) (hb : kqdOk 60 e = true) (hu : A.units + 64 < cLine) (hde : d ≠ e) (h : Q (.bool false) s) :
    wpAny (model prog w) A (compareOp .Eq a b) Q E s := my_eqD N Da sa Db sb ha hb hu (by rw [decide_eq_false hde]; exact h)
end
/-- every sign of every word is of the text -/
def Low (w : List Nat) : Prop := ∀ c ∈ w, c < 128
theorem quo_low : ∀ (n : Nat) (acc cs w r : List Nat), cs.length ≤ n → Low acc → Low cs → quo acc cs = some (w, r) → Low w ∧ Low r
  | n, acc, [], w, r, _, _, _, h => by simp [quo] at h
  | n, acc, c :: cs, w, r, hn, ha, hc, h => by
    cases n with
    | zero => simp at hn
    | succ n =>
      have hcs : Low cs := fun x hx => hc x (.tail _ hx)
      have snoc : ∀ d, d < 128 → Low (acc ++ [d]) := fun d hd x hx => (List.mem_append.mp hx).elim (ha x) fun q => by rw [List.mem_singleton.mp q]; exact hd
      unfold quo at h
      split at h
      · cases h; exact ⟨ha, hcs⟩
      · split at h
        · cases cs with
          | nil => simp at h
          | cons d r' => exact quo_low n _ _ _ _ (by simp at hn; omega) (snoc d (hcs d (.head _))) (fun x hx => hcs x (.tail _ hx)) h
        · exact quo_low n _ _ _ _ (by simp at hn; omega) (snoc c (hc c (.head _))) hcs h
theorem ok_tkOf {p : List Nat} (h : Low p) : OkTk (tkOf p) := by
  unfold tkOf
  split
  · trivial
  · exact h
theorem toksF_low : ∀ (n : Nat) (cs : List Nat), Low cs → (∀ k ∈ toksF n cs, OkTk k) ∧ (toksF n cs).length ≤ cs.length
  | 0, cs, _ => ⟨(fun _ h => (nomatch h)), Nat.zero_le _⟩
  | _ + 1, [], _ => ⟨(fun _ h => (nomatch h)), Nat.le_refl _⟩
  | n + 1, c :: r, hc => by
    have hr : Low r := fun x hx => hc x (.tail _ hx)
    have ih := toksF_low n r hr
    have one : ∀ {k : Tk} {l : List Tk} {m : Nat}, OkTk k → (∀ k ∈ l, OkTk k) ∧ l.length ≤ m → m ≤ r.length → (∀ q ∈ k :: l, OkTk q) ∧ (k :: l).length ≤ (c :: r).length := fun a b e =>
      ⟨fun q hq => (List.mem_cons.mp hq).elim (fun z => z ▸ a) (b.1 q), by simp only [List.length_cons]; omega⟩
    unfold toksF
    split
    · exact one trivial ih (Nat.le_refl _)
    split
    · exact one trivial ih (Nat.le_refl _)
    split
    · exact ⟨ih.1, Nat.le_succ_of_le ih.2⟩
    split
    · cases hq : quo [] r with
      | none => exact ⟨(fun _ h => (nomatch h)), Nat.zero_le _⟩
      | some q =>
        obtain ⟨w, r'⟩ := q
        have hl := quo_len _ _ _ _ _ (Nat.le_refl _) hq
        have lo := quo_low _ _ _ _ _ (Nat.le_refl _) (fun _ h => by cases h) hr hq
        exact one lo.1 (toksF_low n r' lo.2) (Nat.le_of_lt hl)
    · rename_i h1 h2 h3 h4
      have hb : bareGo c = true := by simp [bareGo, h2, h3]
      cases hd : (c :: r).dropWhile bareGo with
      | nil => exact ⟨(fun _ h => (nomatch h)), Nat.zero_le _⟩
      | cons q q' =>
        have hl : (q :: q').length ≤ r.length := by
          rw [← hd, List.dropWhile_cons, if_pos hb]; exact dw_len _ _
        have lo : Low (q :: q') := by rw [← hd]; exact fun x hx => hc x ((List.dropWhile_suffix bareGo).mem hx)
        have lo2 : Low ((c :: r).takeWhile bareGo) := fun x hx => hc x ((List.takeWhile_prefix bareGo).mem hx)
        exact one (ok_tkOf lo2) (toksF_low n (q :: q') lo) hl
theorem toks_ok {cs : List Nat} (h : ∀ c ∈ cs, c < 128) : ∀ k ∈ toks cs, OkTk k := (toksF_low _ _ h).1
theorem toks_le {cs : List Nat} (h : ∀ c ∈ cs, c < 128) : (toks cs).length ≤ cs.length := (toksF_low _ _ h).2
theorem words_ok : ∀ {ts : List Tk}, (∀ k ∈ ts, OkTk k) → ∀ v ∈ wordsOf ts, Low v
  | [], _, v, hv => by cases hv
  | k :: ts, h, v, hv => by
    have ih := words_ok (ts := ts) fun k hk => h k (.tail _ hk)
    cases k with
    | leaf w0 =>
      rcases List.mem_cons.mp hv with rfl | hv
      · exact h _ (.head _)
      · exact ih v hv
    | op => exact ih v hv
    | cl => exact ih v hv
    | nul => exact ih v hv
theorem arrF_ok : ∀ (n : Nat) (ts : List Tk), ts.length ≤ n → (∀ k ∈ ts, OkTk k) → (∀ d ∈ (arr ts).1, kqdOk ts.length d = true) ∧ ∀ k ∈ (arr ts).2, OkTk k := by
  intro n
  induction n with
  | zero =>
    intro ts hn _
    obtain rfl : ts = [] := List.eq_nil_of_length_eq_zero (by omega)
    exact ⟨(fun _ h => (nomatch h)), (fun _ h => (nomatch h))⟩
  | succ n ih =>
    intro ts hn hk
    cases ts with
    | nil => exact ⟨(fun _ h => (nomatch h)), (fun _ h => (nomatch h))⟩
    | cons k r =>
      have hr : r.length ≤ n := by simpa using hn
      have hkr : ∀ k ∈ r, OkTk k := fun k h => hk k (.tail _ h)
      have i1 := ih r hr hkr
      have lf : k ≠ .op → k ≠ .cl → (∀ d ∈ (arr (k :: r)).1, kqdOk (k :: r).length d = true) ∧ ∀ k' ∈ (arr (k :: r)).2, OkTk k' := fun h1 h2 => by
        rw [arr_go r h1 h2]
        refine ⟨fun d hd => ?_, i1.2⟩
        rcases List.mem_cons.mp hd with rfl | hd
        · exact kqdOk_mono 1 _ _ (by simp) (ok_tkDat (hk k (.head _)))
        · exact kqdOk_mono _ _ _ (Nat.le_succ _) (i1.1 d hd)
      cases k with
      | op =>
        have hl := arr_len r
        have i2 := ih (arr r).2 (Nat.le_trans hl hr) i1.2
        rw [arr_op]
        refine ⟨fun d hd => ?_, i2.2⟩
        rcases List.mem_cons.mp hd with rfl | hd
        · simp only [List.length_cons, kqdOk, List.all_eq_true]; exact i1.1
        · exact kqdOk_mono _ _ _ (by simp only [List.length_cons]; omega) (i2.1 d hd)
      | cl => rw [arr_cl]; exact ⟨(fun _ h => (nomatch h)), hkr⟩
      | nul => exact lf (by simp) (by simp)
      | leaf w => exact lf (by simp) (by simp)
theorem first_ok {k : Tk} {r : List Tk} (h : ∀ q ∈ k :: r, OkTk q) (hl : (k :: r).length ≤ 60) : kqdOk 60 (firstD k r) = true := by
  have lf : kqdOk 60 (tkDat k) = true := kqdOk_mono 1 60 _ (by decide) (ok_tkDat (h k (.head _)))
  cases k with
  | op =>
    refine kqdOk_mono (r.length + 1) 60 _ (by simpa using hl) ?_
    simp only [firstD, kqdOk, List.all_eq_true]
    exact (arrF_ok _ r (Nat.le_refl _) fun q hq => h q (.tail _ hq)).1
  | cl => exact lf
  | nul => exact lf
  | leaf w => exact lf
def strsD (ws : List (List Nat)) : Dat := .list (ws.map fun v => .str (tx v))
theorem strs_dat {nw : List (Addr × Obj)} : ∀ {us : List Value} {ws : List (List Nat)}, StrsAre us (ws.map tx) → DatAll nw us (ws.map fun v => .str (tx v))
  | us, [], h => by cases h; exact .nil
  | us, v :: ws, h => by
    cases h with
    | cons y t r => exact .cons (.str _ t) (strs_dat r)
theorem strsD_ok {ws : List (List Nat)} (h : ∀ v ∈ ws, Low v) : kqdOk 60 (strsD ws) = true := by
  simp only [strsD, kqdOk, List.all_eq_true, List.mem_map]
  rintro d ⟨v, hv, rfl⟩
  exact strOk_tx (h v hv)
theorem TokAll.dat {nw : List (Addr × Obj)} {vs : List Value} {ts : List Tk} (h : TokAll nw vs ts) : DatAll nw vs (ts.map tkDat) := by
  induction h with
  | nil => exact .nil
  | cons a _ ih => exact .cons a.dat ih
theorem toksD_ok {ts : List Tk} (h : ∀ k ∈ ts, OkTk k) : kqdOk 60 (.list (ts.map tkDat)) = true := by
  simp only [kqdOk, List.all_eq_true, List.mem_map]
  rintro d ⟨k, hk, rfl⟩
  exact kqdOk_mono 1 _ _ (by decide) (ok_tkDat (h k hk))
theorem words_snoc {ts : List Tk} {i : Nat} (h : i < ts.length) : wordsOf (ts.take (i + 1)) = wordsOf (ts.take i) ++ wordsOf [ts[i]] := by
  rw [List.take_succ_eq_append_getElem h, words_app]
section
variable {prog : Program} {w : World} {A : Around} {h₀ : Heap} {L : Addr} {m : PySem.Str → Option Value} {env : Env} {ct elt : PySem.Expr} {x : PySem.Str} {scope : Scope} {cl : List (PySem.Str × Addr)} {s : Shared} {S : List (Addr × Obj) → Prop} {P : Nat → Value → Prop} {Fin : List Value → List (Addr × Obj) → Prop}
theorem comp_invT {n : Nat} (J : Nat → List Value → List (Addr × Obj) → Prop)
    (turn : ∀ i ys news v I oI C oC D m₂ h tk (E' : Value → Shared → Prop), i < n → J i ys news → P i v → LCg.NsObj oC m₂ → m₂ x = some v → Fr h₀ L h m → News h₀ L h ((I, oI) :: (C, oC) :: (D, LCg.lst ys) :: news) → LCg.Off3 I C D news → ((@Ne Nat I C) ∧ (@Ne Nat I D) ∧ (@Ne Nat C D)) →
      wpAny (model prog w) A (isTrue ct (compEnvC scope cl C env) (eval ct (compEnvC scope cl C env))) (fun ok s' => if ok = true then
        wpAny (model prog w) A (eval elt (compEnvC scope cl C env)) (LCg.CompEnd h₀ L m { s with heap := h, toks := tk } I oI C oC D (LCg.lst ys) S (fun y news' => J (i + 1) (ys ++ [y]) news')) E' s'
        else LCg.CompEnd h₀ L m { s with heap := h, toks := tk } I oI C oC D (LCg.lst ys) S (fun _ news' => J (i + 1) ys news') Value.none s') E' { s with heap := h, toks := tk })
    (fin : ∀ ys news, J n ys news → Fin ys news) {news : List (Addr × Obj)} (h0 : J 0 [] news) : LCt.CompRestT prog w A h₀ L m env ct elt x scope cl s S P Fin n 0 [] news := by
  have key : ∀ (j i : Nat) (ys : List Value) (news : List (Addr × Obj)), i + j = n → J i ys news → LCt.CompRestT prog w A h₀ L m env ct elt x scope cl s S P Fin j i ys news := by
    intro j
    induction j with
    | zero =>
      intro i ys news hi hy
      obtain rfl : i = n := by omega
      exact LCt.CompRestT.zero (fin ys news hy)
    | succ j ih =>
      intro i ys news hi hy
      refine LCt.CompRestT.succ ?_
      intro v I oI C oC D m₂ h tk E' hv hC hx F N off ne
      refine wpAny_mono (turn i ys news v I oI C oC D m₂ h tk E' (by omega) hy hv hC hx F N off ne) (fun ok s₂ hq => ?_) fun _ _ e => e
      cases ok with
      | true =>
        simp only [if_true] at hq ⊢
        refine wpAny_mono hq (fun y s₃ hq => ?_) fun _ _ e => e
        obtain ⟨h', tk', nw, e, F', N', off', hS, hJ⟩ := hq
        exact ⟨h', tk', nw, e, F', N', off', hS, ih (i + 1) _ _ (by omega) hJ⟩
      | false =>
        simp only [Bool.false_eq_true, if_false] at hq ⊢
        obtain ⟨h', tk', nw, e, F', N', off', hS, hJ⟩ := hq
        exact ⟨h', tk', nw, e, F', N', off', hS, ih (i + 1) _ _ (by omega) hJ⟩
  exact key n 0 [] news (by omega) h0
end
section
variable {prog : Program} {w : World} {A : Around} {h₀ : Heap} {L : Addr} {m : PySem.Str → Option Value} {env : Env} {ct elt : PySem.Expr} {x : PySem.Str} {scope : Scope} {cl : List (PySem.Str × Addr)}
theorem wd_src {Fin : Shared → List Value → List (Addr × Obj) → Prop} {r : Addr} {s₁ : Shared} {vs : List Value} {ts : List Tk} {k : Nat} {news nt : List (Addr × Obj)}
    (hh : A.handled = none) (F : Fr h₀ L s₁.heap m) (N : News h₀ L s₁.heap news) (hm : (r, listOf vs.toArray k) ∈ news) (hts : TokAll nt vs ts) (hz : vs.length ≤ 1000)
    (turn : ∀ v k I oI C oC D ys m₂ h tk (E' : Value → Shared → Prop), TokIn nt v k → LCg.NsObj oC m₂ → m₂ x = some v → Fr h₀ L h m → News h₀ L h ((I, oI) :: (C, oC) :: (D, LCg.lst ys) :: news) → LCg.Off3 I C D news → ((@Ne Nat I C) ∧ (@Ne Nat I D) ∧ (@Ne Nat C D)) →
      wpAny (model prog w) A (isTrue ct (compEnvC scope cl C env) (eval ct (compEnvC scope cl C env))) (fun ok s' => if ok = true then
        wpAny (model prog w) A (eval elt (compEnvC scope cl C env)) (LCg.CompEnd h₀ L m { s₁ with heap := h, toks := tk } I oI C oC D (LCg.lst ys) (LCg.SrcAt h₀ r vs.toArray) (fun y news' => news' = news ∧ ∃ v t, k = .leaf v ∧ y = .str (tx v) t)) E' s'
        else LCg.CompEnd h₀ L m { s₁ with heap := h, toks := tk } I oI C oC D (LCg.lst ys) (LCg.SrcAt h₀ r vs.toArray) (fun _ news' => news' = news ∧ wordsOf [k] = []) Value.none s') E' { s₁ with heap := h, toks := tk })
    (fin : ∀ ys g, StrsAre ys ((wordsOf ts).map tx) → Fin { s₁ with heap := g } ys news) :
    LCt.CompSrcT prog w A h₀ L m env ct elt x scope cl Fin (.ref r) s₁ := by
  have hl := hts.length
  refine LCt.CompSrcT.ledger hh F N hm (by rw [sizeLine_eq, List.size_toArray]; omega) fun g => ?_
  rw [List.size_toArray]
  refine comp_invT (fun i ys nw => nw = news ∧ StrsAre ys ((wordsOf (ts.take i)).map tx)) ?_ ?_ ⟨rfl, .nil⟩
  · rintro i ys _ v I oI C oC D m₂ h tk E' hi ⟨rfl, hy⟩ hv hC hx F' N' off ne
    obtain ⟨v', hv', hk⟩ := hts.get (i := i) (by omega)
    have : v = v' := by
      have q : vs[i]? = some v := by simpa using hv
      rw [hv'] at q; exact (Option.some.inj q).symm
    subst this
    have sn := words_snoc (ts := ts) (i := i) (by omega)
    refine wpAny_mono (turn v _ I oI C oC D ys m₂ h tk E' hk hC hx F' N' off ne) (fun ok s₂ hq => ?_) fun _ _ e => e
    cases ok with
    | true =>
      simp only [if_true] at hq ⊢
      refine wpAny_mono hq (fun y s₃ hq => ?_) fun _ _ e => e
      obtain ⟨h', tk', nw, e, F8, N8, off8, hS8, rfl, v9, t9, hk9, rfl⟩ := hq
      refine ⟨h', tk', _, e, F8, N8, off8, hS8, rfl, ?_⟩
      rw [sn, hk9, List.map_append]
      exact strs_snoc hy _ _
    | false =>
      simp only [Bool.false_eq_true, if_false] at hq ⊢
      obtain ⟨h', tk', nw, e, F8, N8, off8, hS8, rfl, hw9⟩ := hq
      refine ⟨h', tk', _, e, F8, N8, off8, hS8, rfl, ?_⟩
      rw [sn, hw9, List.append_nil]
      exact hy
  · rintro ys _ ⟨rfl, hy⟩
    rw [hl, List.take_length] at hy
    exact fin ys g hy
end
section
variable {h₀ h : Heap} {L : Addr} {a b c d e : Addr × Obj} {dyn news : List (Addr × Obj)}
theorem one_perm1 (N : News h₀ L h (a :: b :: c :: (dyn ++ d :: e :: news))) : News h₀ L h (b :: d :: e :: (a :: c :: (dyn ++ news))) := by
  intro p hp
  apply N
  simp only [List.mem_cons, List.mem_append] at hp ⊢
  rcases hp with h | h | h | h | h | h | h <;> simp [h]
theorem one_perm2 (N : News h₀ L h (a :: b :: c :: news)) : News h₀ L h (c :: a :: b :: news) := by
  intro p hp
  apply N
  simp only [List.mem_cons] at hp ⊢
  rcases hp with h | h | h | h <;> simp [h]
theorem lt_parts {r l c' : Addr} {o oc : Obj} (h : @LT.lt Nat _ r l ∧ AllLt l (dyn ++ (713, o) :: (c', oc) :: news)) : @LT.lt Nat _ 713 l ∧ @LT.lt Nat _ c' l ∧ ∀ p ∈ dyn ++ news, p.1 ≠ l := by
  have q := tb_ltOf h.2
  refine ⟨q (713, o) (List.mem_append_right _ (.head _)), q (c', oc) (List.mem_append_right _ (.tail _ (.head _))), fun p hp => ?_⟩
  refine Nat.ne_of_lt (q p ?_)
  simp only [List.mem_cons, List.mem_append] at hp ⊢
  rcases hp with h | h <;> simp [h]
end
section
variable {prog : Program} {w : World} {A : Around} {E : Value → Shared → Prop} {s : Shared} {h₀ : Heap} {L : Addr} {m : PySem.Str → Option Value} {news : List (Addr × Obj)}
theorem my_upto {value slice : PySem.Expr} {l : Addr} {vs : List Value} {n j : Nat} {i : Int} {ti : Tok} {Q : Value → Shared → Prop}
    (F : Fr h₀ L s.heap m) (N : News h₀ L s.heap news) (hm : (l, listOf vs.toArray n) ∈ news) (hi : i = (j : Int)) (hz : vs.length ≤ 1000)
    (h : ∀ D h', Fr h₀ L h' m → News h₀ L h' ((D, listOf (vs.take j).toArray 0) :: news) → (∀ p ∈ news, p.1 < D) → Q (.ref D) { s with heap := h' })
    (hs : subscripted slice false (.ref l) (.ref s.heap.objs.size) = operate [.ref s.heap.objs.size, .ref l] (getItem (.ref l) (.ref s.heap.objs.size)))
    (ht : ∀ r, letTemporaryGo value (.ref l) r = pure ()) :
    wpAny (model prog w) A (subscriptTail value slice (.ref l) (.ref s.heap.objs.size)) Q E { s with heap := s.heap.push { cls := .type "slice", data := .fields #[.none, .int i ti, .none] } } := by
  subst hi
  refine slice_list F N (items := vs.toArray) (lo := none) (hi := some (j : Int)) ⟨_, (N _ hm).1, rfl, n, rfl⟩ .none (.int _ _) (fun h' F' N' => ?_) hs ht (by rw [sizeLine_eq, List.size_toArray]; omega)
  rw [slicePick_upto'] at N'
  refine h _ h' F' (by simpa using N') fun p hp => Nat.lt_succ_of_lt (Heap.lt_size (N p hp).1)
end
section
variable {h₀ h : Heap} {L : Addr} {a b c d e f g : Addr × Obj} {dyn news : List (Addr × Obj)}
theorem one_perm3 (N : News h₀ L h (a :: (dyn ++ b :: c :: d :: e :: f :: g :: news))) : News h₀ L h (a :: b :: c :: d :: e :: f :: g :: (dyn ++ news)) := by
  intro p hp
  apply N
  simp only [List.mem_cons, List.mem_append] at hp ⊢
  rcases hp with h | h | h | h | h | h | h | h | h <;> simp [h]
end
section
variable {prog : Program} {w : World} {A : Around} {E : Value → Shared → Prop} {s : Shared} {h₀ : Heap} {L : Addr} {m : PySem.Str → Option Value} {news nt : List (Addr × Obj)}
theorem my_eqnil {a b : Addr} {vs : List Value} {n n2 : Nat} {ts : List Tk} {Q : Value → Shared → Prop} (N : News h₀ L s.heap news) (ma : (a, listOf vs.toArray n) ∈ news) (mb : (b, listOf ([] : List Value).toArray n2) ∈ news)
    (hts : TokAll nt vs ts) (hsub : ∀ p ∈ nt, p ∈ news) (hok : ∀ k ∈ ts, OkTk k) (hu : A.units + 64 < cLine) (h1 : ts = [] → Q (.bool true) s) (h2 : ts ≠ [] → Q (.bool false) s) :
    wpAny (model prog w) A (compareOp .Eq (.ref a) (.ref b)) Q E s := by
  have Da : DatIn news (.ref a) (.list (ts.map tkDat)) := .list ma (hts.dat.mono hsub)
  have Db : DatIn news (.ref b) (.list []) := .list mb .nil
  by_cases e : ts = []
  · refine my_eqT N Da (fun _ h => h) Db (fun _ h => h) (toksD_ok hok) (by decide) hu (by rw [e]; rfl) (h1 e)
  · refine my_eqF N Da (fun _ h => h) Db (fun _ h => h) (toksD_ok hok) (by decide) hu (fun q => e ?_) (h2 e)
    cases ts with
    | nil => rfl
    | cons k r => cases q
theorem my_neW {a b : Addr} {us ys : List Value} {n n2 : Nat} {W1 W2 : List (List Nat)} {Q : Value → Shared → Prop} (N : News h₀ L s.heap news) (ma : (a, listOf us.toArray n) ∈ news) (mb : (b, listOf ys.toArray n2) ∈ news)
    (ha : StrsAre us (W1.map tx)) (hb : StrsAre ys (W2.map tx)) (he : W1 = W2) (hok : ∀ v ∈ W2, Low v) (hu : A.units + 64 < cLine) (h : Q (.bool false) s) :
    wpAny (model prog w) A (compareOp .NotEq (.ref a) (.ref b)) Q E s := by
  subst he
  exact my_neD (d := strsD W1) (e := strsD W1) N (.list ma (strs_dat ha)) (fun _ h => h) (.list mb (strs_dat hb)) (fun _ h => h) (strsD_ok hok) (strsD_ok hok) hu rfl h
end
theorem tok_head {nw : List (Addr × Obj)} {vs : List Value} {ts : List Tk} {k : Tk} {r : List Tk} (h : TokAll nw vs ts) (e : ts = k :: r) : ∃ v0 vr, vs = v0 :: vr ∧ TokIn nw v0 k := by
  subst e
  cases h with
  | cons a b => exact ⟨_, _, rfl, a⟩
theorem ok_take {ts : List Tk} {j : Nat} (h : ∀ k ∈ ts, OkTk k) : ∀ v ∈ wordsOf (ts.take j), Low v := words_ok fun k hk => h k (List.mem_of_mem_take hk)
section
variable {prog : Program} {w : World} {A : Around} {E : Value → Shared → Prop} {s : Shared} {h₀ : Heap} {L : Addr} {m : PySem.Str → Option Value} {news nt : List (Addr × Obj)}
theorem my_leafstr2 {x : Addr} {wd : List Nat} {t1 t2 t : Tok} {n : Nat} {y : PySem.Str} {Q : Value → Shared → Prop} (N : News h₀ L s.heap news) (hm : (x, leafObj wd t1 t2 n) ∈ nt) (hs : ∀ p ∈ nt, p ∈ news) (hw : ∀ c ∈ wd, c < 128) (hy : PyData.strOk y = true) (hu : A.units + 64 < cLine) (h : Q (.bool false) s) :
    wpAny (model prog w) A (compareOp .Eq (.ref x) (.str y t)) Q E s := my_leafstr N (hs _ hm) hw hy hu h
theorem my_eqArr {v : Value} {ra : Addr} {us : List Value} {nu : Nat} {dyn tl d1 : List (Addr × Obj)} {ts r : List Tk} {Q : Value → Shared → Prop} (N : News h₀ L s.heap news) (hd : DatIn dyn v (firstD .op r)) (s1 : ∀ p ∈ dyn, p ∈ news) (hra : (ra, listOf us.toArray nu) ∈ tl) (hds : DatAll (tl ++ d1) us (arr (ts.drop 1)).1)
    (s2 : ∀ p ∈ tl ++ d1, p ∈ news) (ht : ts = .op :: r) (hq : kqdOk 60 (firstD .op r) = true) (hu : A.units + 64 < cLine) (h : Q (.bool true) s) : wpAny (model prog w) A (compareOp .Eq v (.ref ra)) Q E s := by
  subst ht
  exact my_eqT N hd s1 (DatIn.list (List.mem_append_left _ hra) hds) s2 hq hq hu rfl h
theorem my_eqTok {v v2 : Value} {dyn d1 : List (Addr × Obj)} {k : Tk} {r : List Tk} {Q : Value → Shared → Prop} (N : News h₀ L s.heap news) (hd : DatIn dyn v (firstD k r)) (s1 : ∀ p ∈ dyn, p ∈ news) (h2 : DatIn d1 v2 (tkDat k))
    (s2 : ∀ p ∈ d1, p ∈ news) (hf : firstD k r = tkDat k) (hq : kqdOk 60 (firstD k r) = true) (hu : A.units + 64 < cLine) (h : Q (.bool true) s) : wpAny (model prog w) A (compareOp .Eq v v2) Q E s :=
  my_eqT N hd s1 h2 s2 hq (hf ▸ hq) hu hf h
end
end Mine
namespace Mine
abbrev fsc (nm : List (PySem.Str × NameKind)) (ig ic : Bool) (mo : List (PySem.Str × Const)) : Scope := { kind := .function, names := nm, isGenerator := ig, isCoroutine := ic, more := mo }
theorem dat_of {nw : List (Addr × Obj)} {v : Value} {k : Tk} (h : TokIn nw v k) : ∃ d, d = tkDat k ∧ DatIn nw v d := ⟨_, rfl, h.dat⟩
def CodeMade (oc : Obj) : Prop := ∃ vs t, oc.data = .fields vs ∧ vs[1]? = some (.str (PySem.Str.ofString "_law_reader.<locals>._law_mark") t)
theorem code_made {oc : Obj} {vs : Array Value} {q : PySem.Str} {t : Tok} (d : oc.data = .fields vs) (h : vs[1]? = some (.str q t)) (e : q = PySem.Str.ofString "_law_reader.<locals>._law_mark") : CodeMade oc := ⟨vs, t, d, by rw [h, e]⟩
theorem lt_l1 {hl d : Addr} {news : List (Addr × Obj)} (h : @LT.lt Nat _ hl d ∧ @LT.lt Nat _ 713 d ∧ AllLt d news) : ∀ p ∈ news, p.1 < d + 1 := fun p hp => Nat.lt_succ_of_lt (tb_ltOf h.2.2 p hp)
theorem lt_l2 {hl c' d : Addr} {news : List (Addr × Obj)} (h : @LT.lt Nat _ hl d ∧ @LT.lt Nat _ 713 d ∧ @LT.lt Nat _ c' d ∧ AllLt d news) : ∀ p ∈ news, p.1 < d + 1 := fun p hp => Nat.lt_succ_of_lt (tb_ltOf h.2.2.2 p hp)
theorem upd_mem {d : Addr} {o o' : Obj} {l l' : List (Addr × Obj)} (U : Upd d o o' l l') : (d, o) ∈ l := by
  obtain ⟨pre, post, rfl, _⟩ := U.split
  exact List.mem_append_right _ (.head _)
def plainT : PySem.Str := PySem.Str.ofString "{a,NULL,{\"b\"}}"
def plainD : Dat := .list [leafD [97], .none, .list [leafD [98]]]
theorem plain_toks : toks plainT.cps.toList = [.op, .leaf [97], .nul, .op, .leaf [98], .cl, .cl] := by decide +kernel
theorem plain_len : plainT.length ≤ 60 := by decide +kernel
theorem plainD_eq : plainD = .list [.tuple [.str (PySem.Str.ofString "leaf"), .str (PySem.Str.ofString "a")], .none, .list [.tuple [.str (PySem.Str.ofString "leaf"), .str (PySem.Str.ofString "b")]]] := by
  have e1 : tx [97] = PySem.Str.ofString "a" := by decide +kernel
  have e2 : tx [98] = PySem.Str.ofString "b" := by decide +kernel
  unfold plainD leafD
  rw [e1, e2]
theorem plain_ok : kqdOk 60 plainD = true := by rw [plainD_eq]; decide +kernel
theorem wrap_len {x : PySem.Str} (h : x.length ≤ 56) : (PySem.Str.ofString "{" ++ x ++ PySem.Str.ofString "}").length ≤ 60 := by
  have e : PySem.Str.ofString "{" ++ x ++ PySem.Str.ofString "}" = tx (123 :: (x.cps.toList ++ [125])) := by
    rw [ob, cb, show x = tx x.cps.toList from (tx_cps x).symm, tx_snoc, tx_snoc, tx_cps]
    rfl
  have h' : x.cps.size ≤ 56 := h
  rw [e, tx_len]
  simp only [List.length_cons, List.length_append, List.length_nil, Array.length_toList]
  omega
theorem wrap_low {x : PySem.Str} (h : ∀ c ∈ x.cps.toList, c < 128) : ∀ c ∈ (PySem.Str.ofString "{" ++ x ++ PySem.Str.ofString "}").cps.toList, c < 128 := by
  have e : PySem.Str.ofString "{" ++ x ++ PySem.Str.ofString "}" = tx (123 :: (x.cps.toList ++ [125])) := by
    rw [ob, cb, show x = tx x.cps.toList from (tx_cps x).symm, tx_snoc, tx_snoc, tx_cps]
    rfl
  rw [e]
  intro c hc
  have hc' : c ∈ 123 :: (x.cps.toList ++ [125]) := hc
  rcases List.mem_cons.mp hc' with rfl | hc'
  · decide
  rcases List.mem_append.mp hc' with hc' | hc'
  · exact h c hc'
  · rw [List.mem_singleton.mp hc']; decide
section
local macro_rules | `(tactic| o_head $_) => `(tactic| assumption)
theorem pre (h : PySem.Challenge.rw_fp5016_01.row.Holds) : PySem.Challenge.rw_fp5016_01.row.Holds := by
  k_head
end
section
local macro_rules | `(tactic| k_room) => `(tactic| ktr_room)
local macro_rules | `(tactic| k_units) => `(tactic| ktr_units)
local macro_rules | `(tactic| k_all) => `(tactic| assumption)
local macro_rules | `(tactic| walk_at "getItem ref int") => `(tactic| (k_here; k_dflt (refine' my_getItem ?N ?m ?a ?b ?x ?_; (case N => k_asm); (case m => k_mem); (case a => decide); (case b => decide); (case x => rfl); k_whole)))
local macro_rules | `(tactic| walk_at "call builtin:str.join") => `(tactic| k_extra "mine join")
local macro_rules | `(tactic| walk_at "CompEnd") => `(tactic| k_extra "mine end")
local macro_rules | `(tactic| walk_at "CompSrc") => `(tactic| k_extra "mine src")
theorem law_text_ok {LS : List PySem.Str} {w : World} {mean : ExcName → Option Value} {mg mb : Str → Option Value} {dp un : Nat} {gd : Option (List Code)} {cn : Str} {nm : List (Str × NameKind)} {ig ic : Bool} {mo : List (Str × Const)} {a : Addr} {ccd : Value} {cl : List (Str × Addr)} {outer : List Env} {A₀ : Around} {base h₀ : Heap} {L : Addr} {m : Str → Option Value} {s : Shared}
    {Q E : Value → Shared → Prop} {st l : Addr} {k : Int} {t : Tok} {n n2 : Nat} {vs : List Value} {ns : List Int} {rest : List (Addr × Obj)}
    (B : Below A₀ base outer h₀) (F : Fr h₀ L s.heap m) (X : (pre.heap_1 w.params).In h₀) (N : News h₀ L s.heap ((st, listOf #[.ref l, .int k t] n) :: (l, listOf vs.toArray n2) :: rest)) (T : Top topProg LS mean mg mb h₀)
    (hdp : dp < 900) (hun : un < 9000) (hlt : l < st) (hr : ∀ p ∈ rest, p.1 ≠ st) (hI : IntsAre vs ns) (hk0 : 0 ≤ k) (hk1 : k ≤ 1000) (hlen : ns.length ≤ 60)
    (ret : ∀ x tx k' t' h' tk', x.length ≤ 56 → (∀ c ∈ x.cps.toList, c < 128) → k ≤ k' → k' ≤ k + 15 → Fr h₀ L h' m → News h₀ L h' ((st, listOf #[.ref l, .int k' t'] n) :: (l, listOf vs.toArray n2) :: rest) → Q (.str x tx) { s with heap := h', toks := tk' }) :
    wpAny (model PySem.Challenge.rw_fp5016_01.row.prog w) (ktrTop dp un gd cn (fsc nm ig ic mo) L a ccd cl outer) (call (.ref 683) [.ref st]) Q E s := by
  replace hlt := ltN hlt
  revert X; k_fill; intro X
  refine wpAny_call ?_
  k_with "mine src" => k_dflt (k_fmods; (refine lt_src (by rfl) (by k_asm) (by k_asm) (by assumption) (by assumption) (by omega) (Int.toNat_of_nonneg (by assumption)) (fun kk tt v I' oI' C' oC' D' ys' m' h' tk' E' hlo' hhi' hC' hx' F' N' off' ne' => ?_) (fun ys ws tt g hp hl => ?_)); (try (simp only [LCg.Off3, and_true] at off')); (all_goals (try (have hsA := Pieces.strs hp))); (all_goals (try (have hsB := sum_le (Pieces.bound hp)))); (all_goals (try (have hsC := Pieces.bound hp))); (all_goals (try (have hsD := Pieces.wd hp))); (all_goals (try k_fold)))
  k_with "mine end" => k_dflt (refine LCg.CompEnd.intro (by k_asm) (by k_asm) _ (fun p hp => hp) (by simp only [LCg.Off3, and_true]; assumption) trivial ⟨_, _, _, rfl, getD_len (by decide +kernel) _, rfl⟩)
  k_with "mine join" => k_dflt (refine' my_join ?N ?m ?c ?d ?s ?z ?_; (case N => k_asm); (case m => k_mem); (case c => rfl); (case d => rfl); (case s => assumption); (case z => ((have e0 : (PySem.Str.ofString "").length = 0 := by decide +kernel); rw [e0]; omega)); intro _ _)
  k_enter
  k_steps
  all_goals (refine ret _ _ _ _ _ _ (join_len (by assumption) (by omega)) (join_low (by assumption)) ?_ ?_ (by k_asm) (news_sub (by k_asm) (fun p hp => .tail _ (.tail _ hp))))
  all_goals omega
end
section
local macro_rules | `(tactic| k_room) => `(tactic| ktr_room)
local macro_rules | `(tactic| k_units) => `(tactic| ktr_units)
local macro_rules | `(tactic| k_all) => `(tactic| assumption)
local macro_rules | `(tactic| walk_at "inplaceOp Add str str") => `(tactic| k_dflt (refine' my_iadd ?b ?z ?_; (case b => assumption); (case z => (simp only [List.length_cons, List.length_nil]; omega)); intro _ _))
local macro_rules | `(tactic| walk_at "WPost") => `(tactic| dsimp only [WPost])
local macro_rules | `(tactic| walk_at "WEnd") => `(tactic| k_extra "mine wend")
local macro_rules | `(tactic| walk_at "exec While Compare cons nil") => `(tactic| k_extra "mine while")
theorem law_quoted_ok {LS : List PySem.Str} {w : World} {mean : ExcName → Option Value} {mg mb : PySem.Str → Option Value} {dp un : Nat} {gd : Option (List Code)} {cn : PySem.Str} {nm : List (PySem.Str × NameKind)} {ig ic : Bool} {mo : List (PySem.Str × Const)} {a : Addr} {ccd : Value} {cl : List (PySem.Str × Addr)} {outer : List Env} {A₀ : Around} {base h₀ : Heap} {L : Addr} {m : PySem.Str → Option Value} {s : Shared}
    {Q E : Value → Shared → Prop} {x : PySem.Str} {t u : Tok} {i : Nat} {ii : Int} {news : List (Addr × Obj)}
    (B : Below A₀ base outer h₀) (F : Fr h₀ L s.heap m) (X : (pre.heap_1 w.params).In h₀) (N : News h₀ L s.heap news) (T : Top topProg LS mean mg mb h₀)
    (hdp : dp < 900) (hun : un < 9000) (hii : ii = i) (hi : i ≤ x.length) (hx : x.length ≤ 60)
    (retS : ∀ r wd (j : Nat) (ji : Int) tw tj n h' tk', quo [] (x.cps.toList.drop i) = some (wd, x.cps.toList.drop j) → ji = j → j ≤ x.length → Fr h₀ L h' m → News h₀ L h' ((r, { cls := .type "tuple", data := .seq #[.str (tx wd) tw, .int ji tj] n }) :: news) → (∀ p ∈ news, p.1 < r) → Q (.ref r) { s with heap := h', toks := tk' })
    (retN : ∀ r j tj n h' tk', quo [] (x.cps.toList.drop i) = none → Fr h₀ L h' m → News h₀ L h' ((r, { cls := .type "tuple", data := .seq #[.none, .int (j : Int) tj] n }) :: news) → (∀ p ∈ news, p.1 < r) → Q (.ref r) { s with heap := h', toks := tk' }) :
    wpAny (model PySem.Challenge.rw_fp5016_01.row.prog w) (ktrTop dp un gd cn (fsc nm ig ic mo) L a ccd cl outer) (call (.ref 690) [.str x t, .int ii u]) Q E s := by
  subst hii
  revert X; k_fill; intro X
  refine wpAny_call ?_
  k_with "mine while" =>
    k_dflt (
      refine' my_while (fun c : List Nat × Tok × Nat × Tok => [(Str.ofString "text", Value.str x t), (Str.ofString "at", Value.int c.2.2.1 c.2.2.2), (Str.ofString "word", Value.str (tx c.1) c.2.1)])
        (fun c nx => nx = news ∧ c.2.2.1 ≤ x.length + 1 ∧ quo c.1 (x.cps.toList.drop c.2.2.1) = quo [] (x.cps.toList.drop i) ∧ c.1.length ≤ c.2.2.1) (fun c => x.length + 1 - c.2.2.1) ([], _, i, _) ?F ?N ?hk ?hj ?_ ?hE
      (case F => k_asm)
      (case N => k_asm)
      (case hk => kst_all)
      (case hE => passes_own)
      (case hj => exact ⟨rfl, (by dsimp only; omega), rfl, (by simp)⟩)
      rintro ⟨wd, tw, j, tj⟩ v nx h tk ⟨hnx, hj, hq, hw⟩ F9 N9
      subst hnx
      dsimp only [kstB] at hj hq hw F9
      k_fold
      refine two_signs x j (fun c d hlt hlt2 hc hd hit hit2 => ?_) (fun c hlt hge hc hd hit => ?_) (fun hge hc => ?_) <;> rw [hc] at hq)
  k_enter
  k_steps
  all_goals first
    | (refine' retS _ wd (j + 1) _ _ _ _ _ _ ?a ?b ?c ?d ?e ?f; (case d => k_asm); (case e => k_asm); (case a => (rw [← hq, hd]; exact quo_end (is_sign hit qt (by assumption)))); (case b => omega); (case c => omega); (case f => first | assumption | exact tb_ltOf (by assumption)))
    | (refine' retN _ _ _ _ _ _ ?a ?d ?e ?f; (case d => k_asm); (case e => k_asm); (case a => (rw [← hq]; exact quo_nil)); (case f => first | assumption | exact tb_ltOf (by assumption)))
    | exact WEnd.intro (by k_asm) (by k_asm) (wd ++ [d], _, j + 2, _) nx (fun p hp => hp) (by kst_all) ⟨rfl, (by dsimp only; omega), (by dsimp only; rw [← hq]; exact (quo_esc (is_sign hit bs (by assumption))).symm), (by simp only [List.length_append, List.length_cons, List.length_nil]; omega)⟩ (by dsimp only; omega)
    | exact WEnd.intro (by k_asm) (by k_asm) (wd ++ [c], _, j + 1, _) nx (fun p hp => hp) (by kst_all) ⟨rfl, (by dsimp only; omega), (by dsimp only; rw [← hq, hd]; exact (quo_go (not_sign hit qt (by assumption)) (not_sign hit bs (by assumption))).symm), (by simp only [List.length_append, List.length_cons, List.length_nil]; omega)⟩ (by dsimp only; omega)
    | exact WEnd.intro (by k_asm) (by k_asm) (wd, _, j + 2, _) nx (fun p hp => hp) (by kst_all) ⟨rfl, (by dsimp only; omega), (by dsimp only; rw [← hq, drop_end (by omega)]; exact (quo_esc0 (is_sign hit bs (by assumption))).symm), (by dsimp only; omega)⟩ (by dsimp only; omega)
end
section
local macro_rules | `(tactic| k_room) => `(tactic| ktr_room)
local macro_rules | `(tactic| k_units) => `(tactic| ktr_units)
local macro_rules | `(tactic| k_all) => `(tactic| assumption)
local macro_rules | `(tactic| walk_at "inplaceOp Add str str") => `(tactic| k_dflt (refine' my_iadd ?b ?z ?_; (case b => assumption); (case z => (simp only [List.length_cons, List.length_nil]; omega)); intro _ _))
local macro_rules | `(tactic| walk_at "WPost") => `(tactic| dsimp only [WPost])
local macro_rules | `(tactic| walk_at "WEnd") => `(tactic| k_extra "mine wend")
local macro_rules | `(tactic| walk_at "call ref") => `(tactic| k_extra "mine call")
local macro_rules | `(tactic| walk_at "compareOp In str str") => `(tactic| k_dflt (refine' in_signs ?b ?z ?_; (case b => assumption); (case z => first | exact braces | exact bracecomma)))
local macro_rules | `(tactic| walk_at "compareOp NotIn str str") => `(tactic| k_dflt (refine' notin_signs ?b ?z ?_; (case b => assumption); (case z => first | exact braces | exact bracecomma)))
local macro_rules | `(tactic| walk_at "call builtin:list.append") => `(tactic| (k_dflt (refine' my_append ?F ?N ?U ?z ?_; (case F => k_asm); (case N => k_asm); (case U => k_upd); (case z => omega)); intro h' F' N'; (try k_sweep)))
local macro_rules | `(tactic| walk_at "exec While") => `(tactic| k_extra "mine while")
theorem law_tokens_ok {LS : List PySem.Str} {w : World} {mean : ExcName → Option Value} {mg mb : PySem.Str → Option Value} {dp un : Nat} {gd : Option (List Code)} {cn : PySem.Str} {nm : List (PySem.Str × NameKind)} {ig ic : Bool} {mo : List (PySem.Str × Const)} {a : Addr} {ccd : Value} {cl : List (PySem.Str × Addr)} {outer : List Env} {A₀ : Around} {base h₀ : Heap} {L : Addr} {m : PySem.Str → Option Value} {s : Shared}
    {Q E : Value → Shared → Prop} {x : PySem.Str} {t : Tok} {news : List (Addr × Obj)}
    (B : Below A₀ base outer h₀) (F : Fr h₀ L s.heap m) (X : (pre.heap_1 w.params).In h₀) (N : News h₀ L s.heap news) (T : Top topProg LS mean mg mb h₀)
    (hdp : dp < 890) (hun : un < 8900) (hx : x.length ≤ 60)
    (ret : ∀ r vs n dyn h' tk', TokAll dyn vs (toks x.cps.toList) → Fr h₀ L h' m → News h₀ L h' ((r, listOf vs.toArray n) :: (dyn ++ news)) → Q (.ref r) { s with heap := h', toks := tk' }) :
    wpAny (model PySem.Challenge.rw_fp5016_01.row.prog w) (ktrTop dp un gd cn (fsc nm ig ic mo) L a ccd cl outer) (call (.ref 697) [.str x t]) Q E s := by
  revert X; k_fill; intro X
  refine wpAny_call ?_
  k_with "mine while" =>
    k_dflt (
      refine' my_while1 ?fa (fun fa (c : List Value × Nat × List (Addr × Obj) × Nat × Tok) => [(Str.ofString "text", Value.str x t), (Str.ofString "found", Value.ref fa), (Str.ofString "at", Value.int c.2.2.2.1 c.2.2.2.2)])
        (fun fa c nx => nx = (fa, listOf c.1.toArray c.2.1) :: (c.2.2.1 ++ news) ∧ (∀ p ∈ c.2.2.1 ++ news, p.1 ≠ fa) ∧ c.2.2.2.1 ≤ x.length ∧ c.1.length ≤ c.2.2.2.1 ∧ ∃ ts, TokAll c.2.2.1 c.1 ts ∧ toks x.cps.toList = ts ++ toks (x.cps.toList.drop c.2.2.2.1)) (fun c => x.length - c.2.2.2.1) ([], 0, [], 0, _) ?F ?N ?hk ?hj ?_ ?hE
      (case F => k_asm)
      (case N => exact news_sub (by k_asm) (fun p hp => .tail _ hp))
      (case hk => kst_all)
      (case hE => passes_own)
      (case hj => exact ⟨(by simp), ne_of_all (by first | assumption | exact tb_ltOf (by assumption)), (by dsimp only; omega), (by dsimp only; exact Nat.le_refl _), [], .nil, rfl⟩)
      rintro ⟨vs, n, dyn, j, tj⟩ v nx h tk ⟨hnx, hoff, hj, hvj, ts, hts, hq⟩ F9 N9
      subst hnx
      dsimp only [kstB] at hoff hj hvj hts hq F9 N9
      k_fold
      refine one_sign x j (fun c hlt hc hit => ?_) (fun hge hc => ?_) <;> rw [hc] at hq)
  k_with "mine while" =>
    k_dflt (
      refine' my_while1 ?fa (fun fa (c : Nat × Tok) => [(Str.ofString "text", Value.str x t), (Str.ofString "found", Value.ref fa), (Str.ofString "at", Value.int j tj), (Str.ofString "end", Value.int c.1 c.2)])
        (fun fa c nx => nx = (fa, listOf vs.toArray n) :: (dyn ++ news) ∧ j ≤ c.1 ∧ c.1 ≤ x.length ∧ ∃ p, x.cps.toList.drop j = p ++ x.cps.toList.drop c.1 ∧ ∀ y ∈ p, bareGo y = true) (fun c => x.length - c.1) (j, _) ?F ?N ?hk ?hj ?_ ?hE
      (case F => k_asm)
      (case N => k_asm)
      (case hk => kst_all)
      (case hE => passes_own)
      (case hj => exact ⟨rfl, Nat.le_refl _, (by dsimp only; omega), [], rfl, by simp⟩)
      rintro ⟨e, te⟩ v2 nx2 h2 tk2 ⟨hnx2, hje, hex, p, hp, hpa⟩ F8 N8
      subst hnx2
      dsimp only [kstB] at hje hex hp hpa F8 N8
      k_fold
      refine one_sign x e (fun c2 hlt2 hc2 hit2 => ?_) (fun hge2 hc2 => ?_) <;> rw [hc2] at hp)
  k_with "mine call" =>
    k_dflt (
      refine' law_quoted_ok (i := j + 1) ?B ?F ?X ?N ?T ?d ?u ?ii ?i ?x (fun r9 wd9 j9 ji9 tw9 tj9 n9 h9 tk9 hq9 hj9 hl9 F9 N9 hlt9 => ?_) (fun r9 j9 tj9 n9 h9 tk9 hq9 F9 N9 hlt9 => ?_)
      (case B => k_asm)
      (case F => k_asm)
      (case X => k_asm)
      (case N => k_asm)
      (case T => k_asm)
      (case d => (dsimp only [ktrTop]; omega))
      (case u => (have hcL9 := cLine_is; (simp only [units_in1, units_deeper, Around.mark_units, units_caller] at *); (try dsimp only [ktrTop] at *); omega))
      (case ii => rfl)
      (case i => omega)
      (case x => assumption)
      all_goals (try subst hj9)
      all_goals (try k_lt hlt9))
  k_enter
  k_steps
  all_goals first
    | (refine' WEnd.intro ?F ?N (vs ++ [_], n + 1, dyn, j + 1, _) _ (fun p hp => hp) ?hk ⟨?e, hoff, ?b1, ?b2, _, ?tk, ?eq⟩ ?hm
       (case F => k_asm)
       (case N => k_asm)
       (case hk => kst_all)
       (case e => exact rfl)
       (case tk => exact hts.snoc (tok_brace hit (by assumption)))
       (case eq => exact tok_brace_eq hq (by assumption))
       (case b1 => (dsimp only; omega))
       (case b2 => (simp; omega))
       (case hm => (dsimp only; omega)))
    | (refine' WEnd.intro ?F ?N (vs, n, dyn, j + 1, _) _ (fun p hp => hp) ?hk ⟨?e, hoff, ?b1, ?b2, ts, hts, ?eq⟩ ?hm
       (case F => k_asm)
       (case N => k_asm)
       (case hk => kst_all)
       (case e => exact rfl)
       (case eq => (dsimp only; rw [hq, is_sign hit cm (by assumption), toks_cm]))
       (case b1 => (dsimp only; omega))
       (case b2 => (dsimp only; omega))
       (case hm => (dsimp only; omega)))
    | (refine' WEnd.intro ?F ?N (vs ++ [_], n + 1, _ :: dyn, j9, _) _ sub_q ?hk ⟨?e, ?off, ?b1, ?b2, _, ?tk, ?eq⟩ ?hm
       (case F => k_asm)
       (case N => k_asm)
       (case hk => kst_all)
       (case e => exact rfl)
       (case off => exact List.forall_mem_cons.mpr ⟨by k_ne, hoff⟩)
       (case tk => exact (hts.mono (fun p hp => .tail _ hp)).snoc (TokIn.leaf _ wd9 _ _ _ (.head _)))
       (case eq => exact eq_leaf hq (is_sign hit qt (by assumption)) hq9)
       (case b1 => exact hl9)
       (case b2 => (have := quo_adv hq9 hl9; simp; omega))
       (case hm => (have := quo_adv hq9 hl9; dsimp only; omega)))
    | (refine' ret _ vs n dyn _ _ ?a ?F ?N
       (case F => k_asm)
       (case N => exact news_sub (by k_asm) (fun p hp => .tail _ hp))
       (case a => (rw [eq_none hq (is_sign hit qt (by assumption)) hq9]; exact hts)))
    | (exfalso; omega)
    | (refine' WEnd.intro ?F ?N (vs ++ [_], n + 1, dyn, e, _) _ (fun p hp => hp) ?hk ⟨?e, hoff, hex, ?b2, _, ?tk, ?eq⟩ ?hm
       (case F => k_asm)
       (case N => k_asm)
       (case hk => kst_all)
       (case e => exact rfl)
       (case tk => exact hts.snoc TokIn.nul)
       (case eq => (have hb := bare_c (by assumption) (not_sign hit cm (by assumption)); dsimp only; rw [hc2, ← null_of (slice_tx hje hex (by rw [hp, hc2])) (by assumption)]; exact eq_bare hq hb (not_sign hit qt (by assumption)) (by rw [← hc, hp]) hpa (nogo_of (by assumption))))
       (case b2 => (have hb := bare_c (by assumption) (not_sign hit cm (by assumption)); have := bare_adv hc hp rfl hb.2 (nogo_of (by assumption)) hje hlt2; simp; omega))
       (case hm => (have hb := bare_c (by assumption) (not_sign hit cm (by assumption)); have := bare_adv hc hp rfl hb.2 (nogo_of (by assumption)) hje hlt2; dsimp only; omega)))
    | (refine' WEnd.intro ?F ?N (vs ++ [_], n + 1, _ :: dyn, e, _) _ sub_b ?hk ⟨?e, ?off, hex, ?b2, _, ?tk, ?eq⟩ ?hm
       (case F => k_asm)
       (case N => (have hsl := slice_tx hje hex (by rw [hp, hc2]); rename News _ _ _ _ => N7; rw [hsl] at N7; exact N7))
       (case hk => kst_all)
       (case e => exact rfl)
       (case off => exact List.forall_mem_cons.mpr ⟨by k_ne, hoff⟩)
       (case tk => exact (hts.mono (fun p hp => .tail _ hp)).snoc (TokIn.leaf _ p _ _ _ (.head _)))
       (case eq => (have hb := bare_c (by assumption) (not_sign hit cm (by assumption)); dsimp only; rw [hc2, ← leaf_of (slice_tx hje hex (by rw [hp, hc2])) (by assumption)]; exact eq_bare hq hb (not_sign hit qt (by assumption)) (by rw [← hc, hp]) hpa (nogo_of (by assumption))))
       (case b2 => (have hb := bare_c (by assumption) (not_sign hit cm (by assumption)); have := bare_adv hc hp rfl hb.2 (nogo_of (by assumption)) hje hlt2; simp; omega))
       (case hm => (have hb := bare_c (by assumption) (not_sign hit cm (by assumption)); have := bare_adv hc hp rfl hb.2 (nogo_of (by assumption)) hje hlt2; dsimp only; omega)))
    | (refine' WEnd.intro ?F ?N (e + 1, _) _ (fun p hp => hp) ?hk ⟨?e, ?b0, ?b1, p ++ [c2], ?eq, ?go⟩ ?hm
       (case F => k_asm)
       (case N => k_asm)
       (case hk => kst_all)
       (case e => exact rfl)
       (case b0 => (dsimp only; omega))
       (case b1 => (dsimp only; omega))
       (case eq => (dsimp only; rw [hp]; simp))
       (case go => exact snoc_go hpa (go_of (by assumption)))
       (case hm => (dsimp only; omega)))
    | (refine' ret _ vs n dyn _ _ ?a ?F ?N
       (case F => k_asm)
       (case N => k_asm)
       (case a => (rw [eq_bare0 hq (bare_c (by assumption) (not_sign hit cm (by assumption))).1 (not_sign hit qt (by assumption)) (by rw [← hc, hp]) hpa]; exact hts)))
    | (refine' ret _ vs n dyn _ _ ?a ?F ?N
       (case F => k_asm)
       (case N => k_asm)
       (case a => (rw [hq, toks_nil, List.append_nil]; exact hts)))
end
section
local macro_rules | `(tactic| k_room) => `(tactic| ktr_room)
local macro_rules | `(tactic| k_units) => `(tactic| ktr_units)
local macro_rules | `(tactic| k_all) => `(tactic| assumption)
local macro_rules | `(tactic| walk_at "WPost") => `(tactic| dsimp only [WPost])
local macro_rules | `(tactic| walk_at "call ref") => `(tactic| k_extra "mine call")
local macro_rules | `(tactic| walk_at "exec While") => `(tactic| k_extra "mine while")
local macro_rules | `(tactic| walk_at "exec While Compare cons nil") => `(tactic| k_extra "mine while")
local macro_rules | `(tactic| walk_at "call builtin:list.append") => `(tactic| (k_dflt (refine' my_append ?F ?N ?U ?z ?_; (case F => k_asm); (case N => k_asm); (case U => k_upd); (case z => omega)); intro h' F' N'; (try k_sweep)))
local macro_rules | `(tactic| walk_at "call builtin:len") => `(tactic| ((with_reducible show wpAny _ _ (call (Value.builtin "len") [Value.ref _]) _ _ _); k_dflt (refine' my_len ?N ?m ?z ?_; (case N => k_asm); (case m => first | assumption | k_mem); (case z => omega))))
local macro_rules | `(tactic| walk_at "subscriptTail") => `(tactic| ((with_reducible show wpAny _ _ (subscriptTail _ _ (Value.ref _) (Value.int _ _)) _ _ _); k_dflt (refine' my_item ?N ?m ?v ?k ?i ?_ ?s; (case N => k_asm); (case m => first | assumption | k_mem); (case v => assumption); (case k => rfl); (case i => omega); (case s => with_unfolding_all rfl))))
local macro_rules | `(tactic| walk_at "compareOp Eq str str") => `(tactic| k_dflt (refine' my_eqstr (b := ?b) ?h ?_; (case h => first | exact (by decide +kernel : _ = true) | exact (by decide +kernel : _ = false))))
local macro_rules | `(tactic| walk_at "compareOp Eq ref str") => `(tactic| k_dflt (refine' my_leafstr ?N ?m ?w ?y ?u ?_; (case N => k_asm); (case m => assumption); (case w => assumption); (case y => decide +kernel); (case u => ktr_units)))
theorem law_array_ok {LS : List PySem.Str} (w : World) (k : Nat) : ArrSpec PySem.Challenge.rw_fp5016_01.row.prog w (pre.heap_1 w.params) topProg LS 704 k := by
  induction k using Nat.strongRecOn with
  | ind k IH =>
  unfold ArrSpec
  intro mean mg mb dp un gd cn nm ig ic mo a ccd cl outer A₀ base h₀ L m s Q E lt vs n ts i ii u news nt B F X N T hdp hun hlt hts hsub hok hii hi hk hv1 ret
  subst hii
  revert X; k_fill; intro X
  refine wpAny_call ?_
  k_with "mine while" =>
    k_dflt (
      refine' my_while1 ?fa (fun fa (c : List Value × Nat × List (Addr × Obj) × Nat × Tok × List Dat) => [(Str.ofString "tokens", Value.ref lt), (Str.ofString "items", Value.ref fa), (Str.ofString "at", Value.int c.2.2.2.1 c.2.2.2.2.1)])
        (fun fa c nx => nx = (fa, listOf c.1.toArray c.2.1) :: (c.2.2.1 ++ news) ∧ (∀ p ∈ c.2.2.1 ++ news, p.1 ≠ fa) ∧ (∀ q ∈ news, q.1 < fa) ∧ (∀ q ∈ news, ∀ p ∈ c.2.2.1, q.1 < p.1) ∧ c.2.2.2.1 ≤ vs.length ∧ i ≤ c.2.2.2.1 ∧ c.1.length ≤ c.2.2.2.1 ∧
          DatAll (c.2.2.1 ++ nt) c.1 c.2.2.2.2.2 ∧ arr (ts.drop i) = (c.2.2.2.2.2 ++ (arr (ts.drop c.2.2.2.1)).1, (arr (ts.drop c.2.2.2.1)).2)) (fun c => vs.length - c.2.2.2.1) ([], 0, [], i, _, []) ?F ?N ?hk ?hj ?_ ?hE
      (case F => k_asm)
      (case N => k_asm)
      (case hk => kst_all)
      (case hE => passes_own)
      (case hj => exact ⟨(by simp), ne_of_all (by first | assumption | exact tb_ltOf (by assumption)), (by first | assumption | exact tb_ltOf (by assumption)), (by intro q hq p hp; cases hp), (by dsimp only; omega), Nat.le_refl _, (by dsimp only; exact Nat.zero_le _), .nil, rfl⟩)
      rintro ⟨us, nu, dyn, j, tj, ds⟩ v0 nx h tk ⟨hnx, hoff, hfa, hord, hj, hij, huj, hds, hq⟩ F9 N9
      subst hnx
      dsimp only [kstB] at hoff hfa hord hj hij huj hds hq F9 N9
      have hmem := mem_of N9 hlt (fun p hp => .tail _ (List.mem_append_right _ hp))
      (try k_fold)
      refine one_tok hts j ?_ (fun hge hd => ?_)
      intro v tkk hjv hv htk hd
      have hok9 := hok _ (mem_drop hd)
      obtain ⟨dk9, hdk9, htd9⟩ := dat_of htk
      rcases htk with t9 | t9 | _ | ⟨la9, wd9, t19, t29, n9, hm9⟩
      all_goals (try dsimp only [OkTk] at hok9)
      all_goals (try have hm8 := mem_of N9 (hsub _ hm9) (fun p hp => .tail _ (List.mem_append_right _ hp))))
  k_with "mine call" =>
    k_dflt (
      refine' IH (vs.length - (j + 1)) ?lt (i := j + 1) (n := n) ?B ?F ?X ?N ?T ?d ?u ?hl hts ?ht hok ?ii ?b1 ?b2 hv1 (fun r9 ra9 us9 nu9 j9 ji9 tj9 nr9 tl9 h9 tk9 hji9 hj9 hij9 hq9 hds9 hul9 hra9 hord9 hr9 F9 N9 => ?_)
      (case lt => omega)
      (case B => k_asm)
      (case F => k_asm)
      (case X => k_asm)
      (case N => k_asm)
      (case T => k_asm)
      (case d => (dsimp only [ktrTop]; omega))
      (case u => (have hcL9 := cLine_is; (simp only [units_in1, units_deeper, Around.mark_units, units_caller] at *); (try dsimp only [ktrTop] at *); omega))
      (case hl => exact hmem)
      (case ht => exact fun p hp => .tail _ (List.mem_append_right _ (hsub p hp)))
      (case ii => rfl)
      (case b1 => omega)
      (case b2 => omega)
      all_goals (try subst hji9)
      have hne9 := ne_mid N9 hr9 hord9 hoff
      replace N9 := news_mid N9)
  k_enter
  k_steps
  all_goals first
    | (refine' WEnd.intro ?F ?N (us ++ [Value.ref ra9], nu + 1, tl9 ++ dyn, j9, _, ds ++ [Dat.list (arr (ts.drop (j + 1))).1]) _ ?sub ?hk ⟨?e, ?off, ?gfa, ?ord, ?b1, ?b2, ?b3, ?da, ?eq⟩ ?hm
       (case F => k_asm)
       (case N => k_asm)
       (case hk => kst_all)
       (case e => exact rfl)
       (case sub => exact sub_m1)
       (case off => exact fun p hp => hne9 p (sub_m2 p hp))
       (case gfa => exact hfa)
       (case ord => (intro q hq0 p hp; rcases List.mem_append.mp hp with hp | hp; exact hord9 q (.tail _ (List.mem_append_right _ hq0)) p hp; exact hord q hq0 p hp))
       (case b1 => exact hj9)
       (case b2 => (dsimp only; omega))
       (case b3 => (simp only [List.length_append, List.length_cons, List.length_nil]; omega))
       (case da => (dsimp only; exact DatAll.snoc9 (hds.mono sub_m3) (DatIn.list (List.mem_append_left _ (List.mem_append_left _ hra9)) (hds9.mono sub_m4))))
       (case eq => exact arr_step_op hq hd hq9)
       (case hm => (dsimp only; omega)))
    | (refine' ret _ _ us nu (j + 1) _ _ _ (_ :: dyn) _ _ rfl ?b1 ?b2 ?q ?da ?b3 (.head _) ?ord ?lt ?F ?N
       (case F => k_asm)
       (case N => k_asm)
       (case b1 => omega)
       (case b2 => omega)
       (case b3 => omega)
       (case q => (rw [arr_end_cl hq hd]))
       (case da => (rw [arr_end_cl hq hd]; exact hds.mono (fun p hp => .tail _ hp)))
       (case ord => (intro q hq0 p hp; rcases List.mem_cons.mp hp with rfl | hp; exact hfa q hq0; exact hord q hq0 p hp))
       (case lt => exact lt_cons (by assumption)))
    | (refine' ret _ _ us nu j _ _ _ (_ :: dyn) _ _ rfl ?b1 ?b2 ?q ?da ?b3 (.head _) ?ord ?lt ?F ?N
       (case F => k_asm)
       (case N => k_asm)
       (case b1 => omega)
       (case b2 => omega)
       (case b3 => omega)
       (case q => (rw [arr_end_nil hq hd]))
       (case da => (rw [arr_end_nil hq hd]; exact hds.mono (fun p hp => .tail _ hp)))
       (case ord => (intro q hq0 p hp; rcases List.mem_cons.mp hp with rfl | hp; exact hfa q hq0; exact hord q hq0 p hp))
       (case lt => exact lt_cons (by assumption)))
    | (refine' WEnd.intro ?F ?N (us ++ [_], nu + 1, dyn, j + 1, _, ds ++ [dk9]) _ (fun p hp => hp) ?hk ⟨?e, hoff, hfa, hord, ?b1, ?b2, ?b3, ?da, ?eq⟩ ?hm
       (case F => k_asm)
       (case N => k_asm)
       (case hk => kst_all)
       (case e => exact rfl)
       (case b1 => (dsimp only; omega))
       (case b2 => (dsimp only; omega))
       (case b3 => (simp only [List.length_append, List.length_cons, List.length_nil]; omega))
       (case da => (dsimp only; exact DatAll.snoc9 hds (htd9.mono (fun p hp => List.mem_append_right _ hp))))
       (case eq => (dsimp only; rw [hdk9]; exact arr_step_go hq hd (by simp) (by simp)))
       (case hm => (dsimp only; omega)))
    | (exfalso; omega)
end
section
local macro_rules | `(tactic| k_room) => `(tactic| ktr_room)
local macro_rules | `(tactic| k_units) => `(tactic| ktr_units)
local macro_rules | `(tactic| k_all) => `(tactic| assumption)
local macro_rules | `(tactic| walk_at "FPost") => `(tactic| dsimp only [FPost])
local macro_rules | `(tactic| walk_at "pyIter ref") => `(tactic| k_extra "mine iter")
local macro_rules | `(tactic| walk_at "call builtin:len") => `(tactic| ((with_reducible show wpAny _ _ (call (Value.builtin "len") [Value.ref _]) _ _ _); k_dflt (refine' my_len ?N ?m ?z ?_; (case N => k_asm); (case m => first | assumption | k_mem); (case z => omega))))
local macro_rules | `(tactic| walk_at "subscriptTail") => `(tactic| ((with_reducible show wpAny _ _ (subscriptTail _ _ (Value.ref _) (Value.int _ _)) _ _ _); k_dflt (refine' my_item ?N ?m ?v ?k ?i ?_ ?s; (case N => k_asm); (case m => first | assumption | exact List.mem_cons_of_mem _ (by assumption) | k_mem); (case v => assumption); (case k => rfl); (case i => omega); (case s => with_unfolding_all rfl))))
theorem law_outrun_ok {LS : List PySem.Str} {w : World} {mean : ExcName → Option Value} {mg mb : PySem.Str → Option Value} {dp un : Nat} {gd : Option (List Code)} {cn : PySem.Str} {nm : List (PySem.Str × NameKind)} {ig ic : Bool} {mo : List (PySem.Str × Const)} {a : Addr} {ccd : Value} {cl : List (PySem.Str × Addr)} {outer : List Env} {A₀ : Around} {base h₀ : Heap} {L : Addr} {m : PySem.Str → Option Value} {s : Shared}
    {Q E : Value → Shared → Prop} {lt : Addr} {vs : List Value} {n : Nat} {ts : List Tk} {news nt : List (Addr × Obj)}
    (B : Below A₀ base outer h₀) (F : Fr h₀ L s.heap m) (X : (pre.heap_1 w.params).In h₀) (N : News h₀ L s.heap news) (T : Top topProg LS mean mg mb h₀)
    (hdp : dp < 890) (hun : un < 8900) (hlt : (lt, listOf vs.toArray n) ∈ news) (hts : TokAll nt vs ts) (hsub : ∀ p ∈ nt, p ∈ news) (hvl : vs.length ≤ 1000)
    (ret : ∀ (i : Int) ti h' tk', i = (outF 0 ts : Nat) → Fr h₀ L h' m → News h₀ L h' news → Q (.int i ti) { s with heap := h', toks := tk' }) :
    wpAny (model PySem.Challenge.rw_fp5016_01.row.prog w) (ktrTop dp un gd cn (fsc nm ig ic mo) L a ccd cl outer) (call (.ref 711) [.ref lt]) Q E s := by
  revert X; k_fill; intro X
  refine wpAny_call ?_
  k_with "mine iter" =>
    k_dflt (
      refine' my_range1 (n := vs.length) (fun (c : Int × Tok) => [(Str.ofString "tokens", Value.ref lt), (Str.ofString "depth", Value.int c.1 c.2)]) (fun i c nx => nx = news ∧ 0 ≤ c.1 ∧ c.1 ≤ i ∧ outF 0 ts = i + outF c.1 (ts.drop i)) (0, _) ?hr ?hb ?hh ?hn ?F ?N ?hk ?hkx ?hj (fun i t c u nx h tk own hi hoff hJ F9 N9 => ?_) (fun c u nx h tk hJ F9 N9 => ?_)
      (case hr => assumption)
      (case hb => rfl)
      (case hh => rfl)
      (case hn => omega)
      (case F => k_asm)
      (case N => k_asm)
      (case hk => kst_all)
      (case hkx => (intro c p hp; simp only [List.mem_cons, List.not_mem_nil, or_false] at hp; rcases hp with rfl | rfl <;> (dsimp only; decide +kernel)))
      (case hj => exact ⟨rfl, Int.le_refl _, Int.le_refl _, (Nat.zero_add _).symm⟩)
      all_goals obtain ⟨d, td⟩ := c
      all_goals obtain ⟨hnx, hd0, hdi, hq⟩ := hJ
      all_goals subst hnx
      all_goals dsimp only [kstB] at hd0 hdi hq F9 N9
      all_goals try (refine one_tok hts i (fun v tkk hjv hv htk hd => ?_) (fun hge hd => absurd hi (Nat.not_lt.mpr hge)))
      all_goals try (have hmem := mem_of N9 hlt (fun p hp => List.mem_append_left _ hp))
      all_goals try k_fold
      all_goals try (rcases htk with t9 | t9 | _ | ⟨la9, wd9, t19, t29, n9, hm9⟩)
      all_goals (try rw [tx_op] at hv)
      all_goals (try rw [tx_cl] at hv)
      all_goals (try have hm8 := mem_of N9 (hsub _ hm9) (fun p hp => List.mem_append_left _ hp)))
  k_enter
  k_steps
  all_goals first
    | (refine' ret _ _ _ _ ?e ?F ?N
       (case F => k_asm)
       (case N => k_asm)
       (case e => (rw [out_end hq (List.drop_eq_nil_of_le (Nat.le_of_eq hts.length.symm))])))
    | (refine' ret _ _ _ _ ?e ?F ?N
       (case F => k_asm)
       (case N => exact news_sub (by k_asm) (fun p hp => .tail _ (List.mem_append_left _ hp)))
       (case e => (rw [out_stop hq hd (by simp only [dl]; omega)])))
    | (refine' FEnd.intro ?F ?N (d + 1, _) _ ?sub ?ho hoff ?hk ⟨rfl, ?b0, ?b1, ?eq⟩
       (case F => k_asm)
       (case N => k_asm)
       (case sub => first | exact fun p hp => List.mem_append_left _ hp | exact fun p hp => .tail _ (List.mem_append_left _ hp))
       (case ho => first | exact fun p hp => List.mem_append_right _ hp | exact fun p hp => .tail _ (List.mem_append_right _ hp))
       (case hk => kst_all)
       (case b0 => (dsimp only; omega))
       (case b1 => (dsimp only; omega))
       (case eq => exact out_go (k := Tk.op) hq hd (by simp only [dl]; omega)))
    | (refine' FEnd.intro ?F ?N (d + -1, _) _ ?sub ?ho hoff ?hk ⟨rfl, ?b0, ?b1, ?eq⟩
       (case F => k_asm)
       (case N => k_asm)
       (case sub => first | exact fun p hp => List.mem_append_left _ hp | exact fun p hp => .tail _ (List.mem_append_left _ hp))
       (case ho => first | exact fun p hp => List.mem_append_right _ hp | exact fun p hp => .tail _ (List.mem_append_right _ hp))
       (case hk => kst_all)
       (case b0 => (dsimp only; omega))
       (case b1 => (dsimp only; omega))
       (case eq => exact out_go (k := Tk.cl) hq hd (by simp only [dl]; omega)))
    | (refine' FEnd.intro ?F ?N (d + 0, _) _ ?sub ?ho hoff ?hk ⟨rfl, ?b0, ?b1, ?eq⟩
       (case F => k_asm)
       (case N => k_asm)
       (case sub => first | exact fun p hp => List.mem_append_left _ hp | exact fun p hp => .tail _ (List.mem_append_left _ hp))
       (case ho => first | exact fun p hp => List.mem_append_right _ hp | exact fun p hp => .tail _ (List.mem_append_right _ hp))
       (case hk => kst_all)
       (case b0 => (dsimp only; omega))
       (case b1 => (dsimp only; omega))
       (case eq => exact out_go (k := _) hq hd (by simp only [dl]; omega)))
    | (exfalso; omega)
end
section
local macro_rules | `(tactic| k_room) => `(tactic| ktr_room)
local macro_rules | `(tactic| k_units) => `(tactic| ktr_units)
local macro_rules | `(tactic| k_all) => `(tactic| first | assumption | (refine List.forall_mem_cons.mpr ⟨by k_ne, ?_⟩; k_all))
local macro_rules | `(tactic| walk_at "FPost") => `(tactic| dsimp only [FPost])
local macro_rules | `(tactic| walk_at "call builtin:str.join") => `(tactic| (k_dflt (refine' my_joinones ?N ?m ?c ?d ?s ?z ?_; (case N => k_asm); (case m => k_mem); (case c => rfl); (case d => rfl); (case s => assumption); (case z => omega)); intro _ _))
local macro_rules | `(tactic| walk_at "subscriptTail") => `(tactic| ((with_reducible show wpAny _ _ (subscriptTail _ _ (Value.ref _) (Value.int _ _)) _ _ _); k_dflt (first
  | (refine' my_lastK ?k ?N ?m ?z ?_ ?s; (case k => exact rfl); (case N => k_asm); (case m => k_mem); (case z => omega); (case s => with_unfolding_all rfl))
  | (refine' my_out ?hA ?N ?m ?v ?k ?_ ?s; (case hA => rfl); (case N => k_asm); (case m => first | assumption | k_mem); (case v => rfl); (case k => first | exact Or.inl rfl | exact Or.inr rfl); (case s => with_unfolding_all rfl); intro h9 tk9 e9 hx9; dsimp only)
  | (refine' my_item0 ?k ?N ?m ?_ ?s; (case k => exact rfl); (case N => k_asm); (case m => first | assumption | k_mem); (case s => with_unfolding_all rfl))
  | (refine' my_item ?N ?m ?v ?k ?i ?_ ?s; (case N => k_asm); (case m => first | assumption | k_mem); (case v => first | assumption | rfl); (case k => rfl); (case i => omega); (case s => with_unfolding_all rfl)))))
local macro_rules | `(tactic| walk_at "call builtin:list.pop") => `(tactic| (k_dflt (first
  | (refine' my_pop ?F ?N ?U ?z ?_; (case F => k_asm); (case N => k_asm); (case U => k_upd); (case z => omega); intro h' F' N'; (try k_sweep))
  | (refine' my_popout ?hA ?N ?m ?_; (case hA => rfl); (case N => k_asm); (case m => k_mem); intro h9 tk9 e9 hx9; dsimp only))))
local macro_rules | `(tactic| walk_at "leaving ref") => `(tactic| k_extra "mine leave")
local macro_rules | `(tactic| walk_at "compareOp Eq ref ref") => `(tactic| k_dflt (refine' eqid_B ?u ?F ?X ?I ?J ?s ?o ?b ?_; (case u => k_units); (case F => k_asm); (case X => k_asm); (case I => k_inst); (case J => k_inst); (case s => k_is); (case o => k_is); (case b => first | exact decide_eq_true rfl | exact decide_eq_false (by decide))))
local macro_rules | `(tactic| walk_at "exec For Name Name cons nil") => `(tactic| (k_here; (rename Fr _ _ _ _ => lF'); (with_unfolding_all refine' For_invVF lF' ?k1 ?k2 ?_; (case k1 => exact rfl); (case k2 => exact rfl); k_whole)))
local macro_rules | `(tactic| walk_at "pyIter str") => `(tactic| k_extra "mine iter")
local macro_rules | `(tactic| walk_at "call ref") => `(tactic| k_extra "mine call")
local macro_rules | `(tactic| walk_at "compareOp Eq str str") => `(tactic| k_dflt (refine' my_eqstr (b := ?b) ?h ?_; (case h => first | exact (by decide +kernel : _ = true) | exact (by decide +kernel : _ = false) | exact sign_ne (by assumption) ob | exact sign_ne (by assumption) cb | exact sign_ne (by assumption) cm | exact sign_ne (by assumption) qt | exact sign_ne (by assumption) bs)))
local macro_rules | `(tactic| walk_at "compareOp In str ref") => `(tactic| k_dflt (refine' in_no ?N ?m ?a ?b ?_; (case N => k_asm); (case m => k_mem); (case a => assumption); (case b => assumption)))
local macro_rules | `(tactic| walk_at "callWith ref") => `(tactic| k_extra "mine fn")
local macro_rules | `(tactic| walk_at "FnAt") => `(tactic| k_extra "mine fnat")
local macro_rules | `(tactic| walk_at "call builtin:list.append") => `(tactic| (k_dflt (refine' my_append ?F ?N ?U ?z ?_; (case F => k_asm); (case N => k_asm); (case U => k_upd); (case z => first | omega | (simp only [List.length_append, List.length_cons, List.length_nil]; omega))); intro h' F' N'; (try k_sweep)))
theorem law_parse_ok {LS : List PySem.Str} {w : World} {mean : ExcName → Option Value} {mg mb : PySem.Str → Option Value} {dp un : Nat} {gd : Option (List Code)} {cn : PySem.Str} {nm : List (PySem.Str × NameKind)} {ig ic : Bool} {mo : List (PySem.Str × Const)} {a : Addr} {ccd : Value} {cl : List (PySem.Str × Addr)} {outer : List Env} {A₀ : Around} {base h₀ : Heap} {L : Addr} {m : PySem.Str → Option Value} {s : Shared}
    {Q E : Value → Shared → Prop} {hl f : Addr} {nh : Nat} {core : List (Addr × Obj)} {oc : Value} {od : Option Addr} {fd : FuncData} {sl : Array (Option Value)} {x : PySem.Str} {t : Tok} {news : List (Addr × Obj)}
    (B : Below A₀ base outer h₀) (F : Fr h₀ L s.heap m) (X : (pre.heap_1 w.params).In h₀) (N : News h₀ L s.heap ((hl, listOf ([] : List Value).toArray nh) :: news)) (T : Top topProg LS mean mg mb h₀)
    (hdp : dp < 870) (hun : un < 8700) (hx : x.length ≤ 60) (M : MarkSpec PySem.Challenge.rw_fp5016_01.row.prog w (pre.heap_1 w.params) topProg LS f hl core) (hcore : ∀ p ∈ core, p ∈ news) (hfn : (f, (⟨oc, od, .func fd, sl⟩ : Obj)) ∈ news) (hne : ∀ p ∈ news, p.1 ≠ hl)
    (ret : ∀ v us n2 dyn h' tk' S d rest, trun [[]] (toks x.cps.toList) = some S → S ≠ [] → fin [] S = d :: rest → DatIn dyn v d → StrsAre us ((wordsOf (toks x.cps.toList)).map tx) → Fr h₀ L h' m → News h₀ L h' ((hl, listOf us.toArray n2) :: (dyn ++ news)) → Q v { s with heap := h', toks := tk' })
    (err : ∀ G e us n2 ts1 ts2 h' tk', toks x.cps.toList = ts1 ++ ts2 → (trun [[]] ts1 = some [] ∨ (ts2 = [] ∧ ∃ S, trun [[]] ts1 = some S ∧ fin [] S = [])) → StrsAre us ((wordsOf ts1).map tx) → Fr h₀ L G m →
      RaisedSN base G (envX cn (fsc nm ig ic mo) L a ccd cl :: outer) e (.type "IndexError") ((hl, listOf us.toArray n2) :: news) h' → G.UpToSlots h' → E (.ref e) { s with heap := h', toks := tk' }) :
    wpAny (model PySem.Challenge.rw_fp5016_01.row.prog w) (ktrTop dp un gd cn (fsc nm ig ic mo) L a ccd cl outer) (call (.ref 670) [.str x t, .ref f]) Q E s := by
  revert X; k_fill; intro X
  refine wpAny_call ?_
  k_with "mine iter" =>
    k_dflt (
      rename Fr _ _ _ _ => lF0
      rename News _ _ _ _ => lN0
      refine' my_text1 (?sa, ?r0, ?va) (pps f) (PJ x hl news) ⟨.out, [], [], ?va, 0, [(?r0, [], 0, [])], 0, [], nh, [], []⟩ ?hh ?F ?N ?hk ?hkx ?hj (fun i k t c u nx h tk own hi hoff hJ F9 N9 => Held.h ?_) (fun c u nx h tk hJ F9 N9 => Held.h ?_)
      (case hh => rfl)
      (case F => k_asm)
      (case N => exact news_perm (by k_asm))
      (case hk => (dsimp only [pps, Mode.ref]; kst_all))
      (case hkx => (intro c p hp; simp only [pps, List.mem_cons, List.not_mem_nil, or_false] at hp; rcases hp with rfl | rfl | rfl | rfl <;> (dsimp only; decide +kernel)))
      (case hj => exact ⟨rfl, PInv.init (sep0 (by assumption) (by assumption) (by assumption) hne)⟩))
  k_enter
  k_with "mine leave" =>
    k_dflt (
      refine' leave_newS (news := (hl, listOf hv.toArray nh) :: news) ?K ?x ?F ?N (fun h9 R9 RK9 U9 => Held.h ?_)
      (case x => assumption)
      (case F => k_asm)
      (case K => assumption)
      (case N => exact news_sub (by k_asm) (by intro p hp; simp only [List.mem_cons, List.mem_append] at hp ⊢; rcases hp with h | h <;> simp [h])))
  k_with "mine sub" => ((try dsimp only [led]); (try simp only [chain_pop, srefs_pop, chain, srefs, List.append_nil, List.nil_append, List.cons_append]); (repeat' (first | refine sub_c ?_ ?_ | refine sub_a ?_ ?_)); (all_goals first | k_mem | (intro p hp; simp only [hp, List.mem_cons, List.mem_append, true_or, or_true])))
  k_with "mine hk" => (dsimp only [pps, Mode.ref]; kst_all)
  k_with "mine fn" => k_dflt (refine' callWith_F (q := f) ?k1 ?_; (case k1 => exact FnAt.of (oc := oc) (od := od) (fd := fd) (sl := sl) (by k_asm) (by simp only [hfn, List.mem_cons, List.mem_append, true_or, or_true])); k_whole)
  k_with "mine fnat" => k_dflt (exact FnAt.of (oc := oc) (od := od) (fd := fd) (sl := sl) (by k_asm) (by simp only [hfn, List.mem_cons, List.mem_append, true_or, or_true]))
  k_with "mine call" =>
    k_dflt (
      refine' M ?B ?F ?X ?N ?T ?d ?u ?U ?core ?z (fun r9 t19 n9 h9 tk9 hlt9 F9 N9 => ?_)
      (case B => k_asm)
      (case F => k_asm)
      (case X => k_asm)
      (case N => k_asm)
      (case T => k_asm)
      (case d => (dsimp only [ktrTop]; omega))
      (case u => (have hcL9 := cLine_is; (simp only [units_in1, units_deeper, Around.mark_units, units_caller] at *); (try dsimp only [ktrTop] at *); omega))
      (case U => k_upd)
      (case core => (intro p hp; simp only [hcore p hp, List.mem_cons, List.mem_append, true_or, or_true]))
      (case z => omega)
      all_goals (k_lt hlt9))
  k_with "mine end" => (refine sub_c ?_ ?_; (simp only [List.mem_cons, true_or, or_true]); (intro p hp; simp only [List.mem_cons, List.mem_append] at hp ⊢; rcases hp with (hp | hp) | hp <;> simp only [hp, true_or, or_true]))
  k_steps
  · obtain ⟨md, v, vv, va, nv, S, ns, hv, nh, dyn, ts⟩ := c
    obtain ⟨hnx, hI⟩ := hJ
    subst hnx
    refine ⟨?_⟩
    replace hI := PInv.owned hI hoff
    obtain ⟨hd, hi60⟩ := sign_of hx hi
    obtain ⟨b1, b2, b3, b4⟩ := hI.get
    have hvv : StrsAre vv (v.map one) := hI.vv
    clear hoff hi lF0 lN0
    dsimp only at hI
    rcases md with _ | _ | _ | _
    · -- out
      rcases eq_pick (k := k) [123, 125, 44, 34] with ⟨c, hc, rfl⟩ | hk
      · simp only [List.mem_cons, List.not_mem_nil, or_false] at hc
        rcases hc with rfl | rfl | rfl | rfl
        · rcases S with _ | ⟨⟨r, us, n, ds⟩, S⟩
          · -- out123z
            obtain ⟨⟨f1, f2, f3⟩, g1, g2, g3⟩ := hI.facts0
            dsimp only [kstB, pps, led, Mode.ref, chain, srefs, List.cons_append, List.nil_append] at F9 N9
            (try k_fold)
            k_steps
            all_goals exact ⟨err _ _ hv _ ts _ _ _ hI.q (.inl hI.run) hI.hv (by k_asm) R9 U9⟩
          · -- out123s
            obtain ⟨b5, b6, b7⟩ := hI.get1
            obtain ⟨⟨f1, f2, f3, f4, f5, f6⟩, g1, g2, g3, g4⟩ := hI.facts1
            dsimp only [kstB, pps, led, Mode.ref, chain, srefs, List.cons_append] at F9 N9
            simp only [List.append_nil] at N9
            (try k_fold)
            k_steps
            · (refine' PInv.fin (f := f) ?F ?N _ (hI.opn (m0 := 0) hd (fresh2 (by assumption))) ?j ?sub ?ho ?hk; (case F => k_asm); (case N => k_asm); (case j => omega); (case sub => k_extra "mine sub"); (case ho => k_extra "mine sub"); (case hk => k_extra "mine hk"))
        · rcases S with _ | ⟨⟨r, us, n, ds⟩, S⟩
          · -- out125z
            obtain ⟨⟨f1, f2, f3⟩, g1, g2, g3⟩ := hI.facts0
            dsimp only [kstB, pps, led, Mode.ref, chain, srefs, List.cons_append, List.nil_append] at F9 N9
            (try k_fold)
            k_steps
            all_goals exact ⟨err _ _ hv _ ts _ _ _ hI.q (.inl hI.run) hI.hv (by k_asm) R9 U9⟩
          · -- out125s
            obtain ⟨b5, b6, b7⟩ := hI.get1
            obtain ⟨⟨f1, f2, f3, f4, f5, f6⟩, g1, g2, g3, g4⟩ := hI.facts1
            dsimp only [kstB, pps, led, Mode.ref, chain, srefs, List.cons_append] at F9 N9
            simp only [List.append_nil] at N9
            (try k_fold)
            k_steps
            · (refine' PInv.fin (f := f) ?F ?N _ (hI.cls (n' := ns + 1) hd) ?j ?sub ?ho ?hk; (case F => k_asm); (case N => k_asm); (case j => omega); (case sub => k_extra "mine sub"); (case ho => k_extra "mine sub"); (case hk => k_extra "mine hk"))
        · -- out44
          obtain ⟨⟨f1, f2, f3⟩, g1, g2, g3⟩ := hI.factsG
          dsimp only [kstB, pps, led, Mode.ref, List.cons_append] at F9 N9
          (try k_fold)
          k_steps
          · (refine' PInv.fin (f := f) ?F ?N _ (hI.skip hd) ?j ?sub ?ho ?hk; (case F => k_asm); (case N => k_asm); (case j => omega); (case sub => k_extra "mine sub"); (case ho => k_extra "mine sub"); (case hk => k_extra "mine hk"))
        · -- out34
          obtain ⟨⟨f1, f2, f3⟩, g1, g2, g3⟩ := hI.factsG
          dsimp only [kstB, pps, led, Mode.ref, List.cons_append] at F9 N9
          (try k_fold)
          k_steps
          · (refine' PInv.fin (f := f) ?F ?N _ (hI.quote hd (fresh1 (by assumption))) ?j ?sub ?ho ?hk; (case F => k_asm); (case N => k_asm); (case j => omega); (case sub => k_extra "mine sub"); (case ho => k_extra "mine sub"); (case hk => k_extra "mine hk"))
      · have h123 : k ≠ 123 := hk 123 (by decide)
        have h125 : k ≠ 125 := hk 125 (by decide)
        have h44 : k ≠ 44 := hk 44 (by decide)
        have h34 : k ≠ 34 := hk 34 (by decide)
        clear hk
        -- outgo
        obtain ⟨⟨f1, f2, f3⟩, g1, g2, g3⟩ := hI.factsG
        dsimp only [kstB, pps, led, Mode.ref, List.cons_append] at F9 N9
        (try k_fold)
        k_steps
        · (refine' PInv.fin (f := f) ?F ?N _ (hI.bgn hd h123 h125 h44 h34 (fresh1 (by assumption))) ?j ?sub ?ho ?hk; (case F => k_asm); (case N => k_asm); (case j => omega); (case sub => k_extra "mine sub"); (case ho => k_extra "mine sub"); (case hk => k_extra "mine hk"))
    · -- str
      rcases eq_pick (k := k) [34, 92] with ⟨c, hc, rfl⟩ | hk
      · simp only [List.mem_cons, List.not_mem_nil, or_false] at hc
        rcases hc with rfl | rfl
        · rcases S with _ | ⟨⟨r, us, n, ds⟩, S⟩
          · -- str34z
            obtain ⟨⟨f1, f2, f3⟩, g1, g2, g3⟩ := hI.facts0
            dsimp only [kstB, pps, led, Mode.ref, chain, srefs, List.cons_append, List.nil_append] at F9 N9
            (try k_fold)
            k_steps
            all_goals exact ⟨err _ _ hv _ ts _ _ _ hI.q (.inl hI.run) hI.hv (by k_asm) R9 U9⟩
          · -- str34s
            obtain ⟨b5, b6, b7⟩ := hI.get1
            obtain ⟨⟨f1, f2, f3, f4, f5, f6⟩, g1, g2, g3, g4⟩ := hI.facts1
            dsimp only [kstB, pps, led, Mode.ref, chain, srefs, List.cons_append] at F9 N9
            simp only [List.append_nil] at N9
            (try k_fold)
            k_steps
            · (refine' PInv.fin (f := f) ?F ?N _ (hI.leaf (fresh2 hlt9) (left_sleaf hd)) ?j ?sub ?ho ?hk; (case F => k_asm); (case N => k_asm); (case j => omega); (case sub => k_extra "mine sub"); (case ho => k_extra "mine sub"); (case hk => k_extra "mine hk"))
        · -- str92
          obtain ⟨⟨f1, f2, f3⟩, g1, g2, g3⟩ := hI.factsG
          dsimp only [kstB, pps, led, Mode.ref, List.cons_append] at F9 N9
          (try k_fold)
          k_steps
          · (refine' PInv.fin (f := f) ?F ?N _ (hI.esc hd) ?j ?sub ?ho ?hk; (case F => k_asm); (case N => k_asm); (case j => omega); (case sub => k_extra "mine sub"); (case ho => k_extra "mine sub"); (case hk => k_extra "mine hk"))
      · have h34 : k ≠ 34 := hk 34 (by decide)
        have h92 : k ≠ 92 := hk 92 (by decide)
        clear hk
        -- strgo
        obtain ⟨⟨f1, f2, f3⟩, g1, g2, g3⟩ := hI.factsG
        dsimp only [kstB, pps, led, Mode.ref, List.cons_append] at F9 N9
        (try k_fold)
        k_steps
        · (refine' PInv.fin (f := f) ?F ?N _ (hI.sgo hd h34 h92) ?j ?sub ?ho ?hk; (case F => k_asm); (case N => k_asm); (case j => omega); (case sub => k_extra "mine sub"); (case ho => k_extra "mine sub"); (case hk => k_extra "mine hk"))
    · -- esc
      -- escgo
      obtain ⟨⟨f1, f2, f3⟩, g1, g2, g3⟩ := hI.factsG
      dsimp only [kstB, pps, led, Mode.ref, List.cons_append] at F9 N9
      (try k_fold)
      k_steps
      · (refine' PInv.fin (f := f) ?F ?N _ (hI.ego hd) ?j ?sub ?ho ?hk; (case F => k_asm); (case N => k_asm); (case j => omega); (case sub => k_extra "mine sub"); (case ho => k_extra "mine sub"); (case hk => k_extra "mine hk"))
    · -- val
      rcases eq_pick (k := k) [125, 44] with ⟨c, hc, rfl⟩ | hk
      · simp only [List.mem_cons, List.not_mem_nil, or_false] at hc
        rcases hc with rfl | rfl
        · rcases S with _ | ⟨⟨r, us, n, ds⟩, S⟩
          · -- val125z
            obtain ⟨⟨f1, f2, f3⟩, g1, g2, g3⟩ := hI.facts0
            dsimp only [kstB, pps, led, Mode.ref, chain, srefs, List.cons_append, List.nil_append] at F9 N9
            (try k_fold)
            k_steps
            all_goals exact ⟨err _ _ hv _ ts _ _ _ hI.q (.inl hI.run) hI.hv (by k_asm) R9 U9⟩
          · -- val125s
            obtain ⟨b5, b6, b7⟩ := hI.get1
            obtain ⟨⟨f1, f2, f3, f4, f5, f6⟩, g1, g2, g3, g4⟩ := hI.facts1
            dsimp only [kstB, pps, led, Mode.ref, chain, srefs, List.cons_append] at F9 N9
            simp only [List.append_nil] at N9
            (try k_fold)
            k_steps
            · (refine' PInv.fin (f := f) ?F ?N _ ((hI.nul hd rfl (null_is rfl (by assumption))).cls (n' := ns + 1) hd) ?j ?sub ?ho ?hk; (case F => k_asm); (case N => k_asm); (case j => omega); (case sub => k_extra "mine sub"); (case ho => k_extra "mine sub"); (case hk => k_extra "mine hk"))
            · (refine' PInv.fin (f := f) ?F ?N _ ((hI.leaf (fresh2 hlt9.2) (left_vleaf hd rfl (null_not rfl (by assumption)))).cls (n' := ns + 1) hd) ?j ?sub ?ho ?hk; (case F => k_asm); (case N => k_asm); (case j => omega); (case sub => k_extra "mine sub"); (case ho => k_extra "mine sub"); (case hk => k_extra "mine hk"))
        · rcases S with _ | ⟨⟨r, us, n, ds⟩, S⟩
          · -- val44z
            obtain ⟨⟨f1, f2, f3⟩, g1, g2, g3⟩ := hI.facts0
            dsimp only [kstB, pps, led, Mode.ref, chain, srefs, List.cons_append, List.nil_append] at F9 N9
            (try k_fold)
            k_steps
            all_goals exact ⟨err _ _ hv _ ts _ _ _ hI.q (.inl hI.run) hI.hv (by k_asm) R9 U9⟩
          · -- val44s
            obtain ⟨b5, b6, b7⟩ := hI.get1
            obtain ⟨⟨f1, f2, f3, f4, f5, f6⟩, g1, g2, g3, g4⟩ := hI.facts1
            dsimp only [kstB, pps, led, Mode.ref, chain, srefs, List.cons_append] at F9 N9
            simp only [List.append_nil] at N9
            (try k_fold)
            k_steps
            · (refine' PInv.fin (f := f) ?F ?N _ ((hI.nul hd rfl (null_is rfl (by assumption))).skip hd) ?j ?sub ?ho ?hk; (case F => k_asm); (case N => k_asm); (case j => omega); (case sub => k_extra "mine sub"); (case ho => k_extra "mine sub"); (case hk => k_extra "mine hk"))
            · (refine' PInv.fin (f := f) ?F ?N _ ((hI.leaf (fresh2 hlt9.2) (left_vleaf hd rfl (null_not rfl (by assumption)))).skip hd) ?j ?sub ?ho ?hk; (case F => k_asm); (case N => k_asm); (case j => omega); (case sub => k_extra "mine sub"); (case ho => k_extra "mine sub"); (case hk => k_extra "mine hk"))
      · have h125 : k ≠ 125 := hk 125 (by decide)
        have h44 : k ≠ 44 := hk 44 (by decide)
        clear hk
        -- valgo
        obtain ⟨⟨f1, f2, f3⟩, g1, g2, g3⟩ := hI.factsG
        dsimp only [kstB, pps, led, Mode.ref, List.cons_append] at F9 N9
        (try k_fold)
        k_steps
        · (refine' PInv.fin (f := f) ?F ?N _ (hI.vgo hd h125 h44) ?j ?sub ?ho ?hk; (case F => k_asm); (case N => k_asm); (case j => omega); (case sub => k_extra "mine sub"); (case ho => k_extra "mine sub"); (case hk => k_extra "mine hk"))
  · obtain ⟨md, v, vv, va, nv, S, ns, hv, nh, dyn, ts⟩ := c
    obtain ⟨hnx, hI⟩ := hJ
    subst hnx
    refine ⟨?_⟩
    dsimp only at hI ⊢
    have hend := hI.at_end
    obtain ⟨b1, b2, b3, b4⟩ := hI.get
    clear lF0 lN0
    dsimp only at hend
    rcases S with _ | ⟨e0, S⟩
    · dsimp only [kstB, pps, led, chain, srefs, List.cons_append, List.nil_append] at F9 N9
      (try k_fold)
      k_steps
      all_goals exact ⟨err _ _ hv _ ts [] _ _ (by rw [hend, List.append_nil]) (.inl hI.run) hI.hv (by k_asm) R9 U9⟩
    · obtain ⟨r0, vs0, n0, h1, h2, h3⟩ := hI.root
      dsimp only [kstB, pps, led, List.cons_append] at F9 N9
      have hm0 := mem_of N9 h2 (fun p hp => .tail _ (.tail _ (.tail _ (List.mem_append_left _ hp))))
      rcases vs0 with _ | ⟨v0, vs0⟩
      · (try k_fold)
        k_steps
        all_goals exact ⟨err _ _ hv _ ts [] _ _ (by rw [hend, List.append_nil]) (.inr ⟨rfl, _, hI.run, dat_no h3⟩) hI.hv (by k_asm) R9 U9⟩
      · obtain ⟨d0, rest0, h4, h5⟩ := dat_hd h3
        (try k_fold)
        k_steps
        all_goals (refine' ret _ hv nh (chain [] (e0 :: S) ++ dyn) _ _ _ d0 rest0 ?a ?b h4 h5 ?c ?F ?N; (case a => (rw [hend]; exact hI.run)); (case b => simp [dats]); (case c => (rw [hend]; exact hI.hv)); (case F => k_asm); (case N => exact news_sub (by k_asm) (by k_extra "mine end")))
end
section
local macro_rules | `(tactic| k_room) => `(tactic| ktr_room)
local macro_rules | `(tactic| k_units) => `(tactic| ktr_units)
local macro_rules | `(tactic| k_all) => `(tactic| first | assumption | (refine List.forall_mem_cons.mpr ⟨by k_ne, ?_⟩; k_all))
local macro_rules | `(tactic| k_mem) => `(tactic| assumption)
local macro_rules | `(tactic| walk_at "call builtin:list.append") => `(tactic| (k_dflt (refine' my_append ?F ?N ?U ?z ?_; (case F => k_asm); (case N => k_asm); (case U => assumption); (case z => omega)); intro h' F' N'))
theorem reader_new {LS : List PySem.Str} {w : World} {mean : ExcName → Option Value} {mg mb : PySem.Str → Option Value} {dp un : Nat} {gd : Option (List Code)} {cn : PySem.Str} {nm : List (PySem.Str × NameKind)} {ig ic : Bool} {mo : List (PySem.Str × Const)} {a : Addr} {ccd : Value} {cl : List (PySem.Str × Addr)} {outer : List Env} {A₀ : Around} {base h₀ : Heap} {L : Addr} {m : PySem.Str → Option Value} {s : Shared}
    {Q E : Value → Shared → Prop} {hl : Addr} {us : List Value} {nh : Nat} {news : List (Addr × Obj)}
    (B : Below A₀ base outer h₀) (F : Fr h₀ L s.heap m) (X : (pre.heap_1 w.params).In h₀) (C : CodeHd base 717 713) (N : News h₀ L s.heap ((hl, listOf us.toArray nh) :: (713, tabObj #[]) :: news)) (T : Top topProg LS mean mg mb h₀)
    (hn : ∀ p ∈ news, p.1 ≠ 713) (hhl : @Ne Nat hl 713)
    (hdp : dp < 890) (hun : un < 8900)
    (ret : ∀ f c' ce oc fo co fd fs od sl h' tk', MarkSpec PySem.Challenge.rw_fp5016_01.row.prog w (pre.heap_1 w.params) topProg LS f hl [(f, fo), (c', oc), (ce, co)] → fo = ⟨od, fs, .func fd, sl⟩ → Fr h₀ L h' m → (∀ p ∈ news, p.1 < ce) → @LT.lt Nat _ hl ce → @LT.lt Nat _ ce c' → @LT.lt Nat _ c' f → CodeMade oc →
      News h₀ L h' ((f, fo) :: (c', oc) :: (ce, co) :: (hl, listOf us.toArray nh) :: (713, tabObj (#[] ++ #[rawInt 467, rawInt 4, Value.ref c'])) :: news) → Q (.ref f) { s with heap := h', toks := tk' }) :
    wpAny (model PySem.Challenge.rw_fp5016_01.row.prog w) (ktrTop dp un gd cn (fsc nm ig ic mo) L a ccd cl outer) (call (.ref 718) [.ref hl]) Q E s := by
  revert X; k_fill; intro X
  refine wpAny_call ?_
  k_enter
  k_steps
  all_goals (refine' ret _ _ _ _ _ _ _ _ _ _ _ _ ?M rfl ?F ?l0 ?l1 ?l2 ?l3 ?c ?N)
  case F => k_asm
  case N => k_asm
  case l3 => omega
  case l2 => omega
  case l1 => omega
  case c => exact code_made (by assumption) (by assumption) (by kernel_rfl)
  case l0 => exact lt_l1 (by assumption)
  case M =>
    unfold MarkSpec
    intro mean mg mb dp un gd cn nm ig ic mo a ccd cl outer A₀ base h₀ L m s Q E wd t us nh news news' B F X N T hdp hun U9 hcore hz ret9
    have hf9 := hcore _ (.head _)
    have hc9 := hcore _ (.tail _ (.head _))
    have hce9 := hcore _ (.tail _ (.tail _ (.head _)))
    have hm9 := upd_mem U9
    clear hcore
    refine wpAny_call ?_
    kn_enter
    k_steps
    refine' ret9 _ _ _ _ _ ?l ?F ?N
    case F => k_asm
    case N => k_asm
    case l => assumption
theorem reader_hit {LS : List PySem.Str} {w : World} {mean : ExcName → Option Value} {mg mb : PySem.Str → Option Value} {dp un : Nat} {gd : Option (List Code)} {cn : PySem.Str} {nm : List (PySem.Str × NameKind)} {ig ic : Bool} {mo : List (PySem.Str × Const)} {a : Addr} {ccd : Value} {cl : List (PySem.Str × Addr)} {outer : List Env} {A₀ : Around} {base h₀ : Heap} {L : Addr} {m : PySem.Str → Option Value} {s : Shared}
    {Q E : Value → Shared → Prop} {hl : Addr} {us : List Value} {nh : Nat} {c' : Addr} {oc : Obj} {news : List (Addr × Obj)}
    (B : Below A₀ base outer h₀) (F : Fr h₀ L s.heap m) (X : (pre.heap_1 w.params).In h₀) (C : CodeHd base 717 713) (N : News h₀ L s.heap ((hl, listOf us.toArray nh) :: (713, tabObj (#[] ++ #[rawInt 467, rawInt 4, Value.ref c'])) :: (c', oc) :: news)) (T : Top topProg LS mean mg mb h₀)
    (hcm : CodeMade oc)
    (hdp : dp < 890) (hun : un < 8900)
    (ret : ∀ f ce fo co fd fs od sl h' tk', MarkSpec PySem.Challenge.rw_fp5016_01.row.prog w (pre.heap_1 w.params) topProg LS f hl [(f, fo), (c', oc), (ce, co)] → fo = ⟨od, fs, .func fd, sl⟩ → Fr h₀ L h' m → (∀ p ∈ news, p.1 < ce) → @LT.lt Nat _ hl ce → @LT.lt Nat _ c' ce → @LT.lt Nat _ ce f →
      News h₀ L h' ((f, fo) :: (ce, co) :: (hl, listOf us.toArray nh) :: (713, tabObj (#[] ++ #[rawInt 467, rawInt 4, Value.ref c'])) :: (c', oc) :: news) → Q (.ref f) { s with heap := h', toks := tk' }) :
    wpAny (model PySem.Challenge.rw_fp5016_01.row.prog w) (ktrTop dp un gd cn (fsc nm ig ic mo) L a ccd cl outer) (call (.ref 718) [.ref hl]) Q E s := by
  obtain ⟨vs9, t9, d9, e9⟩ := hcm
  revert X; k_fill; intro X
  refine wpAny_call ?_
  k_enter
  k_steps
  all_goals (refine' ret _ _ _ _ _ _ _ _ _ _ ?M rfl ?F ?l0 ?l1 ?l2 ?l3 ?N)
  case F => k_asm
  case N => k_asm
  case l3 => omega
  case l2 => omega
  case l1 => omega
  case l0 => exact lt_l2 (by assumption)
  case M =>
    unfold MarkSpec
    intro mean mg mb dp un gd cn nm ig ic mo a ccd cl outer A₀ base h₀ L m s Q E wd t us nh news news' B F X N T hdp hun U9 hcore hz ret9
    have hf9 := hcore _ (.head _)
    have hc9 := hcore _ (.tail _ (.head _))
    have hce9 := hcore _ (.tail _ (.tail _ (.head _)))
    have hm9 := upd_mem U9
    clear hcore
    refine wpAny_call ?_
    kn_enter
    k_steps
    refine' ret9 _ _ _ _ _ ?l ?F ?N
    case F => k_asm
    case N => k_asm
    case l => assumption
end
section
theorem parse_one {LS : List PySem.Str} {w : World} {mean : ExcName → Option Value} {mg mb : PySem.Str → Option Value} {dp un : Nat} {gd : Option (List Code)} {cn : PySem.Str} {nm : List (PySem.Str × NameKind)} {ig ic : Bool} {mo : List (PySem.Str × Const)} {a : Addr} {ccd : Value} {cl : List (PySem.Str × Addr)} {outer : List Env} {A₀ : Around} {base h₀ : Heap} {L : Addr} {m : PySem.Str → Option Value} {s : Shared}
    {Q E : Value → Shared → Prop} {hl f c' ce r1 D : Addr} {nh n1 : Nat} {oc co oD o7 : Obj} {od : Value} {fs : Option Addr} {fd : FuncData} {sl : Array (Option Value)} {x : PySem.Str} {t : Tok} {vs1 : List Value} {dyn1 news : List (Addr × Obj)}
    (B : Below A₀ base outer h₀) (F : Fr h₀ L s.heap m) (X : (pre.heap_1 w.params).In h₀) (N : News h₀ L s.heap ((f, ⟨od, fs, .func fd, sl⟩) :: (ce, co) :: (hl, listOf ([] : List Value).toArray nh) :: (713, o7) :: (c', oc) :: (D, oD) :: (r1, listOf vs1.toArray n1) :: (dyn1 ++ news))) (T : Top topProg LS mean mg mb h₀)
    (hdp : dp < 870) (hun : un < 8700) (hx : x.length ≤ 60) (M : MarkSpec PySem.Challenge.rw_fp5016_01.row.prog w (pre.heap_1 w.params) topProg LS f hl [(f, ⟨od, fs, .func fd, sl⟩), (c', oc), (ce, co)])
    (hts : TokAll dyn1 vs1 (toks x.cps.toList)) (hok : ∀ k ∈ toks x.cps.toList, OkTk k) (hle : (toks x.cps.toList).length ≤ 60) (g1 : @LT.lt Nat _ hl ce) (g2 : @LT.lt Nat _ ce f) (g3 : @LT.lt Nat _ 713 hl) (g4 : @LT.lt Nat _ c' hl) (g5 : @LT.lt Nat _ hl D) (g6 : @LT.lt Nat _ r1 hl) (g7 : ∀ p ∈ dyn1 ++ news, p.1 ≠ hl)
    (ret : ∀ v us n2 dyn k r v0 vr W h' tk', toks x.cps.toList = k :: r → k ≠ .cl → (toks x.cps.toList = [] ∨ outF 0 (toks x.cps.toList) = (toks x.cps.toList).length) → OkTk k → kqdOk 60 (firstD k r) = true → DatIn dyn v (firstD k r) → vs1 = v0 :: vr → TokIn dyn1 v0 k →
      StrsAre us (List.map tx W) → W = wordsOf ((toks x.cps.toList).take (outF 0 (toks x.cps.toList))) → Fr h₀ L h' m →
      News h₀ L h' ((hl, listOf us.toArray n2) :: (f, ⟨od, fs, .func fd, sl⟩) :: (ce, co) :: (713, o7) :: (c', oc) :: (D, oD) :: (r1, listOf vs1.toArray n1) :: (dyn ++ (dyn1 ++ news))) → Q v { s with heap := h', toks := tk' })
    (err : ∀ G e us n2 W h' tk', StrsAre us (List.map tx W) → W = wordsOf ((toks x.cps.toList).take (outF 0 (toks x.cps.toList))) → (toks x.cps.toList = [] ∨ outF 0 (toks x.cps.toList) < (toks x.cps.toList).length) → Fr h₀ L G m →
      RaisedSN base G (envX cn (fsc nm ig ic mo) L a ccd cl :: outer) e (.type "IndexError") ((hl, listOf us.toArray n2) :: (f, ⟨od, fs, .func fd, sl⟩) :: (ce, co) :: (713, o7) :: (c', oc) :: (D, oD) :: (r1, listOf vs1.toArray n1) :: (dyn1 ++ news)) h' → G.UpToSlots h' → E (.ref e) { s with heap := h', toks := tk' }) :
    wpAny (model PySem.Challenge.rw_fp5016_01.row.prog w) (ktrTop dp un gd cn (fsc nm ig ic mo) L a ccd cl outer) (call (.ref 670) [.str x t, .ref f]) Q E s := by
  refine law_parse_ok B F X (one_perm2 N) T hdp hun hx M ?_ (.head _) ?_ (fun v us n2 dyn h' tk' S d rest ht hS hf hd hs F4 N4 => ?_) (fun G e us n2 ts1 ts2 h' tk' hts2 hor hs FG R U => ?_)
  · intro p hp
    simp only [List.mem_cons, List.not_mem_nil, or_false] at hp ⊢
    rcases hp with rfl | rfl | rfl <;> simp
  · have q1 : @Ne Nat f hl := by omega
    have q2 : @Ne Nat ce hl := by omega
    have q3 : @Ne Nat 713 hl := by omega
    have q4 : @Ne Nat c' hl := by omega
    have q5 : @Ne Nat D hl := by omega
    have q6 : @Ne Nat r1 hl := by omega
    intro p hp
    rcases List.mem_cons.mp hp with rfl | hp
    · exact q1
    rcases List.mem_cons.mp hp with rfl | hp
    · exact q2
    rcases List.mem_cons.mp hp with rfl | hp
    · exact q3
    rcases List.mem_cons.mp hp with rfl | hp
    · exact q4
    rcases List.mem_cons.mp hp with rfl | hp
    · exact q5
    rcases List.mem_cons.mp hp with rfl | hp
    · exact q6
    exact g7 p hp
  · obtain ⟨e1, k, r, e2, e3, rfl⟩ := told_case ht hS hf
    obtain ⟨v0, vr, e4, e5⟩ := tok_head hts e2
    exact ret v us n2 dyn k r v0 vr _ h' tk' e2 e3 (.inr e1) (hok k (e2 ▸ List.mem_cons_self)) (first_ok (e2 ▸ hok) (e2 ▸ hle)) hd e4 e5 hs (by rw [e1, List.take_length]) F4 (one_perm3 N4)
  · obtain ⟨e1, e2⟩ := err_case hts2 hor
    exact err G e us n2 _ h' tk' hs e1 e2 FG R U
end
section
local macro_rules | `(tactic| k_room) => `(tactic| ktr_room)
local macro_rules | `(tactic| k_units) => `(tactic| ktr_units)
local macro_rules | `(tactic| k_all) => `(tactic| first | assumption | (refine List.forall_mem_cons.mpr ⟨by k_ne, ?_⟩; k_all))
local macro_rules | `(tactic| walk_at "call ref") => `(tactic| k_extra "mine call")
local macro_rules | `(tactic| walk_at "CompEnd") => `(tactic| k_extra "mine end")
local macro_rules | `(tactic| walk_at "CompSrcT") => `(tactic| k_extra "mine src")
local macro_rules | `(tactic| walk_at "compareOp Eq") => `(tactic| k_extra "mine eq")
local macro_rules | `(tactic| walk_at "compareOp Eq ref ref") => `(tactic| k_extra "mine eq")
local macro_rules | `(tactic| walk_at "compareOp NotEq ref ref") => `(tactic| k_extra "mine ne")
local macro_rules | `(tactic| walk_at "compareOp Eq ref str") => `(tactic| k_dflt (refine' my_leafstr2 ?N ?m ?s ?w ?y ?u ?_; (case N => k_asm); (case m => assumption); (case s => k_extra "mine sub"); (case w => assumption); (case y => decide +kernel); (case u => ktr_units)))
local macro_rules | `(tactic| walk_at "compareOp Eq str str") => `(tactic| k_dflt (refine' my_eqstr (b := ?b) ?h ?_; (case h => first | exact (by decide +kernel : _ = true) | exact (by decide +kernel : _ = false))))
local macro_rules | `(tactic| walk_at "call builtin:len") => `(tactic| ((with_reducible show wpAny _ _ (call (Value.builtin "len") [Value.ref _]) _ _ _); k_dflt (refine' my_len ?N ?m ?z ?_; (case N => k_asm); (case m => k_mem); (case z => omega))))
local macro_rules | `(tactic| walk_at "subscriptTail") => `(tactic| k_extra "mine item")
local macro_rules | `(tactic| walk_at "subscriptTail Name Slice ref ref") => `(tactic| ((with_reducible show wpAny _ _ (subscriptTail _ (PySem.Expr.Slice _ _ none _) (Value.ref _) (Value.ref _)) _ _ _); k_dflt (refine' my_upto ?F ?N ?m ?e ?z ?_ ?s ?t; (case F => k_asm); (case N => k_asm); (case m => k_mem); (case e => assumption); (case z => omega); (case s => with_unfolding_all rfl); (case t => (intro _; with_unfolding_all rfl))); intro D' h' F' N' l1; (try k_lt l1)))
theorem law_one_ok {LS : List PySem.Str} {w : World} {mean : ExcName → Option Value} {mg mb : PySem.Str → Option Value} {dp un : Nat} {gd : Option (List Code)} {cn : PySem.Str} {nm : List (PySem.Str × NameKind)} {ig ic : Bool} {mo : List (PySem.Str × Const)} {a : Addr} {ccd : Value} {A₀ : Around} {base h₀ : Heap} {L : Addr} {m : PySem.Str → Option Value} {s : Shared}
    {Q E : Value → Shared → Prop} {x : PySem.Str} {t : Tok} {c' : Addr} {oc : Obj} {news : List (Addr × Obj)}
    (B : Below A₀ base [] h₀) (F : Fr h₀ L s.heap m) (X : (pre.heap_1 w.params).In h₀) (XB : (pre.heap_1 w.params).In base) (TB : Top topProg LS mean mg mb base) (C : CodeHd base 717 713) (N : News h₀ L s.heap ((713, tabObj (#[] ++ #[rawInt 467, rawInt 4, Value.ref c'])) :: (c', oc) :: news)) (T : Top topProg LS mean mg mb h₀)
    (hcm : CodeMade oc) (hdp : dp < 600) (hun : un < 6000) (hx : x.length ≤ 60) (hlow : ∀ c ∈ x.cps.toList, c < 128)
    (ret : ∀ b h' tk', b = true → Fr h₀ L h' m → News h₀ L h' ((713, tabObj (#[] ++ #[rawInt 467, rawInt 4, Value.ref c'])) :: (c', oc) :: news) → Q (.bool b) { s with heap := h', toks := tk' }) :
    wpAny (model PySem.Challenge.rw_fp5016_01.row.prog w) (ktrTop dp un gd cn (fsc nm ig ic mo) L a ccd [] []) (call (.ref 730) [.str x t]) Q E s := by
  revert XB X; k_fill; intro XB X
  refine wpAny_call ?_
  k_with "mine call" =>
    k_dflt (
      refine' law_tokens_ok ?B ?F ?X ?N ?T ?d ?u ?x (fun r1 vs1 n1 dyn1 h1 tk1 hts1 F1 N1 => ?_)
      (case B => k_asm)
      (case F => k_asm)
      (case X => k_asm)
      (case N => k_asm)
      (case T => k_asm)
      (case d => ((try dsimp only [ktrTop]); (try simp only [depth_deeper, depth_in1, depth_under_make, depth_caller]); omega))
      (case u => (have hcL9 := cLine_is; (simp only [units_in1, units_deeper, Around.mark_units, units_caller] at *); (try dsimp only [ktrTop] at *); omega))
      (case x => assumption)
      all_goals (have hok1 := toks_ok hlow)
      all_goals (have hle1 := Nat.le_trans (toks_le hlow) hx)
      all_goals (have hvl1 := hts1.length))
  k_with "mine call" =>
    k_dflt (
      refine' law_outrun_ok (nt := dyn1) ?B ?F ?X ?N ?T ?d ?u ?l hts1 ?s ?z (fun i2 ti2 h2 tk2 hi2 F2 N2 => ?_)
      (case B => k_asm)
      (case F => k_asm)
      (case X => k_asm)
      (case N => k_asm)
      (case T => k_asm)
      (case d => ((try dsimp only [ktrTop]); (try simp only [depth_deeper, depth_in1, depth_under_make, depth_caller]); omega))
      (case u => (have hcL9 := cLine_is; (simp only [units_in1, units_deeper, Around.mark_units, units_caller] at *); (try dsimp only [ktrTop] at *); omega))
      (case l => k_mem)
      (case s => (intro p hp; simp only [hp, List.mem_cons, List.mem_append, true_or, or_true]))
      (case z => omega))
  k_with "mine call" =>
    k_dflt (
      refine' law_array_ok w 60 (i := 1) ?B ?F ?X ?N ?T ?d ?u ?l hts1 ?s hok1 ?ii ?b1 ?b2 ?b3 (fun r6 ra6 us6 nu6 j6 ji6 tj6 nr6 tl6 h6 tk6 hji6 hj6 hij6 hq6 hds6 hul6 hra6 hord6 hr6 F6 N6 => ?_)
      (case B => k_asm)
      (case F => k_asm)
      (case X => k_asm)
      (case N => k_asm)
      (case T => k_asm)
      (case d => ((try dsimp only [ktrTop]); (try simp only [depth_deeper, depth_in1, depth_under_make, depth_caller]); omega))
      (case u => (have hcL9 := cLine_is; (simp only [units_in1, units_deeper, Around.mark_units, units_caller] at *); (try dsimp only [ktrTop] at *); omega))
      (case l => k_mem)
      (case s => (intro p hp; simp only [hp, List.mem_cons, List.mem_append, true_or, or_true]))
      (case ii => rfl)
      (case b1 => (simp only [List.length_cons] at *; omega))
      (case b2 => (simp only [List.length_cons] at *; omega))
      (case b3 => (simp only [List.length_cons] at *; omega)))
  k_with "mine call" =>
    k_dflt (
      refine' reader_hit (us := []) (nh := 0) ?B ?F ?X ?C ?N ?T hcm ?d ?u (fun f3 ce3 fo3 co3 fd3 fs3 od3 sl3 h3 tk3 hM3 hfo3 F3 hlt3 hl3 hc3 hf3 N3 => ?_)
      (case B => k_asm)
      (case F => k_asm)
      (case X => k_asm)
      (case N => exact one_perm1 (by k_asm))
      (case T => k_asm)
      (case d => ((try dsimp only [ktrTop]); (try simp only [depth_deeper, depth_in1, depth_under_make, depth_caller]); omega))
      (case u => (have hcL9 := cLine_is; (simp only [units_in1, units_deeper, Around.mark_units, units_caller] at *); (try dsimp only [ktrTop] at *); omega))
      (case C => exact C)
      all_goals (subst hfo3)
      all_goals (k_lt hlt3))
  k_with "mine call" =>
    k_dflt (
      refine' parse_one (nh := 0) ?B ?F ?X ?N ?T ?d ?u ?x hM3 hts1 hok1 hle1 ?g1 ?g2 ?g3 ?g4 ?g5 ?g6 ?g7 (fun v4 us4 n4 dyn4 k4 r4 v04 vr4 W4 h4 tk4 hT4 hk4 ho4 hok4 hq4 hd4 hv4 ht4 hs4 hw4 F4 N4 => ?_) (fun G5 e5 us4 n4 W4 h5 tk5 hs4 hw4 ho4 FG5 R5 U5 => ?_)
      (case B => k_asm)
      (case F => k_asm)
      (case X => k_asm)
      (case N => k_asm)
      (case T => k_asm)
      (case d => ((try dsimp only [ktrTop]); (try simp only [depth_deeper, depth_in1, depth_under_make, depth_caller]); omega))
      (case u => (have hcL9 := cLine_is; (simp only [units_in1, units_deeper, Around.mark_units, units_caller] at *); (try dsimp only [ktrTop] at *); omega))
      (case x => assumption)
      (case g1 => exact hl3)
      (case g2 => exact hf3)
      (case g3 => exact (lt_parts (by assumption)).1)
      (case g4 => exact (lt_parts (by assumption)).2.1)
      (case g5 => omega)
      (case g6 => omega)
      (case g7 => exact (lt_parts (by assumption)).2.2))
  k_with "mine sub" => (intro p hp; simp only [hp, List.mem_cons, List.mem_append, true_or, or_true])
  k_with "mine src" => k_dflt (
      refine' wd_src (nt := dyn1) ?hh ?F ?N ?m (hts1.take _) ?z (fun v7 k7 I7 oI7 C7 oC7 D7 ys7 m7 h7 tk7 E7 hk7 hC7 hx7 F7 N7 off7 ne7 => ?_) (fun ys7 g7 hy7 => ?_)
      (case hh => rfl)
      (case F => k_asm)
      (case N => k_asm)
      (case m => k_mem)
      (case z => (rw [List.length_take]; omega))
      rcases hk7 with t7 | t7 | _ | ⟨a7, w7, t17, t27, n7, hm7⟩
      all_goals (try have hm8 := mem_of N7 hm7 (fun p hp => by simp only [hp, List.mem_cons, List.mem_append, true_or, or_true]))
      all_goals (try k_fold))
  k_with "mine end" => k_dflt (refine LCg.CompEnd.intro (by k_asm) (by k_asm) _ (fun p hp => hp) (by assumption) (.inr ⟨_, by k_mem, rfl, _, rfl⟩) (by first | exact ⟨rfl, rfl⟩ | exact ⟨rfl, _, _, rfl, rfl⟩))
  k_with "mine ne" => k_dflt (refine' my_neW ?N ?ma ?mb hs4 ?hb hw4 (ok_take hok1) ?u ?_; (case N => k_asm); (case ma => k_mem); (case mb => k_mem); (case hb => assumption); (case u => ktr_units))
  k_with "mine eq" => k_dflt (first
    | (refine' my_eqnil ?N ?ma ?mb hts1 ?s hok1 ?u (fun hn8 => ?_) (fun hn8 => ?_); (case N => k_asm); (case ma => k_mem); (case mb => k_mem); (case s => (intro p hp; simp only [hp, List.mem_cons, List.mem_append, true_or, or_true])); (case u => ktr_units); all_goals (try have ho8 := ho4.resolve_left hn8))
    | (refine' my_eqArr ?N hd4 ?s1 hra6 hds6 ?s2 hT4 hq4 ?u ?_; (case N => k_asm); (case s1 => (intro p hp; simp only [hp, List.mem_cons, List.mem_append, true_or, or_true])); (case s2 => (intro p hp; rcases List.mem_append.mp hp with hp | hp <;> simp only [hp, List.mem_cons, List.mem_append, true_or, or_true])); (case u => ktr_units))
    | (refine' my_eqTok ?N hd4 ?s1 ht8 ?s2 rfl hq4 ?u ?_; (case N => k_asm); (case s1 => (intro p hp; simp only [hp, List.mem_cons, List.mem_append, true_or, or_true])); (case s2 => (intro p hp; simp only [hp, List.mem_cons, List.mem_append, true_or, or_true])); (case u => ktr_units)))
  k_with "mine item" => k_dflt (first
    | (refine' my_item0 ?k ?N ?m ?_ ?s; (case k => exact rfl); (case N => k_asm); (case m => k_mem); (case s => with_unfolding_all rfl))
    | (subst hv4; refine' my_item0 ?k ?N ?m ?_ ?s; (case k => exact rfl); (case N => k_asm); (case m => k_mem); (case s => with_unfolding_all rfl); have ht8 := ht4.dat; rcases ht4 with t8 | t8 | _ | ⟨a8, w8, t18, t28, n8, hm8⟩; all_goals (try exact absurd rfl hk4); all_goals (try dsimp only [OkTk] at hok4)))
  k_enter
  k_steps
  all_goals first
    | (exact absurd (hT4.symm.trans hn8) (by simp))
    | (exfalso; omega)
    | (refine' ret _ _ _ ?b ?F ?N; (case b => first | rfl | decide +kernel); (case F => k_asm); (case N => (refine news_sub (by k_asm) (sub_c (by first | k_mem | simp only [List.mem_cons, List.mem_append, true_or, or_true]) (sub_c (by first | k_mem | simp only [List.mem_cons, List.mem_append, true_or, or_true]) ?_)); k_extra "mine sub")))
end
section
theorem parse_plain {LS : List PySem.Str} {w : World} {mean : ExcName → Option Value} {mg mb : PySem.Str → Option Value} {dp un : Nat} {gd : Option (List Code)} {cn : PySem.Str} {nm : List (PySem.Str × NameKind)} {ig ic : Bool} {mo : List (PySem.Str × Const)} {a : Addr} {ccd : Value} {cl : List (PySem.Str × Addr)} {outer : List Env} {A₀ : Around} {base h₀ : Heap} {L : Addr} {m : PySem.Str → Option Value} {s : Shared}
    {Q E : Value → Shared → Prop} {hl f c' ce : Addr} {nh : Nat} {oc co o7 : Obj} {od : Value} {fs : Option Addr} {fd : FuncData} {sl : Array (Option Value)} {t : Tok}
    (B : Below A₀ base outer h₀) (F : Fr h₀ L s.heap m) (X : (pre.heap_1 w.params).In h₀) (N : News h₀ L s.heap [(f, ⟨od, fs, .func fd, sl⟩), (c', oc), (ce, co), (hl, listOf ([] : List Value).toArray nh), (713, o7)]) (T : Top topProg LS mean mg mb h₀)
    (hdp : dp < 870) (hun : un < 8700) (M : MarkSpec PySem.Challenge.rw_fp5016_01.row.prog w (pre.heap_1 w.params) topProg LS f hl [(f, ⟨od, fs, .func fd, sl⟩), (c', oc), (ce, co)])
    (g1 : @LT.lt Nat _ hl ce) (g2 : @LT.lt Nat _ ce c') (g3 : @LT.lt Nat _ c' f) (g4 : @Ne Nat hl 713)
    (ret : ∀ v us n2 dyn h' tk', DatIn dyn v plainD → Fr h₀ L h' m → News h₀ L h' ((hl, listOf us n2) :: (713, o7) :: (c', oc) :: dyn) → Q v { s with heap := h', toks := tk' }) :
    wpAny (model PySem.Challenge.rw_fp5016_01.row.prog w) (ktrTop dp un gd cn (fsc nm ig ic mo) L a ccd cl outer) (call (.ref 670) [.str plainT t, .ref f]) Q E s := by
  have N0 : News h₀ L s.heap ((hl, listOf ([] : List Value).toArray nh) :: [(713, o7), (c', oc), (f, ⟨od, fs, .func fd, sl⟩), (ce, co)]) := news_sub N (by
    intro p hp
    simp only [List.mem_cons, List.not_mem_nil, or_false] at hp ⊢
    rcases hp with h | h | h | h | h <;> simp [h])
  refine law_parse_ok B F X N0 T hdp hun plain_len M ?_ (.tail _ (.tail _ (.head _))) ?_ (fun v us n2 dyn h' tk' S d rest ht hS hf hd hs F4 N4 => ?_) (fun G e us n2 ts1 ts2 h' tk' hts2 hor hs FG R U => ?_)
  · intro p hp
    simp only [List.mem_cons, List.not_mem_nil, or_false] at hp ⊢
    rcases hp with rfl | rfl | rfl <;> simp
  · have q1 : @Ne Nat f hl := by omega
    have q2 : @Ne Nat ce hl := by omega
    have q3 : @Ne Nat 713 hl := by omega
    have q4 : @Ne Nat c' hl := by omega
    intro p hp
    simp only [List.mem_cons, List.not_mem_nil, or_false] at hp
    rcases hp with rfl | rfl | rfl | rfl
    · exact q3
    · exact q4
    · exact q1
    · exact q2
  · obtain ⟨_, k, r, e2, e3, rfl⟩ := told_case ht hS hf
    rw [plain_toks] at e2
    cases e2
    refine ret v us.toArray n2 dyn h' tk' hd F4 (news_sub N4 ?_)
    intro p hp
    simp only [List.mem_cons, List.mem_append] at hp ⊢
    rcases hp with h | h | h | h <;> simp [h]
  · obtain ⟨_, e2⟩ := err_case hts2 hor
    rw [plain_toks] at e2
    exact absurd e2 (by decide +kernel)
end
theorem main.tw6255680235259050193 : True := trivial
theorem main.tw11156056980113079860 : True := trivial
theorem main.tw9925473207672590910 : True := trivial
theorem main.tw8658965053360892750 : True := trivial
theorem main.tw8927969163387163360 : True := trivial
theorem main.tw12355080588884486788 : True := trivial
theorem main.tw16904365256266073389 : True := trivial
theorem main.tw14874014908545296043 : True := trivial
theorem main.tw8048513629629015766 : True := trivial
theorem main.tw4177236489201103193 : True := trivial
theorem main.tw634578264873545934 : True := trivial
theorem main.tw6650588276249435582 : True := trivial
theorem main.tw7560665506337697597 : True := trivial
theorem main.tw15933231588835928278 : True := trivial
theorem main.tw16627040131766350915 : True := trivial
theorem main.tw17511203087670042555 : True := trivial
theorem main.tw6329012177193406427 : True := trivial
theorem main.tw4124465007535222370 : True := trivial
theorem main.tw3628702603083378023 : True := trivial
theorem main.tw13921549641620141925 : True := trivial
theorem main.tw6722501755855997836 : True := trivial
theorem main.tw5846713658911694665 : True := trivial
theorem main.tw15270760803045854814 : True := trivial
theorem main.tw17863840789101769243 : True := trivial
section
local macro_rules | `(tactic| k_room) => `(tactic| ktr_room)
local macro_rules | `(tactic| k_units) => `(tactic| ktr_units)
local macro_rules | `(tactic| k_all) => `(tactic| first | assumption | (exact List.forall_mem_nil _) | (refine List.forall_mem_cons.mpr ⟨by k_ne, ?_⟩; k_all))
local macro_rules | `(tactic| walk_at "call ref") => `(tactic| k_extra "mine call")
local macro_rules | `(tactic| walk_at "compareOp Eq") => `(tactic| k_extra "mine eq")
set_option Elab.async true
theorem main : PySem.Challenge.rw_fp5016_01.Holds := by
  (w_on; o_law; k_head; (case hw => w_witness2))
  k_with "mine call" =>
    k_dflt (
      refine' law_text_ok ?oB ?oF ?oX ?oN ?oT ?od ?ou ?olt ?ohr ?ohI ?ok0 ?ok1 ?olen (fun x1 tx1 k1 t1 h1 tk1 hx1 hlow1 hk1 hk1' F1 N1 => ?_)
      (case oB => k_asm)
      (case oF => k_asm)
      (case oX => k_asm)
      (case oN => k_asm)
      (case oT => k_asm)
      (case od => ((try dsimp only [ktrTop]); (try simp only [depth_deeper, depth_in1, depth_under_make, depth_caller]); omega))
      (case ou => (have hcL9 := cLine_is; (simp only [units_in1, units_deeper, Around.mark_units, units_caller] at *); (try dsimp only [ktrTop] at *); omega))
      (case olt => exact ltN (by omega))
      (case ohr => k_all)
      (case ohI => assumption)
      (case ok0 => omega)
      (case ok1 => omega)
      (case olen => omega))
  k_with "mine call" =>
    k_dflt (
      refine' reader_new (us := []) (nh := 0) (news := []) ?oB ?oF ?oX ?oC ?oN ?oT ?ohn ?ohh ?od ?ou (fun f3 c3 ce3 oc3 fo3 co3 fd3 fs3 od3 sl3 h3 tk3 hM3 hfo3 F3 hlt3 hl3 hc3 hf3 hcm3 N3 => ?_)
      (case oB => k_asm)
      (case oF => k_asm)
      (case oX => k_asm)
      (case oN => exact news_sub (by k_asm) (sub_c (by k_mem) (sub_c (by k_mem) (List.forall_mem_nil _))))
      (case oT => k_asm)
      (case od => ((try dsimp only [ktrTop]); (try simp only [depth_deeper, depth_in1, depth_under_make, depth_caller]); omega))
      (case ou => (have hcL9 := cLine_is; (simp only [units_in1, units_deeper, Around.mark_units, units_caller] at *); (try dsimp only [ktrTop] at *); omega))
      (case oC => assumption)
      (case ohn => (exact List.forall_mem_nil _))
      (case ohh => k_ne)
      all_goals (subst hfo3))
  k_with "mine call" =>
    k_dflt (
      refine' parse_plain ?oB ?oF ?oX ?oN ?oT ?od ?ou hM3 hl3 hc3 hf3 ?og4 (fun v4 us4 n4 dyn4 h4 tk4 hd4 F4 N4 => ?_)
      (case oB => k_asm)
      (case oF => k_asm)
      (case oX => k_asm)
      (case oN => k_asm)
      (case oT => k_asm)
      (case od => ((try dsimp only [ktrTop]); (try simp only [depth_deeper, depth_in1, depth_under_make, depth_caller]); omega))
      (case ou => (have hcL9 := cLine_is; (simp only [units_in1, units_deeper, Around.mark_units, units_caller] at *); (try dsimp only [ktrTop] at *); omega))
      (case og4 => k_ne))
  k_with "mine call" =>
    k_dflt (
      refine' law_one_ok (news := []) ?oB ?oF ?oX ?oXB ?oTB ?oC ?oN ?oT hcm3 ?od ?ou ?ox ?olow (fun b9 h9 tk9 hb9 F9 N9 => ?_)
      (case oB => k_asm)
      (case oF => k_asm)
      (case oX => k_asm)
      (case oN => exact news_sub (by k_asm) (sub_c (by first | k_mem | simp only [List.mem_cons, List.mem_append, true_or, or_true]) (sub_c (by first | k_mem | simp only [List.mem_cons, List.mem_append, true_or, or_true]) (List.forall_mem_nil _))))
      (case oT => k_asm)
      (case od => ((try dsimp only [ktrTop]); (try simp only [depth_deeper, depth_in1, depth_under_make, depth_caller]); omega))
      (case ou => (have hcL9 := cLine_is; (simp only [units_in1, units_deeper, Around.mark_units, units_caller] at *); (try dsimp only [ktrTop] at *); omega))
      (case oXB => k_asm)
      (case oTB => k_asm)
      (case oC => assumption)
      (case ox => first | omega | exact wrap_len (by assumption))
      (case olow => first | assumption | exact wrap_low (by assumption))
      all_goals (subst hb9))
  k_with "mine eq" => k_dflt (refine' my_eqT ?oN hd4 ?os1 (DatIn.list ?om1 (.cons (.tuple (vs := [_, _]) ?om2 (.cons (.str _ _) (.cons (.str _ _) .nil))) (.cons .none (.cons (.list (vs := [_]) ?om3 (.cons (.tuple (vs := [_, _]) ?om4 (.cons (.str _ _) (.cons (.str _ _) .nil))) .nil)) .nil)))) (fun _ h => h) plain_ok (plainD_eq ▸ plain_ok) ?ou plainD_eq ?_; (case oN => k_asm); (case os1 => (intro p hp; simp only [hp, List.mem_cons, List.mem_append, true_or, or_true])); (case om1 => k_mem); (case om2 => k_mem); (case om3 => k_mem); (case om4 => k_mem); (case ou => ktr_units))
  w_strict (k_go0; (all_goals try k_fold); k_steps; (all_goals (try k_data)))
end
end Mine
theorem PySem.Challenge.cw_fp5016_01_holds : PySem.Challenge.rw_fp5016_01.Holds :=
  Mine.main
